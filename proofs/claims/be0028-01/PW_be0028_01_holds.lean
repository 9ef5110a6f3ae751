import PyProof.Rows.All
import PyProof.ConsumeS
import PyProof.DictTruth
import PyProof.DictWalks
import PyProof.WalksMore
import PyProof.RangeFor
import PyProof.SetNew
import KE.KEqDict
import KE.KNestM
import KE.KSortTup
import Wide.FinOn
import OpenK.AllK
import Wide.All
import PySem.Challenge.RW_be0028_01
set_option autoImplicit false
set_option linter.all false
set_option maxRecDepth 100000
set_option maxHeartbeats 8000000
set_option Elab.async false
set_option genInjectivity false
set_option genSizeOf false
set_option tactic.hygienic false
set_option compiler.extract_closed false
section
namespace Mine
open PySem PySem.W PyProof.Rows PySem.W.Fast
theorem left_boot {p q : Program} {loose : List Str} {Xt : Shared → Bool} {α : Type} {Yf : Shared → α} {Ya : World → α} {N : Nat} {g0 : Bool}
    (e : opening p = plainProg p.main.scope.names) (hN : Nat.ble 600 N = true) (f : ∀ s, fenceModules? p s = some s)
    (ns : ∀ w : World, ((boot_heap w.params).isNs mainGlobals && (Array.mk [] : Array GenState).size == 0) = true)
    (run : ∀ w : World, (fun os => (tw14082659384304107361 tw14364793385576792824 p w (boot_heap w.params).objs.size ((boot_heap w.params).nsMap mainGlobals "__annotations__") N ⟨boot_heap w.params, Array.mk [], boot_drawn, boot_toks, os⟩ (topStub p)).map fun s =>
      (staticsOk (importedModules p.main.body) (boot_heap w.params) s.heap && namesBound p s.heap && gensDone s && laidKept (boot_heap w.params) s.heap, tw4187177175401517315 q loose (importedModules p.main.body) Xt g0 s, Yf s)) = fun _ => some (true, openGood q loose, Ya w)) :
    LeftO p q loose Xt Yf Ya N g0 := fun w => by
  obtain ⟨⟨h, gs, d, k, os⟩, a, b⟩ := Option.map_eq_some_iff.mp (boot_open e hN f w)
  obtain ⟨rfl, rfl, rfl, rfl⟩ : h = boot_heap w.params ∧ gs = Array.mk [] ∧ d = boot_drawn ∧ k = boot_toks := by simpa only [Prod.mk.injEq] using b
  have r := congrFun (run w) os
  rw [← te14082659384304107361, ← te14364793385576792824, ← te4187177175401517315] at r
  obtain ⟨s, c, g⟩ := Option.map_eq_some_iff.mp r
  obtain ⟨l1, l2, l3⟩ : _ ∧ _ ∧ _ := by simpa only [Prod.mk.injEq] using g
  have t : topFrom treeTable p w N ⟨boot_heap w.params, Array.mk [], boot_drawn, boot_toks, os⟩ = some s := by
    unfold topFrom
    dsimp only
    rw [ns w, c]
    show (match staticsOk (importedModules p.main.body) (boot_heap w.params) s.heap && namesBound p s.heap && gensDone s && laidKept (boot_heap w.params) s.heap with | true => _ | false => _) = _
    rw [l1]
  unfold openEnds
  rw [a]
  show (topFrom treeTable p w N _).map _ = _
  rw [t]
  show some (_, _) = some (_, _)
  rw [l2, l3]
theorem saidL : OpenLaw.wellSaid PySem.Challenge.rw_be0028_01 = true := (congrFun te9446332074065402090 _).trans (by kernel_rfl)
noncomputable def tabsL : List Addr := [16, 30, 37, 44, 51, 58, 72, 79, 86, 100, 107, 114, 121, 128, 135, 142, 147, 169, 176, 183, 188, 196, 201, 208, 215, 222, 229, 236, 243, 250, 257, 264, 271, 278, 286, 293, 304, 314, 323, 340, 347, 354, 359, 364, 369, 376, 381, 386]
noncomputable def qL : Program := view PySem.Challenge.pw_be0028_01 [9, 17]
noncomputable def looseL : List Str := ["_wall", "Nonterminal", "is_nonterminal", "is_terminal", "_key", "Production", "CFG", "transitive_closure", "_law_next", "_law_drawn", "_law_made", "_law_rows", "_law_joined", "_law_words", "_law_kept"]
section
local macro_rules | `(tactic| o_law) => `(tactic| refine holds_law saidL fun said => ?_)
local macro_rules | `(tactic| o_head (kHook $k $a $e)) => `(tactic| refine (fun (_ : True) h => h) ?hw ?hc)
local macro_rules | `(tactic| w_witness2) => `(tactic| trivial)
open_top hk for PySem.Challenge.rw_be0028_01
end
noncomputable def asL : List Addr := [2, 3, 15, 17, 18, 20, 21, 29, 31, 32, 34, 35, 36, 38, 39, 41, 42, 43, 45, 46, 48, 49, 50, 52, 53, 55, 56, 57, 59, 60, 62, 63, 64, 65, 66, 67, 68, 71, 73, 74, 76, 77, 78, 80, 81, 83, 84, 85, 87, 88, 90, 91, 99, 101, 102, 104, 105, 106, 108, 109, 111, 112, 113, 115, 116, 118, 119, 120, 122, 123, 125, 126, 127, 129, 130, 132, 133, 134, 136, 137, 139, 140, 141, 144, 145, 146, 148, 149, 151, 152, 153, 154, 155, 156, 157, 167, 168, 170, 171, 173, 174, 175, 177, 178, 180, 181, 182, 185, 186, 187, 189, 190, 192, 193, 194, 195, 198, 199, 200, 202, 203, 205, 206, 207, 209, 210, 212, 213, 214, 216, 217, 219, 220, 221, 223, 224, 226, 227, 228, 230, 231, 233, 234, 235, 237, 238, 240, 241, 242, 244, 245, 247, 248, 249, 251, 252, 254, 255, 256, 258, 259, 261, 262, 263, 265, 266, 268, 269, 270, 272, 273, 275, 276, 277, 279, 280, 282, 283, 284, 285, 287, 288, 290, 291, 292, 294, 295, 297, 298, 299, 300, 301, 302, 303, 305, 306, 308, 309, 310, 311, 312, 313, 316, 317, 318, 319, 320, 321, 322, 324, 325, 327, 328, 329, 330, 331, 332, 333, 334, 335, 336, 339, 341, 342, 344, 345, 346, 348, 349, 351, 352, 353, 356, 357, 358, 361, 362, 363, 366, 367, 368, 370, 371, 373, 374, 375, 378, 379, 380, 383, 384, 385, 388, 389]
theorem asL_eq (P : Params) : asL = (hk.heap_1 P).map (·.1) := by kernel_rfl
noncomputable abbrev hookL : Hook := kmHook hk.heap_1 asL asL_eq tabsL
theorem leftL : LeftO PySem.Challenge.pw_be0028_01 qL looseL (fun _ => true) hookL.obs hookL.val 5164 :=
  left_boot (by kernel_rfl) (by decide +kernel) (fun s => by kernel_rfl) (fun w => by kernel_rfl) fun w => by kernel_rfl
end Mine
end
namespace Mine
section
open PySem PySem.Calls
theorem el15 {α0:Sort _}{p0 p1 p2 p3 p4:α0->Prop}{G:Prop}(h:∃ x0,p0 x0∧p1 x0∧p2 x0∧p3 x0∧p4 x0)(k:∀ x0,p0 x0->p1 x0->p2 x0->p3 x0->p4 x0->G):G:=h.elim fun x0 h=>k x0 h.1 h.2.1 h.2.2.1 h.2.2.2.1 h.2.2.2.2
theorem el21 {α0:Sort _}{α1:Sort _}{p0:α0->α1->Prop}{G:Prop}(h:∃ x0 x1,p0 x0 x1)(k:∀ x0 x1,p0 x0 x1->G):G:=h.elim fun x0 h=>h.elim fun x1 h=>k x0 x1 h
theorem el12 {α0:Sort _}{p0 p1:α0->Prop}{G:Prop}(h:∃ x0,p0 x0∧p1 x0)(k:∀ x0,p0 x0->p1 x0->G):G:=h.elim fun x0 h=>k x0 h.1 h.2
theorem e2 {p q G:Prop}(h:p∧q)(k:p->q->G):G:=k h.1 h.2
theorem el03 {p0 p1 p2:Prop}{G:Prop}(h:p0∧p1∧p2)(k:p0->p1->p2->G):G:=k  h.1 h.2.1 h.2.2
theorem el22 {α0:Sort _}{α1:Sort _}{p0 p1:α0->α1->Prop}{G:Prop}(h:∃ x0 x1,p0 x0 x1∧p1 x0 x1)(k:∀ x0 x1,p0 x0 x1->p1 x0 x1->G):G:=h.elim fun x0 h=>h.elim fun x1 h=>k x0 x1 h.1 h.2
theorem el13 {α0:Sort _}{p0 p1 p2:α0->Prop}{G:Prop}(h:∃ x0,p0 x0∧p1 x0∧p2 x0)(k:∀ x0,p0 x0->p1 x0->p2 x0->G):G:=h.elim fun x0 h=>k x0 h.1 h.2.1 h.2.2
theorem el32 {α0:Sort _}{α1:Sort _}{α2:Sort _}{p0 p1:α0->α1->α2->Prop}{G:Prop}(h:∃ x0 x1 x2,p0 x0 x1 x2∧p1 x0 x1 x2)(k:∀ x0 x1 x2,p0 x0 x1 x2->p1 x0 x1 x2->G):G:=h.elim fun x0 h=>h.elim fun x1 h=>h.elim fun x2 h=>k x0 x1 x2 h.1 h.2
theorem el23 {α0:Sort _}{α1:Sort _}{p0 p1 p2:α0->α1->Prop}{G:Prop}(h:∃ x0 x1,p0 x0 x1∧p1 x0 x1∧p2 x0 x1)(k:∀ x0 x1,p0 x0 x1->p1 x0 x1->p2 x0 x1->G):G:=h.elim fun x0 h=>h.elim fun x1 h=>k x0 x1 h.1 h.2.1 h.2.2
theorem el14 {α0:Sort _}{p0 p1 p2 p3:α0->Prop}{G:Prop}(h:∃ x0,p0 x0∧p1 x0∧p2 x0∧p3 x0)(k:∀ x0,p0 x0->p1 x0->p2 x0->p3 x0->G):G:=h.elim fun x0 h=>k x0 h.1 h.2.1 h.2.2.1 h.2.2.2
theorem el05 {p0 p1 p2 p3 p4:Prop}{G:Prop}(h:p0∧p1∧p2∧p3∧p4)(k:p0->p1->p2->p3->p4->G):G:=k  h.1 h.2.1 h.2.2.1 h.2.2.2.1 h.2.2.2.2
theorem el33 {α0:Sort _}{α1:Sort _}{α2:Sort _}{p0 p1 p2:α0->α1->α2->Prop}{G:Prop}(h:∃ x0 x1 x2,p0 x0 x1 x2∧p1 x0 x1 x2∧p2 x0 x1 x2)(k:∀ x0 x1 x2,p0 x0 x1 x2->p1 x0 x1 x2->p2 x0 x1 x2->G):G:=h.elim fun x0 h=>h.elim fun x1 h=>h.elim fun x2 h=>k x0 x1 x2 h.1 h.2.1 h.2.2
theorem el24 {α0:Sort _}{α1:Sort _}{p0 p1 p2 p3:α0->α1->Prop}{G:Prop}(h:∃ x0 x1,p0 x0 x1∧p1 x0 x1∧p2 x0 x1∧p3 x0 x1)(k:∀ x0 x1,p0 x0 x1->p1 x0 x1->p2 x0 x1->p3 x0 x1->G):G:=h.elim fun x0 h=>h.elim fun x1 h=>k x0 x1 h.1 h.2.1 h.2.2.1 h.2.2.2
theorem el52 {α0:Sort _}{α1:Sort _}{α2:Sort _}{α3:Sort _}{α4:Sort _}{p0 p1:α0->α1->α2->α3->α4->Prop}{G:Prop}(h:∃ x0 x1 x2 x3 x4,p0 x0 x1 x2 x3 x4∧p1 x0 x1 x2 x3 x4)(k:∀ x0 x1 x2 x3 x4,p0 x0 x1 x2 x3 x4->p1 x0 x1 x2 x3 x4->G):G:=h.elim fun x0 h=>h.elim fun x1 h=>h.elim fun x2 h=>h.elim fun x3 h=>h.elim fun x4 h=>k x0 x1 x2 x3 x4 h.1 h.2
theorem el43 {α0:Sort _}{α1:Sort _}{α2:Sort _}{α3:Sort _}{p0 p1 p2:α0->α1->α2->α3->Prop}{G:Prop}(h:∃ x0 x1 x2 x3,p0 x0 x1 x2 x3∧p1 x0 x1 x2 x3∧p2 x0 x1 x2 x3)(k:∀ x0 x1 x2 x3,p0 x0 x1 x2 x3->p1 x0 x1 x2 x3->p2 x0 x1 x2 x3->G):G:=h.elim fun x0 h=>h.elim fun x1 h=>h.elim fun x2 h=>h.elim fun x3 h=>k x0 x1 x2 x3 h.1 h.2.1 h.2.2
theorem el34 {α0:Sort _}{α1:Sort _}{α2:Sort _}{p0 p1 p2 p3:α0->α1->α2->Prop}{G:Prop}(h:∃ x0 x1 x2,p0 x0 x1 x2∧p1 x0 x1 x2∧p2 x0 x1 x2∧p3 x0 x1 x2)(k:∀ x0 x1 x2,p0 x0 x1 x2->p1 x0 x1 x2->p2 x0 x1 x2->p3 x0 x1 x2->G):G:=h.elim fun x0 h=>h.elim fun x1 h=>h.elim fun x2 h=>k x0 x1 x2 h.1 h.2.1 h.2.2.1 h.2.2.2
theorem el25 {α0:Sort _}{α1:Sort _}{p0 p1 p2 p3 p4:α0->α1->Prop}{G:Prop}(h:∃ x0 x1,p0 x0 x1∧p1 x0 x1∧p2 x0 x1∧p3 x0 x1∧p4 x0 x1)(k:∀ x0 x1,p0 x0 x1->p1 x0 x1->p2 x0 x1->p3 x0 x1->p4 x0 x1->G):G:=h.elim fun x0 h=>h.elim fun x1 h=>k x0 x1 h.1 h.2.1 h.2.2.1 h.2.2.2.1 h.2.2.2.2
theorem el53 {α0:Sort _}{α1:Sort _}{α2:Sort _}{α3:Sort _}{α4:Sort _}{p0 p1 p2:α0->α1->α2->α3->α4->Prop}{G:Prop}(h:∃ x0 x1 x2 x3 x4,p0 x0 x1 x2 x3 x4∧p1 x0 x1 x2 x3 x4∧p2 x0 x1 x2 x3 x4)(k:∀ x0 x1 x2 x3 x4,p0 x0 x1 x2 x3 x4->p1 x0 x1 x2 x3 x4->p2 x0 x1 x2 x3 x4->G):G:=h.elim fun x0 h=>h.elim fun x1 h=>h.elim fun x2 h=>h.elim fun x3 h=>h.elim fun x4 h=>k x0 x1 x2 x3 x4 h.1 h.2.1 h.2.2
theorem el44 {α0:Sort _}{α1:Sort _}{α2:Sort _}{α3:Sort _}{p0 p1 p2 p3:α0->α1->α2->α3->Prop}{G:Prop}(h:∃ x0 x1 x2 x3,p0 x0 x1 x2 x3∧p1 x0 x1 x2 x3∧p2 x0 x1 x2 x3∧p3 x0 x1 x2 x3)(k:∀ x0 x1 x2 x3,p0 x0 x1 x2 x3->p1 x0 x1 x2 x3->p2 x0 x1 x2 x3->p3 x0 x1 x2 x3->G):G:=h.elim fun x0 h=>h.elim fun x1 h=>h.elim fun x2 h=>h.elim fun x3 h=>k x0 x1 x2 x3 h.1 h.2.1 h.2.2.1 h.2.2.2
theorem el26 {α0:Sort _}{α1:Sort _}{p0 p1 p2 p3 p4 p5:α0->α1->Prop}{G:Prop}(h:∃ x0 x1,p0 x0 x1∧p1 x0 x1∧p2 x0 x1∧p3 x0 x1∧p4 x0 x1∧p5 x0 x1)(k:∀ x0 x1,p0 x0 x1->p1 x0 x1->p2 x0 x1->p3 x0 x1->p4 x0 x1->p5 x0 x1->G):G:=h.elim fun x0 h=>h.elim fun x1 h=>k x0 x1 h.1 h.2.1 h.2.2.1 h.2.2.2.1 h.2.2.2.2.1 h.2.2.2.2.2
theorem el45 {α0:Sort _}{α1:Sort _}{α2:Sort _}{α3:Sort _}{p0 p1 p2 p3 p4:α0->α1->α2->α3->Prop}{G:Prop}(h:∃ x0 x1 x2 x3,p0 x0 x1 x2 x3∧p1 x0 x1 x2 x3∧p2 x0 x1 x2 x3∧p3 x0 x1 x2 x3∧p4 x0 x1 x2 x3)(k:∀ x0 x1 x2 x3,p0 x0 x1 x2 x3->p1 x0 x1 x2 x3->p2 x0 x1 x2 x3->p3 x0 x1 x2 x3->p4 x0 x1 x2 x3->G):G:=h.elim fun x0 h=>h.elim fun x1 h=>h.elim fun x2 h=>h.elim fun x3 h=>k x0 x1 x2 x3 h.1 h.2.1 h.2.2.1 h.2.2.2.1 h.2.2.2.2
theorem el36 {α0:Sort _}{α1:Sort _}{α2:Sort _}{p0 p1 p2 p3 p4 p5:α0->α1->α2->Prop}{G:Prop}(h:∃ x0 x1 x2,p0 x0 x1 x2∧p1 x0 x1 x2∧p2 x0 x1 x2∧p3 x0 x1 x2∧p4 x0 x1 x2∧p5 x0 x1 x2)(k:∀ x0 x1 x2,p0 x0 x1 x2->p1 x0 x1 x2->p2 x0 x1 x2->p3 x0 x1 x2->p4 x0 x1 x2->p5 x0 x1 x2->G):G:=h.elim fun x0 h=>h.elim fun x1 h=>h.elim fun x2 h=>k x0 x1 x2 h.1 h.2.1 h.2.2.1 h.2.2.2.1 h.2.2.2.2.1 h.2.2.2.2.2
theorem el37 {α0:Sort _}{α1:Sort _}{α2:Sort _}{p0 p1 p2 p3 p4 p5 p6:α0->α1->α2->Prop}{G:Prop}(h:∃ x0 x1 x2,p0 x0 x1 x2∧p1 x0 x1 x2∧p2 x0 x1 x2∧p3 x0 x1 x2∧p4 x0 x1 x2∧p5 x0 x1 x2∧p6 x0 x1 x2)(k:∀ x0 x1 x2,p0 x0 x1 x2->p1 x0 x1 x2->p2 x0 x1 x2->p3 x0 x1 x2->p4 x0 x1 x2->p5 x0 x1 x2->p6 x0 x1 x2->G):G:=h.elim fun x0 h=>h.elim fun x1 h=>h.elim fun x2 h=>k x0 x1 x2 h.1 h.2.1 h.2.2.1 h.2.2.2.1 h.2.2.2.2.1 h.2.2.2.2.2.1 h.2.2.2.2.2.2
theorem el57 {α0:Sort _}{α1:Sort _}{α2:Sort _}{α3:Sort _}{α4:Sort _}{p0 p1 p2 p3 p4 p5 p6:α0->α1->α2->α3->α4->Prop}{G:Prop}(h:∃ x0 x1 x2 x3 x4,p0 x0 x1 x2 x3 x4∧p1 x0 x1 x2 x3 x4∧p2 x0 x1 x2 x3 x4∧p3 x0 x1 x2 x3 x4∧p4 x0 x1 x2 x3 x4∧p5 x0 x1 x2 x3 x4∧p6 x0 x1 x2 x3 x4)(k:∀ x0 x1 x2 x3 x4,p0 x0 x1 x2 x3 x4->p1 x0 x1 x2 x3 x4->p2 x0 x1 x2 x3 x4->p3 x0 x1 x2 x3 x4->p4 x0 x1 x2 x3 x4->p5 x0 x1 x2 x3 x4->p6 x0 x1 x2 x3 x4->G):G:=h.elim fun x0 h=>h.elim fun x1 h=>h.elim fun x2 h=>h.elim fun x3 h=>h.elim fun x4 h=>k x0 x1 x2 x3 x4 h.1 h.2.1 h.2.2.1 h.2.2.2.1 h.2.2.2.2.1 h.2.2.2.2.2.1 h.2.2.2.2.2.2
inductive Key where
 | s (x:Str)
 | t (xs:List Str)
 | p (xs ys:List Str)
 deriving DecidableEq
inductive V where
 | none
 | bool (b:Bool)
 | int (i:Int)
 | str (x:Str)
 | glob (v:Value)
 | tup (vs:List V)
 | list (vs:List V)
 | dict (kvs:List (Key×V))
 | set (ks:List Key)
 | inst (c:Addr) (fs:List (Str×V))
 | rng (a b:Int)
inductive W where
 | v (d:V)
 | l (a:Addr)
abbrev PMap:=Addr->Option Obj
noncomputable def PLe (F F':PMap):Prop:=∀ a o,F a=some o->F' a=some o
noncomputable def PIn (F:PMap)(h:Heap):Prop:=∀ a o,F a=some o->h.get? a=some o
noncomputable def PDis (F Z:PMap):Prop:=∀ a o,Z a=some o->F a=none
noncomputable def PUn (Z S:PMap):PMap:=fun a=>(Z a).or (S a)
theorem PLe.refl (F:PMap):PLe F F:=fun _ _ e=>e
theorem PLe.trans {F G H:PMap}(x:PLe F G)(y:PLe G H):PLe F H:=fun a o e=>y a o (x a o e)
noncomputable def hashStr (P:Params)(x:Str):Int:=if x.cps.isEmpty=true then 0 else reduceHash (P.strHash x.cps)
noncomputable def hashTup (hs:List Int):Int:=reduceHash (Builtin.Tuple.tupleHashOf hs)
noncomputable def Key.hash (P:Params):Key->Int
 | .s x=>hashStr P x
 | .t xs=>hashTup (xs.map (hashStr P))
 | .p xs ys=>hashTup [hashTup (xs.map (hashStr P)),hashTup (ys.map (hashStr P))]
noncomputable def Key.val:Key->V
 | .s x=>.str x
 | .t xs=>.tup (xs.map V.str)
 | .p xs ys=>.tup [V.tup (xs.map V.str),V.tup (ys.map V.str)]
inductive StrsAt:List Str->List Value->Prop
 | nil:StrsAt [] []
 | cons {x:Str}{t:Tok}{xs:List Str}{vs:List Value}:StrsAt xs vs->StrsAt (x::xs) (.str x t::vs)
noncomputable def StrTup (F:PMap)(xs:List Str)(v:Value):Prop :=
 ∃ (a:Addr) (ws:Array Value) (n:Nat),v=.ref a∧F a=some { cls:=.type "tuple",data:=.seq ws n }∧StrsAt xs ws.toList
noncomputable def KeyAt (F:PMap):Key->Value->Prop
 | .s x,v=>∃ t:Tok,v=Value.str x t
 | .t xs,v=>StrTup F xs v
 | .p xs ys,v=>∃ a u w n,v=.ref a∧F a=some { cls:=.type "tuple",data:=.seq #[u,w] n }∧StrTup F xs u∧StrTup F ys w
noncomputable def FN:List Str:=["_symbol", "_lhs", "_rhs", "_start", "_productions", "_categories", "_lhs_index", "_rhs_index", "_empty_index", "_lexical_index", "_immediate_leftcorner_categories", "_immediate_leftcorner_words",
 "_leftcorners", "_leftcorner_words", "_is_lexical", "_is_nonlexical", "_min_len", "_max_len", "_all_unary_are_lexical"]
noncomputable def FKeys (es:Array DictEntry):Prop:=∀ e∈es,∃ n t,e.key=.str n t∧n∈FN
noncomputable def Key.kind:Key->Nat
 | .s _=>0
 | .t _=>1
 | .p _ _=>2
noncomputable def prb (t:SetTable)(h:Int):Nat->SetTable.Probe
 | 0=>t.probeStart h
 | n+1=>t.advance (prb t h n)
structure TabOk (hs:List Int)(t:SetTable):Prop where
 dum:t.dummies=#[]
 mask:∃ k,3≤k∧t.mask+1=2 ^ k
 cap:t.mask<5000
 size:t.place.size=hs.length
 room:t.place.size*5<t.mask*3
 asc:t.place.toList.Pairwise (· < ·)
 le:∀ j∈t.place.toList,j≤t.mask
 path:∀ (i:Nat) (h:Int) (j:Nat),hs[i]? = some h->t.place.toList[i]? = some j->∃ n,n<10*SetTable.turns t.mask∧(prb t h n).j=j∧∀ m,m<n->(prb t h m).j∈t.place.toList
structure SetOk (P:Params)(ks:List Key)(t:SetTable):Prop where
 nodup:ks.Nodup
 fits:t.fits ks.length=true
 small:ks.length<scanBound
 led:P.followText "set-order" = false->t.led=true
 tab:TabOk (ks.map (Key.hash P)) t
 one:∀ k∈ks,∀ k'∈ks,k.kind=k'.kind
mutual
inductive Val (P:Params) (F:PMap):V->Value->Prop
 | none:Val P F .none .none
 | bool (b:Bool):Val P F (.bool b) (.bool b)
 | int (i:Int) (t:Tok):Val P F (.int i) (.int i t)
 | str (x:Str) (t:Tok):Val P F (.str x) (.str x t)
 | glob (v:Value):PySem.W.handedIn v=true->Val P F (.glob v) v
 | tup {vs:List V}{a:Addr}{ws:Array Value}{n:Nat}:F a=some { cls:=.type "tuple",data:=.seq ws n }->Vals P F vs ws.toList->Val P F (.tup vs) (.ref a)
 | list {vs:List V}{a:Addr}{ws:Array Value}{n:Nat}:F a=some { cls:=.type "list",data:=.seq ws n }->Vals P F vs ws.toList->Val P F (.list vs) (.ref a)
 | dict {kvs:List (Key×V)}{a:Addr}{o:Obj}{es:Array DictEntry}{n:Nat}:(a == sysModules)=false->F a=some o->o.ExactDict->o.data=.dict es n->Ents P F kvs es.toList->(kvs.map (·.1)).Nodup->Val P F (.dict kvs) (.ref a)
 | set {ks:List Key}{a:Addr}{o:Obj}{es:Array (Int×Value)}{n:Nat}{t:SetTable}:F a=some o->o.ExactSet->o.data=.set es n t->es.toList.length=ks.length->
   (∀ (i:Nat) (k:Key),ks[i]? = some k->∃ v,es.toList[i]? = some (k.hash P,v)∧KeyAt F k v)->SetOk P ks t->Val P F (.set ks) (.ref a)
 | inst {c:Addr}{fs:List (Str×V)}{a d:Addr}{o:Obj}{es:Array DictEntry}{n:Nat}:F a=some { cls:=.ref c,dict:=some d,data:=.plain }->F d=some o->o.data=.dict es n->FKeys es->Flds P F es fs->Val P F (.inst c fs) (.ref a)
 | rng {a b:Int}{r:Addr}{t u x:Tok}:F r=some { cls:=.type "range",data:=.fields #[.int a t,.int b u,.int 1 x] }->Val P F (.rng a b) (.ref r)
inductive Vals (P:Params) (F:PMap):List V->List Value->Prop
 | nil:Vals P F [] []
 | cons {v:V}{w:Value}{vs:List V}{ws:List Value}:Val P F v w->Vals P F vs ws->Vals P F (v::vs) (w::ws)
inductive Ents (P:Params) (F:PMap):List (Key×V)->List DictEntry->Prop
 | nil:Ents P F [] []
 | cons {k:Key}{v:V}{e:DictEntry}{kvs:List (Key×V)}{es:List DictEntry}:KeyAt F k e.key->e.hash=k.hash P->Val P F v e.val->Ents P F kvs es->Ents P F ((k,v)::kvs) (e::es)
inductive Flds (P:Params) (F:PMap):Array DictEntry->List (Str×V)->Prop
 | nil {es:Array DictEntry}:Flds P F es []
 | cons {es:Array DictEntry}{x:Str}{v:V}{w:Value}{fs:List (Str×V)}:nsFind es x=some w->Val P F v w->Flds P F es fs->Flds P F es ((x,v)::fs)
end
theorem StrTup.mono {F F':PMap}(h:PLe F F'){xs:List Str}{v:Value}:StrTup F xs v->StrTup F' xs v
 | ⟨a,ws,n,e,h1,r⟩=>⟨a,ws,n,e,h a _ h1,r⟩
theorem KeyAt.mono {F F':PMap}(h:PLe F F'){k:Key}{v:Value}(q:KeyAt F k v):KeyAt F' k v:=by
 cases k with
 | s _=>exact q
 | t _=>exact StrTup.mono h q
 | p _ _=>exact q.elim fun a q=>el34 q fun u w n e h1 x y=>⟨a,u,w,n,e,h a _ h1,StrTup.mono h x,StrTup.mono h y⟩
section
variable {P:Params}{F F':PMap}
theorem Val.mono (h:PLe F F'){d:V}{v:Value}(x:Val P F d v):Val P F' d v :=
 Val.rec (motive_1:=fun d v _=>Val P F' d v) (motive_2:=fun d v _=>Vals P F' d v) (motive_3:=fun d v _=>Ents P F' d v) (motive_4:=fun es d _=>Flds P F' es d)
  .none .bool .int .str .glob (fun h1 _ q=>.tup (h _ _ h1) q) (fun h1 _ q=>.list (h _ _ h1) q) (fun h0 h1 h2 h3 _ h5 q=>.dict h0 (h _ _ h1) h2 h3 q h5)
  (fun h1 h2 h3 h4 h5 h6=>.set (h _ _ h1) h2 h3 h4 (fun i k e=>el12 (h5 i k e) fun v a b=>⟨v,a,b.mono h⟩) h6) (fun h1 h2 h4 h5 _ q=>.inst (h _ _ h1) (h _ _ h2) h4 h5 q) (fun h1=>.rng (h _ _ h1))
  .nil (fun _ _ a b=>.cons a b) .nil (fun a b _ _ c d=>.cons (a.mono h) b c d) .nil (fun a _ _ b c=>.cons a b c) x
theorem Vals.mono (h:PLe F F'){d:List V}{v:List Value}(x:Vals P F d v):Vals P F' d v :=
 Vals.rec (motive_1:=fun d v _=>Val P F' d v) (motive_2:=fun d v _=>Vals P F' d v) (motive_3:=fun d v _=>Ents P F' d v) (motive_4:=fun es d _=>Flds P F' es d)
  .none .bool .int .str .glob (fun h1 _ q=>.tup (h _ _ h1) q) (fun h1 _ q=>.list (h _ _ h1) q) (fun h0 h1 h2 h3 _ h5 q=>.dict h0 (h _ _ h1) h2 h3 q h5)
  (fun h1 h2 h3 h4 h5 h6=>.set (h _ _ h1) h2 h3 h4 (fun i k e=>el12 (h5 i k e) fun v a b=>⟨v,a,b.mono h⟩) h6) (fun h1 h2 h4 h5 _ q=>.inst (h _ _ h1) (h _ _ h2) h4 h5 q) (fun h1=>.rng (h _ _ h1))
  .nil (fun _ _ a b=>.cons a b) .nil (fun a b _ _ c d=>.cons (a.mono h) b c d) .nil (fun a _ _ b c=>.cons a b c) x
end
noncomputable def WAt (P:Params)(F:PMap):W->Value->Prop
 | .v d,v=>Val P F d v
 | .l a,v=>v=.ref a
theorem WAt.mono {P:Params}{F F':PMap}(h:PLe F F'):∀ {x:W}{v:Value},WAt P F x v->WAt P F' x v
 | .v _,_,y=>Val.mono h y
 | .l _,_,y=>y
inductive WsAt (P:Params) (F:PMap):List W->List Value->Prop
 | nil:WsAt P F [] []
 | cons {x:W}{v:Value}{xs:List W}{vs:List Value}:WAt P F x v->WsAt P F xs vs->WsAt P F (x::xs) (v::vs)
theorem WsAt.mono {P:Params}{F F':PMap}(h:PLe F F'){xs:List W}{vs:List Value}(x:WsAt P F xs vs):WsAt P F' xs vs:=by
 induction x with
 | nil=>exact .nil
 | cons a _ ih=>exact .cons (a.mono h) ih
theorem Val.handed {P:Params}{F:PMap}{d:V}{v:Value}(h:Val P F d v):PySem.W.handedIn v=true :=
 Val.casesOn (motive_1:=fun _ v _=>PySem.W.handedIn v=true) h rfl (fun _=>rfl) (fun _ _=>rfl) (fun _ _=>rfl) (fun _ h=>h) (fun _ _=>rfl) (fun _ _=>rfl) (fun _ _ _ _ _ _=>rfl) (fun _ _ _ _ _ _=>rfl) (fun _ _ _ _ _=>rfl) (fun _=>rfl)
theorem WAt.handed {P:Params}{F:PMap}:∀ {x:W}{v:Value},WAt P F x v->PySem.W.handedIn v=true
 | .v _,_,h=>Val.handed h
 | .l _,_,h=>by cases h;rfl
inductive O where
 | list (ws:List W)
 | dict (kvs:List (Key×W))
 | set (ks:List Key)
 | inst (c:Addr) (d:Addr)
 | ns (fs:List (Str×W))
 /-- the table of the codes made under a code -/
 | tab
inductive EntsW (P:Params) (F:PMap):List (Key×W)->List DictEntry->Prop
 | nil:EntsW P F [] []
 | cons {k:Key}{v:W}{e:DictEntry}{kvs:List (Key×W)}{es:List DictEntry}:KeyAt F k e.key->e.hash=k.hash P->WAt P F v e.val->EntsW P F kvs es->EntsW P F ((k,v)::kvs) (e::es)
theorem EntsW.mono {P:Params}{F F':PMap}(h:PLe F F'){xs:List (Key×W)}{vs:List DictEntry}(x:EntsW P F xs vs):EntsW P F' xs vs:=by
 induction x with
 | nil=>exact .nil
 | cons a b c _ ih=>exact .cons (a.mono h) b (c.mono h) ih
noncomputable def OAt (P:Params)(F:PMap):O->Obj->Prop
 | .list xs,o=>∃ ws n,o={ cls:=.type "list",data:=.seq ws n }∧WsAt P F xs ws.toList
 | .dict kvs,o=>o.ExactDict∧(∃ es n,o.data=.dict es n∧EntsW P F kvs es.toList)∧(kvs.map (·.1)).Nodup
 | .set ks,o=>o.ExactSet∧∃ es n t,o.data=.set es n t∧es.toList.length=ks.length∧(∀ (i:Nat) (k:Key),ks[i]? = some k->∃ v,es.toList[i]? = some (k.hash P,v)∧KeyAt F k v)∧SetOk P ks t
 | .inst c d,o=>o={ cls:=.ref c,dict:=some d,data:=.plain }
 | .ns fs,o=>∃ es n,o.data=.dict es n∧FKeys es∧es.size≤fs.length∧∀ x w,fs.lookup x=some w->∃ v,nsFind es x=some v∧WAt P F w v
 | .tab,o=>∃ ps:Array Value,o={ cls:=.none,data:=.fields ps }∧TriplesOk ps.toList
theorem OAt.mono {P:Params}{F F':PMap}(h:PLe F F'){x:O}{o:Obj}(q:OAt P F x o):OAt P F' x o:=by
 cases x with
 | list _=>exact el22 q fun ws n b c=>⟨ws,n,b,c.mono h⟩
 | dict _=>exact ⟨q.1,el22 q.2.1 fun es n b c=>⟨es,n,b,c.mono h⟩,q.2.2⟩
 | set _=>exact ⟨q.1,el34 q.2 fun es n t b c d e=>⟨es,n,t,b,c,fun i k z=>el12 (d i k z) fun v x y=>⟨v,x,y.mono h⟩,e⟩⟩
 | inst _ _=>exact q
 | tab=>exact q
 | ns _=>exact el24 q fun es n b c z d=>⟨es,n,b,c,z,fun x w q=>el12 (d x w q) fun v y z=>⟨v,y,z.mono h⟩⟩
noncomputable def VInv (P:Params)(F:PMap):V->Value->Prop
 | .none,v=>v=.none
 | .bool b,v=>v=.bool b
 | .int i,v=>∃ t,v=.int i t
 | .str x,v=>∃ t,v=.str x t
 | .glob u,v=>v=u∧PySem.W.handedIn u=true
 | .tup vs,v=>∃ a ws n,F a=some { cls:=.type "tuple",data:=.seq ws n }∧Vals P F vs ws.toList∧v=.ref a
 | .list vs,v=>∃ a ws n,F a=some { cls:=.type "list",data:=.seq ws n }∧Vals P F vs ws.toList∧v=.ref a
 | .dict kvs,v=>∃ a o es n,(a == sysModules)=false∧F a=some o∧o.ExactDict∧o.data=.dict es n∧Ents P F kvs es.toList∧(kvs.map (·.1)).Nodup∧v=.ref a
 | .set ks,v=>∃ (a:Addr) (o:Obj) (es:Array (Int×Value)) (n:Nat) (t:SetTable),F a=some o∧o.ExactSet∧o.data=.set es n t∧es.toList.length=ks.length ∧
   (∀ (i:Nat) (k:Key),ks[i]? = some k->∃ v,es.toList[i]? = some (k.hash P,v)∧KeyAt F k v)∧SetOk P ks t∧v=.ref a
 | .inst c fs,v=>∃ a d o es n,F a=some { cls:=.ref c,dict:=some d,data:=.plain }∧F d=some o∧o.data=.dict es n∧FKeys es∧Flds P F es fs∧v=.ref a
 | .rng a b,v=>∃ r t u x,F r=some { cls:=.type "range",data:=.fields #[.int a t,.int b u,.int 1 x] }∧v=.ref r
theorem Val.inv {P:Params}{F:PMap}{d:V}{v:Value}(h:Val P F d v):VInv P F d v :=
 Val.casesOn (motive_1:=fun d v _=>VInv P F d v) h rfl (fun _=>rfl) (fun _ t=>⟨t,rfl⟩) (fun _ t=>⟨t,rfl⟩) (fun _ h=>⟨rfl,h⟩) (fun h1 h2=>⟨_,_,_,h1,h2,rfl⟩) (fun h1 h2=>⟨_,_,_,h1,h2,rfl⟩)
  (fun h1 h2 h3 h4 h5 h6=>⟨_,_,_,_,h1,h2,h3,h4,h5,h6,rfl⟩) (fun h1 h2 h3 h4 h5 h6=>⟨_,_,_,_,_,h1,h2,h3,h4,h5,h6,rfl⟩) (fun h1 h2 h3 h4 h5=>⟨_,_,_,_,_,h1,h2,h3,h4,h5,rfl⟩) (fun h1=>⟨_,_,_,_,h1,rfl⟩)
section
variable {P:Params}{F:PMap}{v:Value}{Q:Value->Prop}
@[elab_as_elim] theorem Val.i_none (h:Val P F .none v)(q:Q .none):Q v:=(show v=.none from h.inv)▸q
@[elab_as_elim] theorem Val.i_bool {b:Bool}(h:Val P F (.bool b) v)(q:Q (.bool b)):Q v:=(show v=.bool b from h.inv)▸q
@[elab_as_elim] theorem Val.i_int {i:Int}(h:Val P F (.int i) v)(q:∀ t,Q (.int i t)):Q v:=(show ∃ t,v=_ from h.inv).elim fun t e=>e▸q t
@[elab_as_elim] theorem Val.i_str {x:Str}(h:Val P F (.str x) v)(q:∀ t,Q (.str x t)):Q v:=(show ∃ t,v=_ from h.inv).elim fun t e=>e▸q t
@[elab_as_elim] theorem Val.i_tup {vs:List V}(h:Val P F (.tup vs) v)(q:∀ (a:Addr) (ws:Array Value) (n:Nat),F a=some { cls:=.type "tuple",data:=.seq ws n }->Vals P F vs ws.toList->Q (.ref a)):Q v :=
 el33 h.inv fun a ws n h1 h2 e=>e▸q a ws n h1 h2
@[elab_as_elim] theorem Val.i_list {vs:List V}(h:Val P F (.list vs) v)(q:∀ (a:Addr) (ws:Array Value) (n:Nat),F a=some { cls:=.type "list",data:=.seq ws n }->Vals P F vs ws.toList->Q (.ref a)):Q v :=
 el33 h.inv fun a ws n h1 h2 e=>e▸q a ws n h1 h2
@[elab_as_elim] theorem Val.i_dict {kvs:List (Key×V)}(h:Val P F (.dict kvs) v)(q:∀ (a:Addr) (o:Obj) (es:Array DictEntry) (n:Nat),(a == sysModules)=false->F a=some o->o.ExactDict->o.data=.dict es n->Ents P F kvs es.toList->(kvs.map (·.1)).Nodup->Q (.ref a)):Q v :=
 h.inv.elim fun a h=>el36 h fun o es n h1 h2 h3 h4 h5 hh=>e2 hh fun h6 e=>e▸q a o es n h1 h2 h3 h4 h5 h6
@[elab_as_elim] theorem Val.i_set {ks:List Key}(h:Val P F (.set ks) v)(q:∀ (a:Addr) (o:Obj) (es:Array (Int×Value)) (n:Nat) (t:SetTable),F a=some o->o.ExactSet->o.data=.set es n t->es.toList.length=ks.length->
  (∀ (i:Nat) (k:Key),ks[i]? = some k->∃ v,es.toList[i]? = some (k.hash P,v)∧KeyAt F k v)->SetOk P ks t->Q (.ref a)):Q v :=
 el57 h.inv fun a o es n t h1 h2 h3 h4 h5 h6 e=>e▸q a o es n t h1 h2 h3 h4 h5 h6
@[elab_as_elim] theorem Val.i_inst {c:Addr}{fs:List (Str×V)}(h:Val P F (.inst c fs) v)(q:∀ (a d:Addr) (o:Obj) (es:Array DictEntry) (n:Nat),F a=some { cls:=.ref c,dict:=some d,data:=.plain }->F d=some o->o.data=.dict es n->FKeys es->Flds P F es fs->Q (.ref a)):Q v :=
 h.inv.elim fun a h=>h.elim fun d h=>el36 h fun o es n h1 h2 h3 h4 h5 e=>e▸q a d o es n h1 h2 h3 h4 h5
@[elab_as_elim] theorem Val.i_rng {a b:Int}(h:Val P F (.rng a b) v)(q:∀ (r:Addr) (t u x:Tok),F r=some { cls:=.type "range",data:=.fields #[.int a t,.int b u,.int 1 x] }->Q (.ref r)):Q v :=
 h.inv.elim fun r h=>el32 h fun t u x h1 (e:v=.ref r)=>e▸q r t u x h1
@[elab_as_elim] theorem WAt.i_l {a:Addr}(h:WAt P F (.l a) v)(q:Q (.ref a)):Q v:=by cases h;exact q
end
section
variable {P:Params}{F:PMap}{us:List Value}{Q:List Value->Prop}
@[elab_as_elim] theorem Vals.i_nil (h:Vals P F [] us)(q:Q []):Q us:=by cases h;exact q
@[elab_as_elim] theorem Vals.i_cons {v:V}{vs:List V}(h:Vals P F (v::vs) us)(q:∀ w ws,Val P F v w->Vals P F vs ws->Q (w::ws)):Q us:=by cases h;exact q _ _ ‹_› ‹_›
@[elab_as_elim] theorem WsAt.i_nil (h:WsAt P F [] us)(q:Q []):Q us:=by cases h;exact q
@[elab_as_elim] theorem WsAt.i_cons {v:W}{vs:List W}(h:WsAt P F (v::vs) us)(q:∀ w ws,WAt P F v w->WsAt P F vs ws->Q (w::ws)):Q us:=by cases h;exact q _ _ ‹_› ‹_›
@[elab_as_elim] theorem WsAt.i1 {x:W}(h:WsAt P F [x] us)(q:∀ u,WAt P F x u->Q [u]):Q us:=h.i_cons fun w ws h1 h2=>h2.i_nil (Q:=fun l=>Q (w::l)) (q w h1)
@[elab_as_elim] theorem WsAt.i2 {x y:W}(h:WsAt P F [x,y] us)(q:∀ u v,WAt P F x u->WAt P F y v->Q [u,v]):Q us:=h.i_cons fun w ws h1 h2=>h2.i1 (Q:=fun l=>Q (w::l)) fun w' h3=>q w w' h1 h3
@[elab_as_elim] theorem WsAt.i3 {x y z:W}(h:WsAt P F [x,y,z] us)(q:∀ u v w,WAt P F x u->WAt P F y v->WAt P F z w->Q [u,v,w]):Q us:=h.i_cons fun w ws h1 h2=>h2.i2 (Q:=fun l=>Q (w::l)) fun w' w'' h3 h4=>q w w' w'' h1 h3 h4
end
section
variable {P:Params}{F:PMap}{us:List DictEntry}{Q:List DictEntry->Prop}
@[elab_as_elim] theorem Ents.i_nil (h:Ents P F [] us)(q:Q []):Q us:=by cases h;exact q
@[elab_as_elim] theorem Ents.i_cons {k:Key}{v:V}{vs:List (Key×V)}(h:Ents P F ((k,v)::vs) us)(q:∀ e es,KeyAt F k e.key->e.hash=k.hash P->Val P F v e.val->Ents P F vs es->Q (e::es)):Q us:=by cases h;exact q _ _ ‹_› ‹_› ‹_› ‹_›
@[elab_as_elim] theorem EntsW.i_nil (h:EntsW P F [] us)(q:Q []):Q us:=by cases h;exact q
@[elab_as_elim] theorem EntsW.i_cons {k:Key}{v:W}{vs:List (Key×W)}(h:EntsW P F ((k,v)::vs) us)(q:∀ e es,KeyAt F k e.key->e.hash=k.hash P->WAt P F v e.val->EntsW P F vs es->Q (e::es)):Q us:=by cases h;exact q _ _ ‹_› ‹_› ‹_› ‹_›
end
theorem less {p:Nat->Prop}(h:∀ m,(∀ n,n<m->p n)->p m):∀ m,p m:=fun m=>Nat.strongRecOn m h
theorem ifT {α:Type}{M:Model}{A:Around}{c:Prop}[Decidable c]{a b:Sem α}{Q:α->Shared->Prop}{E:Value->Shared->Prop}{s:Shared}(hc:c)(h:wpAny M A a Q E s):wpAny M A (ite c a b) Q E s:=by rw [if_pos hc];exact h
theorem ifF {α:Type}{M:Model}{A:Around}{c:Prop}[Decidable c]{a b:Sem α}{Q:α->Shared->Prop}{E:Value->Shared->Prop}{s:Shared}(hc:¬ c)(h:wpAny M A b Q E s):wpAny M A (ite c a b) Q E s:=by rw [if_neg hc];exact h
theorem ni_big {n k:Nat}(h:n<k)(hk:k≤100000:=by decide):(n:Int)<100000:=Int.ofNat_lt.mpr (Nat.lt_of_lt_of_le h hk)
theorem ni_neg (n:Nat):(-100000:Int)<n:=Int.lt_of_lt_of_le (by decide) (Int.natCast_nonneg n)
theorem ok_of {n k:Nat}(h:n≤k)(hk:k≤100000:=by decide):n≤100000:=Nat.le_trans h hk
theorem min_ok {t n k:Nat}(h:n≤k)(hk:k≤100000:=by decide):min t n≤100000:=ok_of (Nat.le_trans (Nat.min_le_right ..) h) hk
theorem sub_one_lt {n:Nat}(h:0<n):n-1<n:=Nat.sub_lt h Nat.one_pos
theorem all_pass {α β:Type}{M:Model}{A:Around}{E:Value->Shared->Prop}{s:Shared}{b:β}{R:β->Shared->Prop}{f:α->β->Sem (ForInStep β)}{L:List α}(h:∀ a∈L,∀ Q:ForInStep β->Shared->Prop,Q (.yield b) s->wpAny M A (f a b) Q E s)(hR:R b s):wpAny M A (forIn L b f) R E s:=by
 induction L with
 | nil=>rw [List.forIn_nil];exact wpAny_pure hR
 | cons a L ih =>
  rw [List.forIn_cons];exact wpAny_bind (h a (.head _) _ (ih fun x hx=>h x (.tail _ hx)))
theorem any_pass {α β:Type}{M:Model}{A:Around}{E:Value->Shared->Prop}{s:Shared}{b c:β}{R:β->Shared->Prop}{f:α->β->Sem (ForInStep β)}{L:List α}(h:∀ a∈L,∀ Q:ForInStep β->Shared->Prop,Q (.yield b) s->Q (.done c) s->wpAny M A (f a b) Q E s)(hR:R b s)(hc:R c s):wpAny M A (forIn L b f) R E s:=by
 induction L with
 | nil=>rw [List.forIn_nil];exact wpAny_pure hR
 | cons a L ih =>
  rw [List.forIn_cons];exact wpAny_bind (h a (.head _) _ (ih fun x hx=>h x (.tail _ hx)) (wpAny_pure hc))
abbrev Mem:=List (Addr×O)
structure Cont (p:Prop) where
 G:Prop
 k:p->G
theorem kpost {α:Type}{M:Model}{A:Around}{t:Sem α}{Q:α->Shared->Prop}{E:Value->Shared->Prop}{s:Shared}(h:∀ K:α->Shared->Prop,(∀ a s',Q a s'->K a s')->wpAny M A t K E s):wpAny M A t Q E s:=h Q fun _ _ q=>q
end
section
open PySem PySem.Calls PyProof.Rows
noncomputable def codePo:Option Obj->Option Addr
 | some ⟨.type "code",_,.fields vs,_⟩=>(match (vs[11]? : Option Value) with
  | some (.ref P)=>some P
  | _=>none)
 | _=>none
noncomputable def codeP (K:PySem.W.Frag):Value->Option Addr
 | .ref c=>codePo (K.lookup c)
 | _=>none
noncomputable def CodeAt (h:Heap)(c P:Addr):Prop:=∀ (h':Heap) (ps:Array Value),(∀ b o,h.get? b=some o->h'.get? b=some o)->h'.get? P=some { cls:=.none,data:=.fields ps }->TriplesOk ps.toList->h'.IsCode c P ps∧h'.TableAt c P ps
noncomputable def codeT (K:PySem.W.Frag)(cd:Value)(q:Str):Bool:=PySem.W.codeIn K cd q&&(codeP K cd).isSome
structure Cx where
 prog:Program
 w:World
 B:Heap
 os:OsState
 K:PySem.W.Frag
 kin:K.In B
 lim:B.NoLimit
 mg:Str->Option Value
 mb:Str->Option Value
 gg:B.Ns mainGlobals mg
 gb:B.Ns builtinsNs mb
 bb:∀ x:Str,x ≠ "__name__"->mb x=bootBuiltins x
 bmod:∃ bm ob,BMod B mainGlobals mg bm ob
 /-- the tables of the codes -/
 tabs:List Addr
 code:∀ c P,codeP K (.ref c)=some P->CodeAt B c P∧P∈tabs
 /-- in a generator's own frame -/
 gen:Bool
 /-- the generators of others -/
 gs:List (Nat×GenState)
noncomputable abbrev Cx.P (C:Cx):Params:=C.w.params
noncomputable abbrev Cx.M (C:Cx):Model:=model C.prog C.w
structure Rm (A:Around)(d:Nat):Prop where
 hd:A.handled=none
 dp:A.depth+2*d+2<700
 un:A.units+16*d+16<cLine
theorem Rm.mono {A:Around}{d d':Nat}(h:Rm A d)(le:d'≤d):Rm A d':=⟨h.hd,Nat.lt_of_le_of_lt (Nat.add_le_add_right (Nat.add_le_add_left (Nat.mul_le_mul_left 2 le) _) 2) h.dp,Nat.lt_of_le_of_lt (Nat.add_le_add_right (Nat.add_le_add_left (Nat.mul_le_mul_left 16 le) _) 16) h.un⟩
theorem Rm.step {A B:Around}{d:Nat}(h:Rm A (d+1))(hd:B.handled=none)(h1:B.depth≤A.depth+2)(h2:B.units≤A.units+16):Rm B d :=
 ⟨hd,Nat.lt_of_le_of_lt (Nat.add_le_add_right (by rw [Nat.mul_succ,Nat.add_comm (2*d),<-Nat.add_assoc];exact Nat.add_le_add_right h1 _) 2) h.dp,Nat.lt_of_le_of_lt (Nat.add_le_add_right (by rw [Nat.mul_succ,Nat.add_comm (16*d),<-Nat.add_assoc];exact Nat.add_le_add_right h2 _) 16) h.un⟩
theorem Rm.lim {A:Around}{d:Nat}(h:Rm A d):A.depth<recursionLimit:=Nat.lt_trans (Nat.lt_of_le_of_lt (Nat.le_trans (Nat.le_add_right ..) (Nat.le_add_right ..)) h.dp) (by decide)
theorem Rm.u {A:Around}{d n:Nat}(h:Rm A d)(hn:n≤16):A.units+n<cLine:=Nat.lt_of_le_of_lt (Nat.le_trans (Nat.add_le_add_left hn _) (Nat.add_le_add_right (Nat.le_add_right ..) 16)) h.un
theorem Rm.cl {A:Around}{d:Nat}(h:Rm A d):A.units<cLine:=h.u (n:=0) (by decide)
noncomputable def NamesOk (l:List Addr):Prop:=l.Nodup∧∀ a∈l,mainGlobals<a
theorem NamesOk.sublist {l l':List Addr}(h:NamesOk l)(s:l'.Sublist l):NamesOk l':=⟨h.1.sublist s,fun a ha=>h.2 a (s.subset ha)⟩
structure Sim (C:Cx)(F Z:PMap)(μ:Mem)(s:Shared):Prop where
 base:∀ a o,C.B.get? a=some o->F a=some o
 fz:PIn F s.heap
 zz:PIn Z s.heap
 dis:PDis F Z
 own:∀ a o,(a,o)∈μ->F a=none∧Z a=none∧∃ ob,s.heap.get? a=some ob∧OAt C.P F o ob
 nod:NamesOk (μ.map (·.1))
 os:s.os=C.os
 gens:PyProof.Rows.AllBare s.gens∧∀ p∈C.gs,s.gens[p.1]? = some p.2
abbrev Env1:=List (Str×W)
noncomputable def CodeOk (C:Cx)(env:Env):Prop:=C.gen=false->(∃ q,C.B.CodeRec env.code q)∧∃ c P,env.code=.ref c∧CodeAt C.B c P∧P∈C.tabs
theorem CodeOk.of {C:Cx}{env:Env}{q:Str}(h:codeT C.K env.code q=true):CodeOk C env:=fun _=>by
 unfold codeT at h;obtain ⟨h1,h2⟩:=Bool.and_eq_true_iff.mp h;refine ⟨⟨q,PySem.W.codeRec_of C.kin h1⟩,?_⟩;obtain ⟨P,h3⟩:=Option.isSome_iff_exists.mp h2
 cases e:env.code with
 | ref c=>rw [e] at h3;exact ⟨c,P,rfl,C.code c P h3⟩
 | _=>rw [e] at h3;cases h3
theorem codeT_in {K:PySem.W.Frag}{v:Value}{q:Str}(h:codeT K v q=true):PySem.W.codeIn K v q=true:=(Bool.and_eq_true_iff.mp h).1
abbrev Pts (C:Cx)(F:PMap)(w:W)(ov:Option Value):Prop:=∃ v,ov=some v∧WAt C.P F w v
theorem Pts.mono {C:Cx}{F F':PMap}{w:W}{ov:Option Value}(h:PLe F F')(q:Pts C F w ov):Pts C F' w ov:=el12 q fun v a b=>⟨v,a,b.mono h⟩
structure EnvRel (C:Cx)(F Z:PMap)(env:Env)(ε:Env1):Prop where
 kind:env.scope.kind=.function
 glob:env.globals=mainGlobals
 blt:env.builtins=builtinsNs∧CodeOk C env
 ns:∃ (o:Obj) (es:Array DictEntry) (n:Nat),Z env.locals=some o∧o.data=.dict es n∧StrKeys es ∧
  ∀ x w,ε.lookup x=some w->env.kindOf x=some .local->Pts C F w (nsFind es x)
 cell:∀ x,env.kindOf x=some .cell∨env.kindOf x=some .free->∃ (c:Addr) (o:Obj) (u:Option Value),env.cells.lookup x=some c∧Z c=some o∧o.data=.cell u ∧
  ∀ w,ε.lookup x=some w->Pts C F w u
theorem EnvRel.mono {C:Cx}{F F' Z:PMap}{env:Env}{ε:Env1}(h:PLe F F')(R:EnvRel C F Z env ε):EnvRel C F' Z env ε where
 kind:=R.kind
 glob:=R.glob
 blt:=R.blt
 ns:=el34 R.ns fun o es n a b c d=>⟨o,es,n,a,b,c,fun x w e k=>Pts.mono h (d x w e k)⟩
 cell:=fun x k=>el34 (R.cell x k) fun c o u a b d e=>⟨c,o,u,a,b,d,fun w q=>Pts.mono h (e w q)⟩
abbrev PostW:=W->Mem->Prop
inductive Post (C:Cx) (Z:PMap) (k:PostW) (F:PMap) (v:Value) (s':Shared):Prop
 | mk (x:W) (F':PMap) (μ':Mem) (hk:k x μ') (le:PLe F F') (S:Sim C F' Z μ' s') (hv:WAt C.P F' x v):Post C Z k F v s'
inductive PostB (C:Cx) (Z:PMap) (k:Bool->Mem->Prop) (F:PMap) (b:Bool) (s':Shared):Prop
 | mk (F':PMap) (μ':Mem) (hk:k b μ') (le:PLe F F') (S:Sim C F' Z μ' s'):PostB C Z k F b s'
inductive PostL (C:Cx) (Z:PMap) (k:List W->Mem->Prop) (F:PMap) (vs:List Value) (s':Shared):Prop
 | mk (xs:List W) (F':PMap) (μ':Mem) (hk:k xs μ') (le:PLe F F') (S:Sim C F' Z μ' s') (hv:WsAt C.P F' xs vs):PostL C Z k F vs s'
inductive PostU (C:Cx) (Z:PMap) (k:Mem->Prop) (F:PMap) (s':Shared):Prop
 | mk (F':PMap) (μ':Mem) (hk:k μ') (le:PLe F F') (S:Sim C F' Z μ' s'):PostU C Z k F s'
inductive PostM (C:Cx) (Z:PMap) (k:Value->List W->Mem->Prop) (F:PMap) (p:Value×List Value) (s':Shared):Prop
 | mk (ws:List W) (F':PMap) (μ':Mem) (hk:k p.1 ws μ') (le:PLe F F') (S:Sim C F' Z μ' s') (hv:WsAt C.P F' ws p.2):PostM C Z k F p s'
theorem Post.trans {C:Cx}{Z F F':PMap}{k:PostW}{v:Value}{s:Shared}(h:PLe F F'):Post C Z k F' v s->Post C Z k F v s
 | ⟨x,G,μ,a,b,c,d⟩=>⟨x,G,μ,a,h.trans b,c,d⟩
theorem PostB.trans {C:Cx}{Z F F':PMap}{k:Bool->Mem->Prop}{v:Bool}{s:Shared}(h:PLe F F'):PostB C Z k F' v s->PostB C Z k F v s
 | ⟨G,μ,a,b,c⟩=>⟨G,μ,a,h.trans b,c⟩
noncomputable def cE (C:Cx)(d:Nat)(sc:Scope)(ε:Env1)(μ:Mem)(e:Expr)(k:PostW):Prop :=
 ∀ (A:Around) (env:Env) (F Z:PMap) (s:Shared),Rm A d->env.scope=sc->EnvRel C F Z env ε->Sim C F Z μ s->wpAny C.M A (eval e env) (Post C Z k F) (fun _ _=>False) s
noncomputable def cT (C:Cx)(d:Nat)(sc:Scope)(ε:Env1)(μ:Mem)(e:Expr)(k:Bool->Mem->Prop):Prop :=
 ∀ (A:Around) (env:Env) (F Z:PMap) (s:Shared),Rm A d->env.scope=sc->EnvRel C F Z env ε->Sim C F Z μ s->wpAny C.M A (isTrue e env (eval e env)) (PostB C Z k F) (fun _ _=>False) s
noncomputable def cEs (C:Cx)(d:Nat)(sc:Scope)(ε:Env1)(μ:Mem)(es:List Expr)(k:List W->Mem->Prop):Prop :=
 ∀ (A:Around) (env:Env) (F Z:PMap) (s:Shared) (pos:Pos),Rm A d->env.scope=sc->EnvRel C F Z env ε->Sim C F Z μ s->wpAny C.M A (spliced (backTo pos (starEach es env))) (PostL C Z k F) (fun _ _=>False) s
noncomputable def cV2 (C:Cx)(d:Nat)(μ:Mem)(x y:W)(f:Value->Value->Sem Value)(k:PostW):Prop :=
 ∀ (A:Around) (F Z:PMap) (s:Shared) (a b:Value),Rm A d->Sim C F Z μ s->WAt C.P F x a->WAt C.P F y b->wpAny C.M A (f a b) (Post C Z k F) (fun _ _=>False) s
noncomputable def cB1 (C:Cx)(d:Nat)(μ:Mem)(x:W)(f:Value->Sem Bool)(k:Bool->Mem->Prop):Prop :=
 ∀ (A:Around) (F Z:PMap) (s:Shared) (a:Value),Rm A d->Sim C F Z μ s->WAt C.P F x a->wpAny C.M A (f a) (PostB C Z k F) (fun _ _=>False) s
section
variable {C:Cx}{d:Nat}{sc:Scope}{ε:Env1}{μ:Mem}{k k':PostW}
theorem wpBot {α:Type}{M:Model}{A:Around}{t:Sem α}{Q Q':α->Shared->Prop}{E:Value->Shared->Prop}{s:Shared}(h:wpAny M A t Q (fun _ _=>False) s)(hQ:∀ a s',Q a s'->Q' a s'):wpAny M A t Q' E s :=
 wpAny_mono h hQ fun _ _ f=>f.elim
theorem cE.mono {e:Expr}(h:cE C d sc ε μ e k)(hk:∀ x μ',k x μ'->k' x μ'):cE C d sc ε μ e k':=fun A env F Z s a b c dd =>
 wpBot (h A env F Z s a b c dd) fun _ _ ⟨x,F',μ',q,r1,r2,r3⟩=>⟨x,F',μ',hk _ _ q,r1,r2,r3⟩
theorem Sim.tok {F Z:PMap}{s:Shared}(S:Sim C F Z μ s)(t:Nat):Sim C F Z μ { s with toks:=t }:=⟨S.base,S.fz,S.zz,S.dis,S.own,S.nod,S.os,S.gens⟩
theorem cE_int {i:Int}{kd:Nat}{pos:Pos}(h:k (.v (.int i)) μ):cE C d sc ε μ (.Constant (.int i) kd pos) k:=fun _ _ F _ s _ _ _ S =>
 wpAny_Constant_int ⟨.v (.int i),F,μ,h,.refl _,S.tok _,.int _ _⟩
theorem cE_str {x:Str}{kd:Nat}{pos:Pos}(h:k (.v (.str x)) μ):cE C d sc ε μ (.Constant (.str x) kd pos) k:=fun _ _ F _ s _ _ _ S =>
 wpAny_Constant_str ⟨.v (.str x),F,μ,h,.refl _,S.tok _,.str _ _⟩
theorem cE_bool {b:Bool}{kd:Nat}{pos:Pos}(h:k (.v (.bool b)) μ):cE C d sc ε μ (.Constant (.bool b) kd pos) k:=fun _ _ F _ s _ _ _ S =>
 wpAny_Constant_bool ⟨.v (.bool b),F,μ,h,.refl _,S,.bool _⟩
theorem cE_none {kd:Nat}{pos:Pos}(h:k (.v .none) μ):cE C d sc ε μ (.Constant .none kd pos) k:=fun _ _ F _ s _ _ _ S =>
 wpAny_Constant_none ⟨.v .none,F,μ,h,.refl _,S,.none⟩
theorem Sim.nsZ {F Z:PMap}{s:Shared}(S:Sim C F Z μ s){a:Addr}{o:Obj}{es:Array DictEntry}{n:Nat}(hz:Z a=some o)(hd:o.data=.dict es n)(hk:StrKeys es):s.heap.Ns a (nsFind es) :=
 ⟨o,es,n,S.zz _ _ hz,hd,hk,fun _=>rfl⟩
theorem cE_name {x:Str}{w:W}{pos:Pos}(hx:ε.lookup x=some w)(h:k w μ)(hk:sc.names.lookup x=some .local∨sc.names.lookup x=some .cell∨sc.names.lookup x=some .free)(hd:(x == ("__debug__" : Str))=false)(hn:(x == ("__classdict__" : Str))=false) :
  cE C d sc ε μ (.Name x pos) k:=fun A env F Z s _ hs R S=>by
 subst hs;refine wpAny_Name ?_ hd
 rcases hk with hk | hk | hk
 ·refine el34 (R.ns) fun o es n hz hdt hsk hl=>?_;refine el12 (hl x w hx hk) fun v e hw=>?_;exact wpAny_loadName_local R.kind hk (S.nsZ hz hdt hsk) e ⟨w,F,μ,h,.refl _,S,hw⟩
 ·refine el34 (R.cell x (.inl hk)) fun c o u hc hz hdt hl=>?_
  (refine el12 (hl w hx) fun v qq1 hw=>?_;subst qq1)
  exact wpAny_loadName_cell R.kind hk hc ⟨o,S.zz _ _ hz,hdt⟩ ⟨w,F,μ,h,.refl _,S,hw⟩
 ·refine el34 (R.cell x (.inr hk)) fun c o u hc hz hdt hl=>?_
  (refine el12 (hl w hx) fun v qq1 hw=>?_;subst qq1)
  exact wpAny_loadName_free R.kind hk hc ⟨o,S.zz _ _ hz,hdt⟩ ⟨w,F,μ,h,.refl _,S,hw⟩ hn
structure Glob (C:Cx)(x:Str)(v:Value):Prop where
 at':∃ mg mb:Str->Option Value,C.B.Ns mainGlobals mg∧C.B.Ns builtinsNs mb∧(mg x=some v∨(mg x=none∧mb x=some v))
theorem Glob.ofK {C:Cx}{x:Str}{v:Value}(e:PySem.W.nsIn C.K mainGlobals x=some (some v)):Glob C x v:=⟨C.mg,C.mb,C.gg,C.gb,.inl (PySem.W.mg_of C.kin C.gg e)⟩
theorem Glob.blt {C:Cx}{x:Str}{v:Value}(e:PySem.W.nsIn C.K mainGlobals x=some none)(hv:bootBuiltins x=some v)(hn:x ≠ "__name__"):Glob C x v :=
 ⟨C.mg,C.mb,C.gg,C.gb,.inr ⟨PySem.W.mg_none_of C.kin C.gg e,(C.bb x hn).trans hv⟩⟩
theorem Sim.keep {F Z:PMap}{s:Shared}(S:Sim C F Z μ s):∀ b o,C.B.get? b=some o->s.heap.get? b=some o:=fun b o e=>S.fz b o (S.base b o e)
theorem cE_glob {x:Str}{v:Value}{pos:Pos}(g:Glob C x v)(hv:PySem.W.handedIn v=true)(h:k (.v (.glob v)) μ)(hk:sc.names.lookup x=some .globalImplicit)(hd:(x == ("__debug__" : Str))=false) :
  cE C d sc ε μ (.Name x pos) k:=fun A env F Z s _ hs R S=>by
 subst hs;refine el23 (g.at') fun mg mb h1 h2 h3=>?_;refine Name_function_global R.kind hk ?_ hd;have post:Post C Z k F v s:=⟨.v (.glob v),F,μ,h,.refl _,S,.glob _ hv⟩
 rcases h3 with h3 | ⟨h3,h4⟩
 ·exact loadGlobal_global (env:=env) (by rw [R.glob];exact h1.keeps S.keep) h3 post
 ·exact loadGlobal_builtin (env:=env) (by rw [R.glob];exact h1.keeps S.keep) h3 (by rw [R.blt.1];exact h2.keeps S.keep) h4 post
theorem Sim.kin {F Z:PMap}{s:Shared}(S:Sim C F Z μ s):C.K.In s.heap:=C.kin.keeps S.keep
theorem Sim.lim {F Z:PMap}{s:Shared}(S:Sim C F Z μ s):s.heap.NoLimit:=C.lim.keeps S.keep
end
end
section
open PySem
noncomputable def gg (x:Nat):Nat:=x*5+1
noncomputable def ggN:Nat->Nat->Nat
 | 0,x=>x
 | n+1,x=>ggN n (gg x)
theorem ggN_add (m n x:Nat):ggN (m+n) x=ggN n (ggN m x):=by
 induction m generalizing x with
 | zero=>rw [Nat.zero_add];rfl
 | succ m ih=>rw [Nat.succ_add];exact ih (gg x)
theorem gg_pow (k:Nat):∃ m,∀ y,ggN (2 ^ k) y=y+(4*y+1)*(2 ^ k*(2*m+1)):=by
 induction k with
 | zero=>exact ⟨0,fun y=>by show gg y=_;unfold gg;lia⟩
 | succ k ih =>
  obtain ⟨m,hm⟩:=ih;generalize hc:2 ^ k*(2*m+1)=c at hm;refine ⟨m+(2*m+1)*c,fun y=>?_⟩;rw [show 2 ^ (k+1)=2 ^ k+2 ^ k by rw [Nat.pow_succ];lia,ggN_add,hm,hm]
  have e1:(2 ^ k+2 ^ k)*(2*(m+(2*m+1)*c)+1)=2*c*(1+2*c):=by
   have e2:2*(m+(2*m+1)*c)+1=(2*m+1)*(1+2*c):=by grind
   rw [e2]
   have e3:(2 ^ k+2 ^ k)*((2*m+1)*(1+2*c))=2*(2 ^ k*(2*m+1))*(1+2*c):=by
    generalize 2 ^ k=p;generalize 2*m+1=q
    grind
   rw [e3,hc]
  rw [e1]
  grind
theorem mod_two (p x:Nat):x % (2*p)=x % p∨x % (2*p)=x % p+p:=by
 have h:=Nat.mod_mul (a:=p) (b:=2) (x:=x);rw [Nat.mul_comm p 2] at h
 rcases Nat.mod_two_eq_zero_or_one (x / p) with q | q
 ·rw [q,Nat.mul_zero] at h;exact .inl h
 ·rw [q,Nat.mul_one] at h;exact .inr h
theorem flip_mod {a p Y J:Nat}(ha:a<p)(hY:Y=a∨Y=a+p)(hJ:J=a∨J=a+p)(hne:Y≠J):(Y+p) % (2*p)=J:=by
 refine hY.elim (fun q=>hJ.elim (fun r=>absurd (q.trans r.symm) hne) fun r=>?_) fun q=>hJ.elim (fun r=>?_) fun r=>absurd (q.trans r.symm) hne
 ·rw [q,r];exact Nat.mod_eq_of_lt (by rw [Nat.two_mul];exact Nat.add_lt_add_right ha p)
 ·rw [q,r,Nat.add_assoc,<-Nat.two_mul,Nat.add_mod_right];exact Nat.mod_eq_of_lt (by rw [Nat.two_mul];exact Nat.lt_add_left _ ha)
theorem gg_cover (k:Nat):∀ x j,∃ n,n<2 ^ k∧ggN n x % 2 ^ k=j % 2 ^ k:=by
 induction k with
 | zero=>exact fun x j=>⟨0,by decide,by simp [Nat.mod_one]⟩
 | succ k ih =>
  intro x j;refine el12 (ih x j) fun n hn he=>?_
  have hp:2 ^ (k+1)=2*2 ^ k:=by rw [Nat.pow_succ];lia
  obtain ⟨m,hm⟩:=gg_pow k;by_cases h:ggN n x % 2 ^ (k+1)=j % 2 ^ (k+1)
  ·exact ⟨n,by rw [hp,Nat.two_mul];exact Nat.lt_add_left _ hn,h⟩
  ·refine ⟨n+2 ^ k,by rw [hp,Nat.two_mul];exact Nat.add_lt_add_right hn _,?_⟩;rw [ggN_add,hm];generalize ggN n x=y at *;have pos:0<2 ^ k:=Nat.two_pow_pos k;generalize hP:2 ^ k=p at *
   have e2:(4*y+1)*(p*(2*m+1))=p+2*p*((4*y+1)*m+2*y):=by grind
   rw [e2,hp];rw [hp] at h
   have e3:(y+(p+2*p*((4*y+1)*m+2*y))) % (2*p)=(y+p) % (2*p):=by
    rw [<-Nat.add_assoc,Nat.add_mul_mod_self_left]
   rw [e3];rw [<-Nat.mod_add_mod];exact flip_mod (Nat.mod_lt _ pos) (mod_two p y) (he▸mod_two p j) h
noncomputable def lpN (mask:Nat)(x:Nat×Nat):Nat->Nat×Nat
 | 0=>x
 | n+1=>SetTable.leap mask (lpN mask x n).1 (lpN mask x n).2
theorem lpN_snd (mask i q:Nat)(n:Nat):(lpN mask (i,q) n).2=q / 32 ^ n:=by
 induction n with
 | zero=>simp [lpN]
 | succ n ih=>show (lpN mask (i,q) n).2 / 32=_;rw [ih,Nat.div_div_eq_div_mul,Nat.pow_succ]
theorem ggN_succ (n x:Nat):ggN (n+1) x=gg (ggN n x):=by rw [ggN_add];rfl
theorem lpN_far {mask k i q:Nat}(hm:mask+1=2 ^ k)(hq:q<2 ^ 64)(m:Nat):(lpN mask (i,q) (13+m)).1 % 2 ^ k=ggN m (lpN mask (i,q) 13).1 % 2 ^ k:=by
 induction m with
 | zero=>rfl
 | succ m ih =>
  show ((lpN mask (i,q) (13+m)).1*5+1+(lpN mask (i,q) (13+m)).2 / 32) % (mask+1) % 2 ^ k=_;rw [lpN_snd,hm,Nat.mod_mod,ggN_succ]
  have z:q / 32 ^ (13+m)=0:=by
   apply Nat.div_eq_of_lt;exact Nat.lt_of_lt_of_le (Nat.lt_trans hq (by decide)) (Nat.pow_le_pow_right (by decide) (Nat.le_add_right 13 m))
  rw [z];show ((lpN mask (i,q) (13+m)).1*5+1+0 / 32) % 2 ^ k=(ggN m (lpN mask (i,q) 13).1*5+1) % 2 ^ k;generalize (lpN mask (i,q) (13+m)).1=x at ih
  have e:x*5 % 2 ^ k=ggN m (lpN mask (i,q) 13).1*5 % 2 ^ k:=by rw [Nat.mul_mod,ih,<-Nat.mul_mod]
  show (x*5+1) % 2 ^ k=_;rw [Nat.add_mod,e,<-Nat.add_mod]
theorem lpN_fst_lt {mask i q:Nat}(hi:i≤mask)(n:Nat):(lpN mask (i,q) n).1≤mask:=by
 cases n with
 | zero=>exact hi
 | succ n=>exact Nat.le_of_lt_succ (Nat.mod_lt _ (Nat.succ_pos _))
theorem lpN_cover {mask k i q j:Nat}(hm:mask+1=2 ^ k)(hq:q<2 ^ 64)(hi:i≤mask)(hj:j≤mask):∃ n,n<SetTable.turns mask∧(lpN mask (i,q) n).1=j:=by
 refine el12 (gg_cover k (lpN mask (i,q) 13).1 j) fun m h1 h2=>?_;refine ⟨13+m,show 13+m<mask+15 from Nat.add_comm m 13▸Nat.add_lt_add_of_le_of_lt (Nat.le_of_lt_succ (by rw [<-hm] at h1;exact h1)) (by decide),?_⟩;have h3:=lpN_far (i:=i) hm hq m;rw [h2,<-hm,Nat.mod_eq_of_lt (Nat.lt_succ_of_le (lpN_fst_lt (q:=q) hi (13+m))),Nat.mod_eq_of_lt (Nat.lt_succ_of_le hj)] at h3;exact h3
theorem bits_lt (h:Int):SetTable.bits h<2 ^ 64:=by
 have h2:h % (2 ^ 64:Int)<2 ^ 64:=Int.emod_lt_of_pos _ (by decide);exact (Int.toNat_lt (Int.emod_nonneg _ (by decide))).mpr h2
theorem prb_run {t:SetTable}{h:Int}{n i q r:Nat}(h0:prb t h n={ j:=i,more:=r,i:=i,perturb:=q,dummy:=none }){m:Nat}:m≤r->prb t h (n+m)={ j:=i+m,more:=r-m,i:=i,perturb:=q,dummy:=none }:=by
 induction m with
 | zero=>exact fun _=>h0
 | succ m ih =>
  intro hm;show t.advance (prb t h (n+m))=_;rw [ih (Nat.le_of_lt hm)];exact if_pos (Nat.sub_pos_of_lt hm)
noncomputable def blk (mask:Nat)(x:Nat×Nat):SetTable.Probe:=⟨x.1,SetTable.runEnd mask x.1-x.1,x.1,x.2,none⟩
theorem run_end (mask i:Nat):∃ r,r≤9∧(i≤mask->i+r≤mask)∧SetTable.runEnd mask i=i+r:=by
 by_cases q:i+9≤mask
 ·exact ⟨9,Nat.le_refl _,fun _=>q,if_pos q⟩
 ·exact ⟨0,Nat.zero_le _,id,if_neg q⟩
theorem prb_next {t:SetTable}{h:Int}{n r:Nat}{x:Nat×Nat}(he:prb t h n=blk t.mask x)(hr:SetTable.runEnd t.mask x.1=x.1+r):prb t h (n+r+1)=blk t.mask (SetTable.leap t.mask x.1 x.2):=by
 unfold blk at he;rw [hr,Nat.add_sub_cancel_left] at he;show t.advance (prb t h (n+r))=_;rw [prb_run he (Nat.le_refl _),Nat.sub_self];exact if_neg (Nat.lt_irrefl 0)
theorem ten_le {n L r:Nat}(h:n≤10*L)(hr:r≤9):n+r+1≤10*(L+1):=show n+(r+1)≤10*L+10 from Nat.add_le_add h (Nat.succ_le_succ hr)
theorem prb_block {t:SetTable}{h:Int}(L:Nat):∃ n,n≤10*L∧prb t h n=blk t.mask (lpN t.mask (SetTable.bits h % (t.mask+1),SetTable.bits h) L):=by
 induction L with
 | zero=>exact ⟨0,Nat.le_refl _,rfl⟩
 | succ L ih=>exact el12 ih fun n hn he=>el13 (run_end t.mask _) fun r h9 _ hr=>⟨n+r+1,ten_le hn h9,prb_next he hr⟩
theorem prb_cover {t:SetTable}{h:Int}{k j:Nat}(hm:t.mask+1=2 ^ k)(hj:j≤t.mask):∃ n,n<10*SetTable.turns t.mask∧(prb t h n).j=j:=by
 refine el12 (lpN_cover (i:=SetTable.bits h % (t.mask+1)) (q:=SetTable.bits h) hm (bits_lt h) (Nat.le_of_lt_succ (Nat.mod_lt _ (Nat.succ_pos _))) hj) fun L h1 h2=>?_;refine el12 (prb_block (t:=t) (h:=h) L) fun n h3 h4=>?_;exact ⟨n,Nat.lt_of_le_of_lt h3 (Nat.mul_lt_mul_of_pos_left h1 (by decide)),by rw [h4];exact h2⟩
theorem blk_le {mask i:Nat}(hi:i<mask+1):i+(SetTable.runEnd mask i-i)≤mask:=el13 (run_end mask i) fun r _ hr e=>by rw [e,Nat.add_sub_cancel_left];exact hr (Nat.le_of_lt_succ hi)
theorem prb_le {t:SetTable}{h:Int}(n:Nat):(prb t h n).j+(prb t h n).more≤t.mask∧(prb t h n).dummy=none:=by
 induction n with
 | zero=>exact ⟨blk_le (Nat.mod_lt _ (Nat.succ_pos _)),rfl⟩
 | succ n ih =>
  show (t.advance (prb t h n)).j+(t.advance (prb t h n)).more≤t.mask∧(t.advance (prb t h n)).dummy=none;generalize prb t h n=p at ih;by_cases q:p.more > 0
  ·rw [show t.advance p={ p with j:=p.j+1,more:=p.more-1 } from if_pos q];exact ⟨by show p.j+1+(p.more-1)≤_;rw [Nat.add_assoc,Nat.add_comm 1,Nat.sub_add_cancel q];exact ih.1,ih.2⟩
  ·rw [show t.advance p={ p with j:=(SetTable.leap t.mask p.i p.perturb).1,more:=SetTable.runEnd t.mask (SetTable.leap t.mask p.i p.perturb).1-(SetTable.leap t.mask p.i p.perturb).1,i:=(SetTable.leap t.mask p.i p.perturb).1,perturb:=(SetTable.leap t.mask p.i p.perturb).2 } from if_neg q];exact ⟨blk_le (Nat.mod_lt _ (Nat.succ_pos _)),ih.2⟩
theorem getD_at {xs:Array Nat}{i j x:Nat}(h:xs[i]? = some x):xs.getD i j=x:=by rw [Array.getD_eq_getD_getElem?,h];rfl
theorem asc_lt {xs:Array Nat}{a b x y:Nat}(hs:xs.toList.Pairwise (· < ·))(hab:a<b)(ha:xs[a]? = some x)(hb:xs[b]? = some y):x<y:=by
 rw [<-Array.getElem?_toList] at ha hb;exact (List.getElem?_eq_some_iff.mp ha).elim fun la ea=>(List.getElem?_eq_some_iff.mp hb).elim fun lb eb=>ea▸eb▸List.pairwise_iff_getElem.mp hs a b la lb hab
theorem get_in {xs:Array Nat}{i:Nat}(h:i<xs.size):∃ x,xs[i]? = some x:=⟨_,Array.getElem?_eq_getElem h⟩
theorem mid_at {lo hi:Nat}(h:lo<hi):lo≤(lo+hi) / 2∧(lo+hi) / 2<hi :=
 ⟨(Nat.le_div_iff_mul_le Nat.two_pos).mpr (by rw [Nat.mul_two];exact Nat.add_le_add_left (Nat.le_of_lt h) lo),(Nat.div_lt_iff_lt_mul Nat.two_pos).mpr (by rw [Nat.mul_two];exact Nat.add_lt_add_right h hi)⟩
abbrev BelowIs (xs:Array Nat)(j p:Nat):Prop:=p≤xs.size∧(∀ i x,i<p->xs[i]? = some x->x<j)∧(∀ i x,p≤i->xs[i]? = some x->j≤x)
theorem below_go {xs:Array Nat}{j:Nat}(hs:xs.toList.Pairwise (· < ·)){fuel:Nat}:∀ {lo hi:Nat},lo≤hi->hi≤xs.size->hi≤lo+fuel->(∀ i x,i<lo->xs[i]? = some x->x<j)->(∀ i x,hi≤i->xs[i]? = some x->j≤x)->
  BelowIs xs j (SetTable.below.go xs j fuel lo hi):=by
 induction fuel with
 | zero=>exact fun h1 h2 h3 h4 h5=>⟨Nat.le_trans h1 h2,h4,fun i x a b=>h5 i x (Nat.le_trans h3 a) b⟩
 | succ fuel ih =>
  intro lo hi h1 h2 h3 h4 h5;by_cases hlt:lo<hi
  ·have hm:=mid_at hlt;have em:SetTable.below.go xs j (fuel+1) lo hi=if xs.getD ((lo+hi) / 2) j<j then SetTable.below.go xs j fuel ((lo+hi) / 2+1) hi else SetTable.below.go xs j fuel lo ((lo+hi) / 2):=if_pos hlt;rw [em];generalize (lo+hi) / 2=m at hm;refine (get_in (Nat.lt_of_lt_of_le hm.2 h2)).elim fun y hy=>?_;rw [getD_at hy];by_cases hc:y<j
   ·rw [if_pos hc];exact ih hm.2 h2 (Nat.le_trans h3 (by rw [Nat.add_right_comm m];exact Nat.succ_le_succ (Nat.add_le_add_right hm.1 _))) (fun i x q e=>(Nat.lt_or_eq_of_le (Nat.le_of_lt_succ q)).elim (fun q=>Nat.lt_trans (asc_lt hs q e hy) hc) fun q=>by subst q;rw [hy] at e;cases e;exact hc) h5
   ·rw [if_neg hc]
    exact ih hm.1 (Nat.le_trans (Nat.le_of_lt hm.2) h2) (Nat.le_of_lt_succ (Nat.lt_of_lt_of_le hm.2 h3)) h4 fun i x q e=>(Nat.lt_or_eq_of_le q).elim (fun q=>Nat.le_trans (Nat.le_of_not_lt hc) (Nat.le_of_lt (asc_lt hs q hy e))) fun q=>by subst q;rw [hy] at e;cases e;exact Nat.le_of_not_lt hc
  ·rw [show SetTable.below.go xs j (fuel+1) lo hi=lo from if_neg hlt];exact ⟨Nat.le_trans h1 h2,h4,fun i x a b=>h5 i x (Nat.le_trans (Nat.le_of_not_lt hlt) a) b⟩
theorem below_spec {xs:Array Nat}{j:Nat}(hs:xs.toList.Pairwise (· < ·)):BelowIs xs j (SetTable.below xs j) :=
 below_go hs (Nat.zero_le _) (Nat.le_refl _) (by rw [Nat.zero_add];exact Nat.le_refl _) (fun i x q=>absurd q (Nat.not_lt_zero _)) fun i x a b=>by rw [Array.getElem?_eq_none a] at b;cases b
theorem below_at {xs:Array Nat}{j i:Nat}(hs:xs.toList.Pairwise (· < ·))(h:xs[i]? = some j):SetTable.below xs j=i:=by
 refine el03 (below_spec (j:=j) hs) fun h1 h2 h3=>?_
 rcases Nat.lt_trichotomy (SetTable.below xs j) i with q | q | q
 ·exact (get_in (Nat.lt_of_lt_of_le q (Nat.le_of_lt (Array.getElem?_eq_some_iff.mp h).1))).elim fun x hx=>absurd (asc_lt hs q hx h) (Nat.not_lt_of_le (h3 _ _ (Nat.le_refl _) hx))
 ·exact q
 ·exact absurd (h2 i j q h) (Nat.lt_irrefl _)
theorem slot_live {t:SetTable}{i j:Nat}(hs:t.place.toList.Pairwise (· < ·))(h:t.place.toList[i]? = some j):t.slot j=.live i:=by
 have h':t.place[i]? = some j:=by rw [<-Array.getElem?_toList];exact h
 unfold SetTable.slot;rw [below_at hs h'];simp [h']
theorem slot_empty {t:SetTable}{j:Nat}(hd:t.dummies=#[])(h:j∉t.place.toList):t.slot j=.empty:=by
 unfold SetTable.slot
 have h1:(t.place[SetTable.below t.place j]? == some j)=false:=by
  cases e:t.place[SetTable.below t.place j]? with
  | none=>rfl
  | some x =>
   have:x≠j:=fun q=>h (by subst q;exact Array.mem_toList_iff.mpr (Array.mem_of_getElem? e))
   simpa using this
 dsimp only;rw [h1,hd];simp [SetTable.has]
theorem go_live {t:SetTable}{hashAt:Nat->Int}{h:Int}{p:SetTable.Probe}{i fuel:Nat}(e:t.slot p.j=.live i):SetTable.probe.go t hashAt h (fuel+1) p=if (hashAt i == h)=true then some (.candidate p.j i (t.advance p)) else SetTable.probe.go t hashAt h fuel (t.advance p):=by
 rw [SetTable.probe.go,e]
theorem go_none {t:SetTable}{hashAt:Nat->Int}{h:Int}{p:SetTable.Probe}{fuel:Nat}(e:t.slot p.j=.empty)(e':p.dummy=none):SetTable.probe.go t hashAt h (fuel+1) p=some (.empty p.j none):=by
 rw [SetTable.probe.go,e,e']
abbrev Took (t:SetTable)(hashAt:Nat->Int)(h:Int)(m m₁:Nat):Prop:=∀ x,m≤x->x<m₁->∃ i:Nat,t.place.toList[i]? = some (prb t h x).j∧hashAt i≠h
theorem probe_go {t:SetTable}{hashAt:Nat->Int}{h:Int}(hd:t.dummies=#[])(hs:t.place.toList.Pairwise (· < ·)){m₀:Nat}(he:(prb t h m₀).j∉t.place.toList){fuel:Nat}:∀ {m:Nat},m≤m₀->m₀<m+fuel->
  (∃ m₁,m≤m₁∧m₁≤m₀∧Took t hashAt h m m₁∧(prb t h m₁).j∉t.place.toList∧SetTable.probe.go t hashAt h fuel (prb t h m)=some (.empty (prb t h m₁).j none)) ∨
  (∃ m₁ i,m≤m₁∧m₁<m₀∧Took t hashAt h m m₁∧t.place.toList[i]? = some (prb t h m₁).j∧hashAt i=h∧SetTable.probe.go t hashAt h fuel (prb t h m)=some (.candidate (prb t h m₁).j i (prb t h (m₁+1)))):=by
 induction fuel with
 | zero=>exact fun h1 h2=>absurd h2 (Nat.not_lt_of_le h1)
 | succ fuel ih =>
  intro m h1 h2;by_cases hm:(prb t h m).j∈t.place.toList
  ·have lt:m<m₀:=Nat.lt_of_le_of_ne h1 fun e=>he (e▸hm);refine (List.mem_iff_getElem?.mp hm).elim fun i hi=>?_;have sl:=go_live (hashAt:=hashAt) (h:=h) (fuel:=fuel) (slot_live hs hi);by_cases hh:hashAt i=h
   ·exact .inr ⟨m,i,Nat.le_refl _,lt,fun x a b=>absurd b (Nat.not_lt_of_le a),hi,hh,sl.trans (if_pos (beq_iff_eq.mpr hh))⟩
   ·rw [show SetTable.probe.go t hashAt h (fuel+1) (prb t h m)=SetTable.probe.go t hashAt h fuel (prb t h (m+1)) from sl.trans (if_neg fun q=>hh (beq_iff_eq.mp q))];have ext:∀ {m₁},Took t hashAt h (m+1) m₁->Took t hashAt h m m₁:=fun a x b1 b2=>(Nat.lt_or_eq_of_le b1).elim (fun q=>a x q b2) fun q=>q▸⟨i,hi,hh⟩;exact (ih lt ((Nat.add_right_comm m 1 fuel).symm▸h2)).elim (fun q=>.inl (el15 q fun m₁ a1 a2 a3 a4 a5=>⟨m₁,Nat.le_of_lt a1,a2,ext a3,a4,a5⟩)) fun q=>.inr (el26 q fun m₁ i a1 a2 a3 a4 a5 a6=>⟨m₁,i,Nat.le_of_lt a1,a2,ext a3,a4,a5,a6⟩)
  ·exact .inl ⟨m,Nat.le_refl _,h1,fun x a b=>absurd b (Nat.not_lt_of_le a),hm,go_none (slot_empty hd hm) (prb_le (t:=t) (h:=h) m).2⟩
theorem exists_free (n:Nat)(l:List Nat)(h:l.length<n):∃ j,j<n∧j∉l:=Classical.byContradiction fun hc =>
 absurd (List.nodup_range.length_le_of_subset (l₁:=List.range n) (l₂:=l) fun j hj=>Classical.byContradiction fun q=>hc ⟨j,List.mem_range.mp hj,q⟩) (by rw [List.length_range];exact Nat.not_le_of_lt h)
theorem room_lt {n m:Nat}(h:n*5<m*3):n<m+1:=by lia
theorem TabOk.free {hs:List Int}{t:SetTable}(T:TabOk hs t)(h:Int):∃ m,m<10*SetTable.turns t.mask∧(prb t h m).j∉t.place.toList:=by
 refine el12 (T.mask) fun k hk hm=>?_;refine el12 (exists_free (t.mask+1) t.place.toList (room_lt T.room)) fun j h1 h2=>?_;refine el12 (prb_cover (h:=h) hm (Nat.le_of_lt_succ h1)) fun n h3 h4=>?_;exact ⟨n,h3,by rw [h4];exact h2⟩
end
variable {F Z F' Z' F₀ F₁ F₂ : PMap}{a b L c D : PySem.Addr}{s s' : PySem.Shared}{pos px gp spos : PySem.Pos}{μ μ' μ₁ μ₂ : Mem}{A : PySem.Around}{n i j m d u : Nat}{k k' : PostW}{o o' ob' oL : PySem.Obj}{P : PySem.Params}{env cenv : PySem.Env}{E : PySem.Value → PySem.Shared → Prop}{e iter target elt kx vx fe : PySem.Expr}{C : Cx}{Q : Bool → PySem.Shared → Prop}{ks lo : List Key}{kvs : List (Key × W)}{t t' : PySem.SetTable}{vs : List PySem.Value}{xs ws : List W}{dom hs : List PySem.Str}{ifs : List PySem.Expr}{sc sc₀ : PySem.Scope}{ε ε' : Env1}{kb : Bool → Mem → Prop}{kl : List W → Mem → Prop}{x y : PySem.Str}{w₀ : PySem.World}{es : Array (Int × PySem.Value)}{h' : PySem.Heap}{J : Nat → PySem.Obj → Prop}{kws : List (PySem.Str × W)}{prog : PySem.Program}
section
open PySem PySem.Calls
noncomputable def PSet (S:PMap)(a:Addr)(o:Obj):PMap:=fun b=>if b=a then some o else S b
theorem PSet.self (S:PMap)(a:Addr)(o:Obj):PSet S a o a=some o:=if_pos rfl
theorem PSet.ne (S:PMap)(o:Obj)(h:b≠a):PSet S a o b=S b:=if_neg h
theorem ne_of_none {S:PMap}{it:Addr}(h:S it=none)(e:S a=some o):a≠it:=fun q=>by rw [q,h] at e;cases e
theorem PSet.le (h:F a=none):PLe F (PSet F a o):=fun b ob e=>(PSet.ne _ _ (ne_of_none h e)).trans e
section
theorem cE_binop {l r:Expr}{op:Operator}(h:cE C d sc ε μ l fun x μ₁=>cE C d sc ε μ₁ r fun y μ₂=>cV2 C d μ₂ x y (binaryOp op) k) :
  cE C d sc ε μ (.BinOp l op r pos) k:=fun A env F Z s hA hs R S =>
 wpAny_BinOp (wpBot (h A env F Z s hA hs R S) fun a s₁ ⟨x,F₁,μ₁,h₁,le₁,S₁,hx⟩ =>
  wpBot (h₁ A env F₁ Z s₁ hA hs (R.mono le₁) S₁) fun b s₂ ⟨y,F₂,μ₂,h₂,le₂,S₂,hy⟩ =>
   wpBot (h₂ A F₂ Z s₂ a b hA S₂ (hx.mono le₂) hy) fun v s₃ p=>p.trans (le₁.trans le₂))
theorem cE_cmp {l r:Expr}{op:CmpOp}(h:cE C d sc ε μ l fun x μ₁=>cE C d sc ε μ₁ r fun y μ₂=>cV2 C d μ₂ x y (compareOp op) k)(hm:behindInMarks op r=false) :
  cE C d sc ε μ (.Compare l [op] [r] pos) k:=fun A env F Z s hA hs R S =>
 wpAny_Compare1 (wpBot (h A env F Z s hA hs R S) fun a s₁ ⟨x,F₁,μ₁,h₁,le₁,S₁,hx⟩ =>
  wpBot (h₁ A env F₁ Z s₁ hA hs (R.mono le₁) S₁) fun b s₂ ⟨y,F₂,μ₂,h₂,le₂,S₂,hy⟩ =>
   wpBot (h₂ A F₂ Z s₂ a b hA S₂ (hx.mono le₂) hy) fun v s₃ p=>p.trans (le₁.trans le₂)) hm
theorem cT_cmp {l r:Expr}{op:CmpOp}(h:cE C d sc ε μ l fun x μ₁=>cE C d sc ε μ₁ r fun y μ₂=>cV2 C d μ₂ x y (compareOp op) fun z μ₃=>∃ b,z=.v (.bool b)∧kb b μ₃)(hm:behindInMarks op r=false) :
  cT C d sc ε μ (.Compare l [op] [r] pos) kb:=fun A env F Z s hA hs R S =>
 wpAny_isTrue_Compare1 (wpBot (h A env F Z s hA hs R S) fun a s₁ ⟨x,F₁,μ₁,h₁,le₁,S₁,hx⟩ =>
  wpBot (h₁ A env F₁ Z s₁ hA hs (R.mono le₁) S₁) fun b s₂ ⟨y,F₂,μ₂,h₂,le₂,S₂,hy⟩ =>
   wpBot (h₂ A F₂ Z s₂ a b hA S₂ (hx.mono le₂) hy) fun v s₃ ⟨z,F₃,μ₃,⟨b,hz,hb⟩,le₃,S₃,hv⟩=>by
    subst hz;refine Val.i_bool hv ?_
    exact wpAny_truthy_bool ⟨F₃,μ₃,hb,(le₁.trans le₂).trans le₃,S₃⟩) hm
theorem cT_not {x:Expr}(h:cT C d sc ε μ x fun b=>kb (!b)):cT C d sc ε μ (.UnaryOp .Not x pos) kb:=fun A env F Z s hA hs R S =>
 wpAny_isTrue_Not (wpBot (h A env F Z s hA hs R S) fun _ _ ⟨a,b,c,d,e⟩=>⟨a,b,c,d,e⟩)
theorem cE_not {x:Expr}(h:cE C d sc ε μ x fun y μ₁=>cB1 C d μ₁ y truthy fun b μ₂=>k (.v (.bool (!b))) μ₂) :
  cE C d sc ε μ (.UnaryOp .Not x pos) k:=fun A env F Z s hA hs R S =>
 wpAny_UnaryOp (wpBot (h A env F Z s hA hs R S) fun a s₁ ⟨y,F₁,μ₁,h₁,le₁,S₁,hy⟩ =>
  not_value (wpBot (h₁ A F₁ Z s₁ a hA S₁ hy) fun b s₂ ⟨F₂,μ₂,h₂,le₂,S₂⟩=>⟨.v (.bool (!b)),F₂,μ₂,h₂,le₁.trans le₂,S₂,.bool _⟩))
noncomputable def cAll (C:Cx)(d:Nat)(sc:Scope)(ε:Env1)(μ:Mem)(op:BoolOp)(es:List Expr)(kb:Bool->Mem->Prop):Prop :=
 ∀ (A:Around) (env:Env) (F Z:PMap) (s:Shared),Rm A d->env.scope=sc->EnvRel C F Z env ε->Sim C F Z μ s->wpAny C.M A (allTrue op es env) (PostB C Z kb F) (fun _ _=>False) s
theorem cT_boolop {op:BoolOp}{es:List Expr}(h:cAll C d sc ε μ op es kb):cT C d sc ε μ (.BoolOp op es pos) kb:=fun A env F Z s hA hs R S =>
 wpAny_isTrue_BoolOp (h A env F Z s hA hs R S)
theorem cAll_and_nil (h:kb true μ):cAll C d sc ε μ .And [] kb:=fun A env F Z s hA hs R S=>wpAny_allTrue_And_nil ⟨F,μ,h,.refl _,S⟩
theorem cAll_or_nil (h:kb false μ):cAll C d sc ε μ .Or [] kb:=fun A env F Z s hA hs R S=>wpAny_allTrue_Or_nil ⟨F,μ,h,.refl _,S⟩
theorem cAll_and {es:List Expr}(h:cT C d sc ε μ e fun b μ₁=>(b=true->cAll C d sc ε μ₁ .And es kb)∧(b=false->kb false μ₁)):cAll C d sc ε μ .And (e::es) kb:=fun A env F Z s hA hs R S =>
 wpAny_allTrue_And_cons (wpBot (h A env F Z s hA hs R S) fun b s₁ ⟨F₁,μ₁,h₁,le₁,S₁⟩=>by
  cases b with
  | true=>exact wpBot (h₁.1 rfl A env F₁ Z s₁ hA hs (R.mono le₁) S₁) fun _ _ p=>p.trans le₁
  | false=>exact ⟨F₁,μ₁,h₁.2 rfl,le₁,S₁⟩)
theorem cAll_or {es:List Expr}(h:cT C d sc ε μ e fun b μ₁=>(b=false->cAll C d sc ε μ₁ .Or es kb)∧(b=true->kb true μ₁)):cAll C d sc ε μ .Or (e::es) kb:=fun A env F Z s hA hs R S =>
 wpAny_allTrue_Or_cons (wpBot (h A env F Z s hA hs R S) fun b s₁ ⟨F₁,μ₁,h₁,le₁,S₁⟩=>by
  cases b with
  | true=>exact ⟨F₁,μ₁,h₁.2 rfl,le₁,S₁⟩
  | false=>exact wpBot (h₁.1 rfl A env F₁ Z s₁ hA hs (R.mono le₁) S₁) fun _ _ p=>p.trans le₁)
theorem cE_and2 {x y:Expr}(h:cE C d sc ε μ x fun z μ₁=>∃ b,z=.v (.bool b)∧(b=true->cE C d sc ε μ₁ y k)∧(b=false->k (.v (.bool false)) μ₁)) :
  cE C d sc ε μ (.BoolOp .And [x,y] pos) k:=fun A env F Z s hA hs R S =>
 wpAny_And2 (wpBot (h A env F Z s hA hs R S) fun v s₁ ⟨z,F₁,μ₁,⟨b,hz,h1,h2⟩,le₁,S₁,hv⟩=>by
  subst hz;refine Val.i_bool hv ?_;refine wpAny_truthy_bool ?_
  cases b with
  | true=>exact wpBot (h1 rfl A env F₁ Z s₁ hA hs (R.mono le₁) S₁) fun _ _ p=>p.trans le₁
  | false=>exact ⟨_,F₁,μ₁,h2 rfl,le₁,S₁,.bool _⟩)
theorem cE_or2 {x y:Expr}(h:cE C d sc ε μ x fun z μ₁=>∃ b,z=.v (.bool b)∧(b=false->cE C d sc ε μ₁ y k)∧(b=true->k (.v (.bool true)) μ₁)) :
  cE C d sc ε μ (.BoolOp .Or [x,y] pos) k:=fun A env F Z s hA hs R S =>
 wpAny_Or2 (wpBot (h A env F Z s hA hs R S) fun v s₁ ⟨z,F₁,μ₁,⟨b,hz,h1,h2⟩,le₁,S₁,hv⟩=>by
  subst hz;refine Val.i_bool hv ?_;refine wpAny_truthy_bool ?_
  cases b with
  | true=>exact ⟨_,F₁,μ₁,h2 rfl,le₁,S₁,.bool _⟩
  | false=>exact wpBot (h1 rfl A env F₁ Z s₁ hA hs (R.mono le₁) S₁) fun _ _ p=>p.trans le₁)
theorem cE_ifexp {t x y:Expr}(h:cT C d sc ε μ t fun b μ₁=>(b=true->cE C d sc ε μ₁ x k)∧(b=false->cE C d sc ε μ₁ y k)) :
  cE C d sc ε μ (.IfExp t x y pos) k:=fun A env F Z s hA hs R S =>
 wpAny_IfExp (wpBot (h A env F Z s hA hs R S) fun b s₁ ⟨F₁,μ₁,h₁,le₁,S₁⟩=>by
  cases b with
  | true=>exact wpBot (h₁.1 rfl A env F₁ Z s₁ hA hs (R.mono le₁) S₁) fun _ _ p=>p.trans le₁
  | false=>exact wpBot (h₁.2 rfl A env F₁ Z s₁ hA hs (R.mono le₁) S₁) fun _ _ p=>p.trans le₁)
theorem cT_val (h:cE C d sc ε μ e fun x μ₁=>cB1 C d μ₁ x truthy kb)(he:∀ env whole,isTrue e env whole=(do let v ← whole;standAt e.pos;holding [v] (truthy v))):cT C d sc ε μ e kb:=fun A env F Z s hA hs R S =>
 wpAny_isTrue_value (wpBot (h A env F Z s hA hs R S) fun v s₁ ⟨x,F₁,μ₁,h₁,le₁,S₁,hx⟩ =>
  wpBot (h₁ A F₁ Z s₁ v hA S₁ hx) fun _ _ p=>p.trans le₁) (he _ _)
theorem truthy_bool' {b:Bool}(h:kb b μ):cB1 C d μ (.v (.bool b)) truthy kb:=fun A F Z s v hA S hv=>by
 refine Val.i_bool hv ?_;exact wpAny_truthy_bool ⟨F,μ,h,.refl _,S⟩
theorem cEs_nil (h:kl [] μ):cEs C d sc ε μ [] kl:=fun A env F Z s pos hA hs R S=>wpAny_items_nil ⟨[],F,μ,h,.refl _,S,.nil⟩
theorem cEs_cons {es:List Expr}(h:cE C d sc ε μ e fun x μ₁=>cEs C d sc ε μ₁ es fun xs μ₂=>kl (x::xs) μ₂)(he:∀ env,starEach (e::es) env=(false,eval e env)::starEach es env):cEs C d sc ε μ (e::es) kl:=fun A env F Z s pos hA hs R S =>
 wpAny_items_cons (wpBot (h A env F Z s hA hs R S) fun v s₁ ⟨x,F₁,μ₁,h₁,le₁,S₁,hx⟩ =>
  wpBot (h₁ A env F₁ Z s₁ pos hA hs (R.mono le₁) S₁) fun vs s₂ ⟨xs,F₂,μ₂,h₂,le₂,S₂,hxs⟩=>⟨x::xs,F₂,μ₂,h₂,le₁.trans le₂,S₂,.cons (hx.mono le₂) hxs⟩) (he env)
theorem no_ob (h:∀ ob,F a=some ob->False):F a=none:=by
 cases e:F a with
 | none=>rfl
 | some ob=>exact (h ob e).elim
theorem not_size {h:Heap}{ob:Obj}(e:h.get? b=some ob):b≠h.objs.size:=Nat.ne_of_lt (Heap.lt_size e)
theorem fresh_none (S:Sim C F Z μ s):F s.heap.objs.size=none∧Z s.heap.objs.size=none∧∀ x,(s.heap.objs.size,x)∉μ :=
 ⟨no_ob fun ob e=>not_size (S.fz _ _ e) rfl,no_ob fun ob e=>not_size (S.zz _ _ e) rfl,fun x hm=>(S.own _ _ hm).2.2.elim fun ob h=>not_size h.1 rfl⟩
theorem Sim.pushAt (S:Sim C F Z μ s)(hf:o.isFreed=false):Sim C (PSet F s.heap.objs.size o) Z μ { s with heap:=s.heap.push o }:=by
 have le:PLe F (PSet F s.heap.objs.size o):=PSet.le (fresh_none S).1;refine ⟨fun a ob e=>le a ob (S.base a ob e),fun a ob e=>?_,fun a ob e=>Heap.get?_push_of_some _ (S.zz a ob e),fun a ob e=>(PSet.ne _ _ (not_size (S.zz a ob e))).trans (S.dis a ob e),fun a x hm=>?_,S.nod,S.os,S.gens⟩
 ·by_cases q:a=s.heap.objs.size
  ·subst q;exact Option.some.inj ((PSet.self ..).symm.trans e)▸Heap.get?_push_size _ hf
  ·exact Heap.get?_push_of_some _ (S.fz a ob ((PSet.ne _ _ q).symm.trans e))
 ·have h:=S.own a x hm;exact h.2.2.elim fun ob q=>⟨(PSet.ne _ _ (not_size q.1)).trans h.1,h.2.1,ob,Heap.get?_push_of_some _ q.1,q.2.mono le⟩
theorem Sim.pushF (S:Sim C F Z μ s)(hf:o.isFreed=false) :
  ∃ F',PLe F F'∧F' s.heap.objs.size=some o∧Sim C F' Z μ { s with heap:=s.heap.push o }:=⟨_,PSet.le (fresh_none S).1,PSet.self ..,S.pushAt hf⟩
theorem Sim.pushZ (S:Sim C F Z μ s)(hf:o.isFreed=false):Sim C F (PSet Z s.heap.objs.size o) μ { s with heap:=s.heap.push o }:=by
 refine ⟨S.base,fun a ob e=>Heap.get?_push_of_some _ (S.fz a ob e),fun a ob e=>?_,fun a ob e=>?_,fun a x hm=>?_,S.nod,S.os,S.gens⟩
 ·by_cases q:a=s.heap.objs.size
  ·subst q;exact Option.some.inj ((PSet.self ..).symm.trans e)▸Heap.get?_push_size _ hf
  ·exact Heap.get?_push_of_some _ (S.zz a ob ((PSet.ne _ _ q).symm.trans e))
 ·by_cases q:a=s.heap.objs.size
  ·subst q;exact (fresh_none S).1
  ·exact S.dis a ob ((PSet.ne _ _ q).symm.trans e)
 ·have h:=S.own a x hm;exact h.2.2.elim fun ob q=>⟨h.1,(PSet.ne _ _ (not_size q.1)).trans h.2.1,ob,Heap.get?_push_of_some _ q.1,q.2⟩
theorem Sim.above (S:Sim C F Z μ s):mainGlobals<s.heap.objs.size:=el32 C.gg fun og _ _ hg _=>Heap.lt_size (S.fz _ _ (S.base _ _ hg))
theorem NamesOk.add {x:O}(h:NamesOk (μ.map (·.1)))(hn:∀ y,(a,y)∉μ)(hg:mainGlobals<a):NamesOk (((a,x)::μ).map (·.1)) :=
 ⟨List.nodup_cons.mpr ⟨fun hm=>(List.mem_map.mp hm).elim fun p hp=>hn p.2 ((show p=(a,p.2) from Prod.ext hp.2 rfl)▸hp.1),h.1⟩,fun b hb=>(List.mem_cons.mp hb).elim (fun q=>q▸hg) (h.2 b)⟩
theorem Sim.pushM (S:Sim C F Z μ s){x:O}(hf:o.isFreed=false)(hx:OAt C.P F x o) :
  Sim C F Z ((s.heap.objs.size,x)::μ) { s with heap:=s.heap.push o }:=by
 have n:=fresh_none S;refine ⟨S.base,fun a ob e=>Heap.get?_push_of_some _ (S.fz a ob e),fun a ob e=>Heap.get?_push_of_some _ (S.zz a ob e),S.dis,fun a y hm=>?_,S.nod.add n.2.2 S.above,S.os,S.gens⟩
 rcases List.mem_cons.mp hm with q | q
 ·cases q
  exact ⟨n.1,n.2.1,o,Heap.get?_push_size _ hf,hx⟩
 ·have h:=S.own a y q;exact h.2.2.elim fun ob q=>⟨h.1,h.2.1,ob,Heap.get?_push_of_some _ q.1,q.2⟩
noncomputable def frozen:List W->Option (List V)
 | []=>some []
 | .v x::r=>(frozen r).map (x::·)
 | .l _::_=>none
theorem Vals.of:∀ {ds:List V}{vs:List Value},frozen xs=some ds->WsAt P F xs vs->Vals P F ds vs:=by
 induction xs with
 | nil=>intro ds vs e q;cases e;exact q.i_nil .nil
 | cons x r ih =>
  intro ds vs e q;refine q.i_cons fun w ws a b=>?_
  cases x with
  | l _=>cases e
  | v x=>exact el12 (Option.map_eq_some_iff.mp e) fun t q1 q2=>q2▸.cons a (ih q1 b)
theorem WsAt.length (h:WsAt P F xs vs):vs.length=xs.length:=by
 induction h with
 | nil=>rfl
 | cons _ _ ih=>simp [ih]
theorem cE_tuple {es:List Expr}(h:cEs C d sc ε μ es fun xs μ₁=>∃ ds,frozen xs=some ds∧xs.length≤1000∧k (.v (.tup ds)) μ₁):cE C d sc ε μ (.Tuple es n pos) k:=fun A env F Z s hA hs R S =>
 wpAny_Tuple (wpBot (h A env F Z s pos hA hs R S) fun vs s₁ ⟨xs,F₁,μ₁,⟨ds,e,hz,h₁⟩,le₁,S₁,hx⟩=>by
  refine el13 (S₁.pushF (o:={ cls:=.type "tuple",data:=.seq vs.toArray }) rfl) fun F₂ le₂ at₂ S₂=>?_;refine ⟨by rw [hx.length];show _≤2 ^ 24;lia,.v (.tup ds),F₂,μ₁,h₁,le₁.trans le₂,S₂,?_⟩
  exact Val.tup at₂ (Vals.of e (hx.mono le₂)))
theorem cE_listF {es:List Expr}(h:cEs C d sc ε μ es fun xs μ₁=>∃ ds,frozen xs=some ds∧xs.length≤1000∧k (.v (.list ds)) μ₁):cE C d sc ε μ (.List es pos) k:=fun A env F Z s hA hs R S =>
 wpAny_List (wpBot (h A env F Z s pos hA hs R S) fun vs s₁ ⟨xs,F₁,μ₁,⟨ds,e,hz,h₁⟩,le₁,S₁,hx⟩=>by
  refine el13 (S₁.pushF (o:={ cls:=.type "list",data:=.seq vs.toArray }) rfl) fun F₂ le₂ at₂ S₂=>?_;refine ⟨by rw [hx.length];show _≤2 ^ 24;lia,.v (.list ds),F₂,μ₁,h₁,le₁.trans le₂,S₂,?_⟩
  exact Val.list at₂ (Vals.of e (hx.mono le₂)))
theorem cE_listM {es:List Expr}(h:cEs C d sc ε μ es fun xs μ₁=>xs.length≤1000∧∀ a,k (.l a) ((a,.list xs)::μ₁)):cE C d sc ε μ (.List es pos) k:=fun A env F Z s hA hs R S =>
 wpAny_List (wpBot (h A env F Z s pos hA hs R S) fun vs s₁ ⟨xs,F₁,μ₁,⟨hz,h₁⟩,le₁,S₁,hx⟩=>by
  refine ⟨by rw [hx.length];show _≤2 ^ 24;lia,.l s₁.heap.objs.size,F₁,_,h₁ _,le₁,S₁.pushM (o:={ cls:=.type "list",data:=.seq vs.toArray }) rfl ⟨_,_,rfl,hx⟩,rfl⟩)
end
end
section
open PySem PySem.Calls
theorem PUn.set {S:PMap}(h:Z a=none):PUn Z (PSet S a o)=PSet (PUn Z S) a o:=by
 funext b
 unfold PUn PSet;by_cases e:b=a
 ·subst e;simp [h]
 ·simp [e]
section
theorem Sim.setZ {Y:PMap}(S:Sim C F Y μ s)(hy:Y a=some o)(hs:Heap.SameBut a s.heap h')(ho:h'.get? a=some o')(t:Nat) :
  Sim C F (PSet Y a o') μ { s with heap:=h',toks:=t }:=by
 have fa:F a=none:=S.dis a o hy;refine ⟨S.base,fun b ob e=>(hs.2 b fun q=>?_).trans (S.fz b ob e),fun b ob e=>?_,fun b ob e=>?_,fun b x hm=>?_,S.nod,S.os,S.gens⟩
 ·rw [q,fa] at e;cases e
 ·by_cases q:b=a
  ·subst q;rw [PSet.self] at e;cases e;exact ho
  ·rw [PSet.ne _ _ q] at e;exact (hs.2 b q).trans (S.zz b ob e)
 ·by_cases q:b=a
  ·subst q;exact fa
  ·rw [PSet.ne _ _ q] at e;exact S.dis b ob e
 ·obtain ⟨h1,h2,ob,h3,h4⟩:=S.own b x hm
  have q:b≠a:=fun q=>by rw [q,hy] at h2;cases h2
  exact ⟨h1,by rw [PSet.ne _ _ q];exact h2,ob,(hs.2 b q).trans h3,h4⟩
structure Own (Z S:PMap)(env:Env):Prop where
 apart:∀ a o,S a=some o->Z a=none
 loc:∃ o,S env.locals=some o
 cell:∀ x c,env.cells.lookup x=some c->(∃ o,S c=some o)∧c≠env.locals
 inj:∀ x y c,env.cells.lookup x=some c->env.cells.lookup y=some c->x=y
noncomputable def SimS (C:Cx)(F Z:PMap)(μ:Mem)(s:Shared)(env:Env)(ε:Env1):Prop :=
 ∃ S:PMap,Sim C F (PUn Z S) μ s∧EnvRel C F (PUn Z S) env ε∧Own Z S env
inductive Fl where
 | next | brk | cont
 | ret (w:W)
noncomputable def FlAt (P:Params)(F:PMap):Fl->Flow->Prop
 | .next,f=>f=.next
 | .brk,f=>f=.brk
 | .cont,f=>f=.cont
 | .ret w,f=>∃ v,f=.ret v∧WAt P F w v
abbrev PostF:=Fl->Env1->Mem->Prop
inductive PostS (C:Cx) (Z:PMap) (env:Env) (k:PostF) (F:PMap) (f:Flow) (s':Shared):Prop
 | mk (fl:Fl) (ε':Env1) (μ':Mem) (F':PMap) (hk:k fl ε' μ') (hf:FlAt C.P F' fl f) (le:PLe F F') (S:SimS C F' Z μ' s' env ε'):PostS C Z env k F f s'
inductive PostA (C:Cx) (Z:PMap) (env:Env) (k:Env1->Mem->Prop) (F:PMap) (s':Shared):Prop
 | mk (ε':Env1) (μ':Mem) (F':PMap) (hk:k ε' μ') (le:PLe F F') (S:SimS C F' Z μ' s' env ε'):PostA C Z env k F s'
theorem PostS.trans {k:PostF}{f:Flow}(h:PLe F F'):PostS C Z env k F' f s->PostS C Z env k F f s
 | ⟨fl,ε,μ,G,a,b,c,dd⟩=>⟨fl,ε,μ,G,a,b,h.trans c,dd⟩
noncomputable def cS (C:Cx)(d:Nat)(sc:Scope)(ε:Env1)(μ:Mem)(st:List Stmt)(k:PostF):Prop :=
 ∀ (A:Around) (env:Env) (F Z:PMap) (s:Shared),Rm A d->env.scope=sc->SimS C F Z μ s env ε->wpAny C.M A (execs st env) (PostS C Z env k F) (fun _ _=>False) s
noncomputable def cS1 (C:Cx)(d:Nat)(sc:Scope)(ε:Env1)(μ:Mem)(st:Stmt)(k:PostF):Prop :=
 ∀ (A:Around) (env:Env) (F Z:PMap) (s:Shared),Rm A d->env.scope=sc->SimS C F Z μ s env ε->wpAny C.M A (exec st env) (PostS C Z env k F) (fun _ _=>False) s
variable {kf kf':PostF}
theorem cS_nil (h:kf .next ε μ):cS C d sc ε μ [] kf:=fun A env F Z s hA hs S=>wpAny_execs_nil ⟨.next,ε,μ,F,h,rfl,.refl _,S⟩
noncomputable def seqK (C:Cx)(d:Nat)(sc:Scope)(rest:List Stmt)(kf:PostF):PostF:=fun fl ε μ=>match fl with
 | .next=>cS C d sc ε μ rest kf
 | fl=>kf fl ε μ
theorem cS_cons {st:Stmt}{rest:List Stmt}(h:cS1 C d sc ε μ st (seqK C d sc rest kf)):cS C d sc ε μ (st::rest) kf:=fun A env F Z s hA hs S =>
 wpAny_execs_cons (wpBot (h A env F Z s hA hs S) fun f s₁ ⟨fl,ε₁,μ₁,F₁,h₁,ft,le₁,S₁⟩=>by
  cases fl with
  | next=>cases ft;exact wpBot (h₁ A env F₁ Z s₁ hA hs S₁) fun _ _ p=>p.trans le₁
  | brk=>cases ft;exact ⟨.brk,ε₁,μ₁,F₁,h₁,rfl,le₁,S₁⟩
  | cont=>cases ft;exact ⟨.cont,ε₁,μ₁,F₁,h₁,rfl,le₁,S₁⟩
  | ret w=>(refine el12 ft fun v qq1 hw=>?_;try clear ft;subst qq1);exact ⟨.ret w,ε₁,μ₁,F₁,h₁,⟨v,rfl,hw⟩,le₁,S₁⟩)
theorem cS1.mono {st:Stmt}(h:cS1 C d sc ε μ st kf)(hk:∀ f e m,kf f e m->kf' f e m):cS1 C d sc ε μ st kf':=fun A env F Z s a b c =>
 wpBot (h A env F Z s a b c) fun _ _ ⟨fl,e,m,F',q,r1,r2,r3⟩=>⟨fl,e,m,F',hk _ _ _ q,r1,r2,r3⟩
theorem cE.inS (h:cE C d sc ε μ e k)(hA:Rm A d)(hs:env.scope=sc)(S:SimS C F Z μ s env ε){Q:Value->Shared->Prop}(hQ:∀ v s' x F' μ',k x μ'->PLe F F'->SimS C F' Z μ' s' env ε->WAt C.P F' x v->Q v s'):wpAny C.M A (eval e env) Q E s:=by
 (refine el13 S fun S₀ hS hR hO=>?_;try clear S)
 exact wpBot (h A env F _ s hA hs hR hS) fun v s' ⟨x,F',μ',hk,le,S',hw⟩=>hQ v s' x F' μ' hk le ⟨S₀,S',hR.mono le,hO⟩ hw
theorem cT.inS (h:cT C d sc ε μ e kb)(hA:Rm A d)(hs:env.scope=sc)(S:SimS C F Z μ s env ε)(hQ:∀ b s' F' μ',kb b μ'->PLe F F'->SimS C F' Z μ' s' env ε->Q b s'):wpAny C.M A (isTrue e env (eval e env)) Q E s:=by
 (refine el13 S fun S₀ hS hR hO=>?_;try clear S)
 exact wpBot (h A env F _ s hA hs hR hS) fun b s' ⟨F',μ',hk,le,S'⟩=>hQ b s' F' μ' hk le ⟨S₀,S',hR.mono le,hO⟩
theorem cS1_return (h:cE C d sc ε μ e fun x μ'=>kf (.ret x) ε μ'):cS1 C d sc ε μ (.Return (some e) pos) kf:=fun A env F Z s hA hs S =>
 wpAny_Return_some (h.inS hA hs S fun v s' x F' μ' hk le S' hw=>⟨.ret x,ε,μ',F',hk,⟨v,rfl,hw⟩,le,S'⟩)
theorem cS1_if {t:Expr}{body orelse:List Stmt}(h:cT C d sc ε μ t fun b μ'=>(b=true->cS C d sc ε μ' body kf)∧(b=false->cS C d sc ε μ' orelse kf)) :
  cS1 C d sc ε μ (.If t body orelse pos) kf:=fun A env F Z s hA hs S =>
 wpAny_If (h.inS hA hs S fun b s' F' μ' hk le S'=>by
  cases b with
  | true=>exact wpBot (hk.1 rfl A env F' Z s' hA hs S') fun _ _ p=>p.trans le
  | false=>exact wpBot (hk.2 rfl A env F' Z s' hA hs S') fun _ _ p=>p.trans le)
theorem cS1_continue (h:kf .cont ε μ):cS1 C d sc ε μ (.Continue pos) kf:=fun A env F Z s hA hs S=>wpAny_Continue ⟨.cont,ε,μ,F,h,rfl,.refl _,S⟩
theorem StrKeys.of_ns {h:Heap}{m:Str->Option Value}(x:h.Ns a m):∃ o es n,h.get? a=some o∧o.data=.dict es n∧StrKeys es∧∀ y,nsFind es y=m y:=x
theorem lookup_cons_self {w:W}:((x,w)::ε).lookup x=some w:=by simp [List.lookup]
theorem lookup_cons_ne {w:W}(h:y≠x):((x,w)::ε).lookup y=ε.lookup y:=by
 have:(y == x)=false:=by simpa using h
 simp [List.lookup,this]
theorem PSet.has {S:PMap}(h:∃ o,S b=some o):∃ o,PSet S a o' b=some o:=by
 by_cases q:b=a
 ·exact ⟨o',if_pos q⟩
 ·exact h.elim fun o h=>⟨o,(PSet.ne _ _ q).trans h⟩
theorem PSet.apart {S:PMap}{p:Obj}(h:∀ b o,S b=some o->Z b=none)(ha:S a=some p)(b:Addr)(o:Obj)(e:PSet S a o' b=some o):Z b=none:=by
 by_cases q:b=a
 ·exact q▸h a p ha
 ·exact h b o ((PSet.ne _ _ q).symm.trans e)
theorem EnvRel.store {Y:PMap}(hR:EnvRel C F Y env ε)(hS:Sim C F Y μ s){w:W}{v:Value}(hw:WAt C.P F w v)(hk:env.kindOf x=some .local∨env.kindOf x=some .cell)(hne:∀ y c,(env.kindOf y=some .cell∨env.kindOf y=some .free)->env.cells.lookup y=some c->c≠env.locals)(uq:∀ y c,(env.kindOf y=some .cell∨env.kindOf y=some .free)->env.kindOf x=some .cell->env.cells.lookup x=some c->env.cells.lookup y=some c->y=x){Q:Unit->Shared->Prop}(hQ:∀ s' a o',(a=env.locals∨env.kindOf x=some .cell∧env.cells.lookup x=some a)->Sim C F (PSet Y a o') μ s'->EnvRel C F (PSet Y a o') env ((x,w)::ε)->Q () s'):wpAny C.M A (storeName env x v) Q E s:=by
 rcases hk with hk | hk
 ·refine el34 hR.ns fun o es n hz hdt hsk hl=>wpAny_storeName_local hk (hS.nsZ hz hdt hsk) (fun h' hns hsb=>el34 hns fun o' es' n' ho' hd' hk' hf'=>?_) (by rw [hR.kind];rfl);refine hQ _ env.locals o' (.inl rfl) (hS.setZ hz hsb ho' _) ⟨hR.kind,hR.glob,hR.blt,⟨o',es',n',PSet.self ..,hd',hk',fun y u e ky=>?_⟩,fun y ky=>?_⟩
  ·rw [hf'];by_cases q:y=x
   ·subst q;exact ⟨v,if_pos rfl,Option.some.inj (lookup_cons_self.symm.trans e)▸hw⟩
   ·exact el12 (hl y u ((lookup_cons_ne q).symm.trans e) ky) fun u' a b=>⟨u',(if_neg q).trans a,b⟩
  ·refine el34 (hR.cell y ky) fun c oc u hc hzc hdc hu=>⟨c,oc,u,hc,(PSet.ne _ _ (hne y c ky hc)).trans hzc,hdc,fun u' e=>hu u' ((lookup_cons_ne fun q=>?_).symm.trans e)⟩
   rw [q,hk] at ky;rcases ky with h | h<;>cases h
 ·refine el34 (hR.cell x (.inl hk)) fun c oc u hc hzc hdc hu=>wpAny_storeName_cell hR.kind hk hc ⟨oc,hS.zz _ _ hzc,hdc⟩ fun h' hcell hsb=>el12 hcell fun o' ho' hd'=>?_;refine hQ _ c o' (.inr ⟨hk,hc⟩) (hS.setZ hzc hsb ho' _) ⟨hR.kind,hR.glob,hR.blt,el34 hR.ns fun o es n hz hdt hsk hl=>⟨o,es,n,(PSet.ne _ _ (Ne.symm (hne x c (.inl hk) hc))).trans hz,hdt,hsk,fun y u' e ky=>hl y u' ((lookup_cons_ne fun q=>?_).symm.trans e) ky⟩,fun y ky=>?_⟩
  ·rw [q,hk] at ky;cases ky
  ·by_cases q:y=x
   ·subst q;exact ⟨c,o',some v,hc,PSet.self ..,hd',fun u' e=>⟨v,rfl,Option.some.inj (lookup_cons_self.symm.trans e)▸hw⟩⟩
   ·exact el34 (hR.cell y ky) fun c' oc' u' hc' hzc' hdc' hu'=>⟨c',oc',u',hc',(PSet.ne _ _ fun (r:c'=c)=>q (uq y c ky hk hc (hc'.trans (congrArg some r)))).trans hzc',hdc',fun u'' e=>hu' u'' ((lookup_cons_ne q).symm.trans e)⟩
theorem SimS.store (S:SimS C F Z μ s env ε){w:W}{v:Value}(hw:WAt C.P F w v)(hk:env.kindOf x=some .local∨env.kindOf x=some .cell){Q:Unit->Shared->Prop}(hQ:∀ s',SimS C F Z μ s' env ((x,w)::ε)->Q () s') :
  wpAny C.M A (storeName env x v) Q E s:=el13 S fun S₀ hS hR hO=>hR.store hS hw hk (fun y c _ hc=>(hO.cell y c hc).2) (fun y c _ _ hx hy=>hO.inj y x c hy hx) fun s' a o' ha h1 h2=>by
 refine Exists.elim (show ∃ p,S₀ a=some p from ha.elim (fun q=>q▸hO.loc) fun q=>(hO.cell x a q.2).1) fun p hp=>?_;rw [<-PUn.set (hO.apart a p hp)] at h1 h2;exact hQ s' ⟨PSet S₀ a o',h1,h2,PSet.apart hO.apart hp,PSet.has hO.loc,fun y c hc=>⟨PSet.has (hO.cell y c hc).1,(hO.cell y c hc).2⟩,hO.inj⟩
theorem cS1_assign (h:cE C d sc ε μ e fun w μ'=>kf .next ((x,w)::ε) μ')(hk:sc.names.lookup x=some .local∨sc.names.lookup x=some .cell)(hsw:∀ env:Env,env.scope=sc->swapsWith e (some (.Name x px)) pos.line env=pure false) :
  cS1 C d sc ε μ (.Assign [.Name x px] e pos) kf:=fun A env F Z s hA hs S =>
 wpAny_Assign_Name (h.inS hA hs S fun v s' w F' μ' hk' le S' hw=>S'.store hw (by subst hs;exact hk) fun s'' S''=>⟨.next,_,μ',F',hk',rfl,le,S''⟩) (hsw env hs)
theorem SimS.weaken (S:SimS C F Z μ s env ε)(he:∀ x w,ε'.lookup x=some w->ε.lookup x=some w)(hm:μ'.Sublist μ):SimS C F Z μ' s env ε':=by
 (refine el13 S fun S₀ hS hR hO=>?_;try clear S)
 refine ⟨S₀,⟨hS.base,hS.fz,hS.zz,hS.dis,fun a o h=>hS.own a o (hm.subset h),hS.nod.sublist (hm.map _),hS.os,hS.gens⟩,⟨hR.kind,hR.glob,hR.blt,?_,fun x k=>?_⟩,hO⟩
 ·refine el34 (hR.ns) fun o es n hz hdt hsk hl=>?_;exact ⟨o,es,n,hz,hdt,hsk,fun x w e=>hl x w (he x w e)⟩
 ·refine el34 (hR.cell x k) fun c o u hc hz hdt hl=>?_;exact ⟨c,o,u,hc,hz,hdt,fun w e=>hl w (he x w e)⟩
end
end
variable {kf kf' : PostF}
section
open PySem PySem.Calls
inductive KwAt (P:Params) (F:PMap):List (Str×W)->List (Str×Value)->Prop
 | nil:KwAt P F [] []
 | cons {n:Str}{x:W}{v:Value}{xs:List (Str×W)}{vs:List (Str×Value)}:WAt P F x v->KwAt P F xs vs->KwAt P F ((n,x)::xs) ((n,v)::vs)
@[elab_as_elim] theorem KwAt.i_nil {us:List (Str×Value)}{Q:List (Str×Value)->Prop}(h:KwAt P F [] us)(q:Q []):Q us:=by cases h;exact q
noncomputable def cCall (C:Cx)(d:Nat)(μ:Mem)(fv:Value)(xs:List W)(kws:List (Str×W))(k:PostW):Prop :=
 ∀ (A:Around) (F Z:PMap) (s:Shared) (vs:List Value) (kvs:List (Str×Value)),Rm A d->Sim C F Z μ s->WsAt C.P F xs vs->KwAt C.P F kws kvs->wpAny C.M A (call fv vs kvs) (Post C Z k F) (fun _ _=>False) s
noncomputable def cMeth (C:Cx)(d:Nat)(μ:Mem)(x:W)(name:Str)(k:Value->List W->Mem->Prop):Prop :=
 ∀ (A:Around) (F Z:PMap) (s:Shared) (v:Value) (pl:Sem Bool),Rm A d->Sim C F Z μ s->WAt C.P F x v->
  wpAny C.M A (getMethod v name pl) (PostM C Z k F) (fun _ _=>False) s
noncomputable def cAttr (C:Cx)(d:Nat)(μ:Mem)(x:W)(name:Str)(k:PostW):Prop :=
 ∀ (A:Around) (F Z:PMap) (s:Shared) (v:Value) (b:Bool),Rm A d->Sim C F Z μ s->WAt C.P F x v->wpAny C.M A (getAttr v name b) (Post C Z k F) (fun _ _=>False) s
noncomputable def KeepOk (C:Cx)(fv:Value):Prop:=PySem.W.keepIn C.K fv=true∨(∃ id,fv=.builtin id)∨∃ T,fv=.type T
theorem KeepOk.looks {fv:Value}(h:KeepOk C fv){M:Model}(hp:Heap)(X:C.K.In hp):∃ k,(k=Keeper.frame∨k=Keeper.machine∨k=Keeper.boundFrame)∧PySem.W.Looks M hp (keeperOf fv) k:=by
 rcases h with h | ⟨id,rfl⟩ | ⟨T,rfl⟩
 ·exact PySem.W.keeps_K h hp X
 ·exact ⟨.machine,.inr (.inl rfl),PySem.W.Looks.of_pure rfl⟩
 ·exact ⟨.machine,.inr (.inl rfl),PySem.W.Looks.of_pure rfl⟩
theorem evalArgs_gen {M:Model}{f:Value}{args:List (Bool×Sem Value)}{Q:Args->Shared->Prop}(h0:args.any (·.1)=false)(h:wpAny M A (spliced args) (fun vs s'=>Q ⟨vs,[]⟩ s') E s):wpAny M A (evalArgs f true args []) Q E s:=by
 cases args with
 | nil =>
  unfold evalArgs;show wpAny M A (spliced []>>=_) Q E s;refine wpAny_bind (wpAny_mono h (fun vs s' h'=>?_) fun _ _ x=>x);refine wpAny_holding ?_;exact wpAny_bind (wpAny_pure (wpAny_bind (wpAny_pure (wpAny_pure h'))))
 | cons x r =>
  obtain ⟨b,t⟩:=x
  have hb:b=false:=by
   simp only [List.any_cons,Bool.or_eq_false_iff] at h0;exact h0.1
  subst hb;exact evalArgs_plain h
section
theorem callWith_at {Z:PMap}{fv:Value}{first:List Value}{args:List (Bool×Sem Value)}{Q:Value->Shared->Prop}(hk:KeepOk C fv)(h0:args.any (·.1)=false)(h:wpAny C.M A (spliced args) (fun vs s'=>C.K.In s'.heap∧wpAny C.M A (call fv (first++vs) []) Q (fun _ _=>False) s') (fun _ _=>False) s) :
  wpAny C.M A (callWith pos fv first args []) Q (fun _ _=>False) s :=
 PySem.W.callWith_of (P:=fun hp=>C.K.In hp) (by rw [h0];rfl) (fun hp X=>hk.looks hp X) (evalArgs_gen h0 h)
theorem cE_call {args:List Expr}(hev:∀ env,eval (.Call fe args [] pos) env=(eval fe env>>=fun f=>callWith pos f [] (backTo pos (starEach args env)) []))(hpl:∀ env,(backTo pos (starEach args env)).any (·.1)=false)(h:cE C d sc ε μ fe fun fw μ₁=>∃ fv,fw=.v (.glob fv)∧KeepOk C fv∧cEs C d sc ε μ₁ args fun xs μ₂=>cCall C d μ₂ fv xs [] k) :
  cE C d sc ε μ (.Call fe args [] pos) k:=fun A env F Z s hA hs R S=>by
 rw [hev];refine wpAny_bind (wpBot (h A env F Z s hA hs R S) fun v s₁ hq=>?_);obtain ⟨fw,F₁,μ₁,⟨fv,hfw,hk,h₁⟩,le₁,S₁,hv⟩:=hq;subst hfw
 cases hv
 refine callWith_at (C:=C) (Z:=Z) hk (hpl env) (wpBot (h₁ A env F₁ Z s₁ pos hA hs (R.mono le₁) S₁) fun vs s₂ ⟨xs,F₂,μ₂,h₂,le₂,S₂,hxs⟩=>⟨S₂.kin,?_⟩);exact wpBot (h₂ A F₂ Z s₂ vs [] hA S₂ hxs .nil) fun _ _ p=>p.trans (le₁.trans le₂)
theorem cE_mcall {o:Expr}{name:Str}{apos:Pos}{args:List Expr}(hbase:∀ env,attributeBase o name env (eval o env)=eval o env)(hfew:∀ env,methodCallForm (args.length+([]:List Keyword).length) (backTo pos (starEach args env)) (backToKw pos (keywordEach [] env))=true)(hline:(apos.endLine == pos.line)=true)(hpl:∀ env,(backTo pos (starEach args env)).any (·.1)=false)(h:cE C d sc ε μ o fun ow μ₁=>cMeth C d μ₁ ow name fun fv first μ₂=>KeepOk C fv∧cEs C d sc ε μ₂ args fun xs μ₃=>cCall C d μ₃ fv (first++xs) [] k) :
  cE C d sc ε μ (.Call (.Attribute o name apos) args [] pos) k:=fun A env F Z s hA hs R S=>by
 rw [arm_eval_Call,hbase];refine wpAny_bind (wpBot (h A env F Z s hA hs R S) fun ov s₁ ⟨ow,F₁,μ₁,h₁,le₁,S₁,hv⟩=>wpAny_bind (wpAny_standAt ?_))
 have hpos:methodCallPos true o env apos pos=pure pos:=by unfold methodCallPos;simp [hline]
 unfold methodCall;rw [hfew];refine wpAny_bind (wpAny_holding (wpBot (h₁ A F₁ Z s₁ ov _ hA S₁ hv) fun p s₂ hq=>?_));obtain ⟨ws,F₂,μ₂,⟨hk,h₂⟩,le₂,S₂,hws⟩:=hq;obtain ⟨fv,first⟩:=p;refine wpAny_bind (wpAny_of_eq hpos ?_);refine callWith_at (C:=C) (Z:=Z) hk (hpl env) (wpBot (h₂ A env F₂ Z s₂ pos hA hs (R.mono (le₁.trans le₂)) S₂) fun vs s₃ ⟨xs,F₃,μ₃,h₃,le₃,S₃,hxs⟩=>⟨S₃.kin,?_⟩)
 have hap:∀ {a:List W}{b:List Value},WsAt C.P F₃ a b->WsAt C.P F₃ (a++xs) (b++vs):=fun x=>by
  induction x with
  | nil=>exact hxs
  | cons p _ ih=>exact .cons p ih
 exact wpBot (h₃ A F₃ Z s₃ (first++vs) [] hA S₃ (hap (hws.mono le₃)) .nil) fun _ _ p=>p.trans ((le₁.trans le₂).trans le₃)
theorem cE_attr {o:Expr}{name:Str}(hbase:∀ env,attributeBase o name env (eval o env)=eval o env)(h:cE C d sc ε μ o fun ow μ₁=>cAttr C d μ₁ ow name k):cE C d sc ε μ (.Attribute o name pos) k:=fun A env F Z s hA hs R S=>by
 have e:eval (.Attribute o name pos) env=(do
  let o' ← attributeBase o name env (eval o env)
  standAt pos.atName
  let r ← holding [o'] (getAttr o' name true)
  letTemporaryGo o o' r
  pure r):=rfl
 rw [e,hbase];refine wpAny_bind (wpBot (h A env F Z s hA hs R S) fun ov s₁ ⟨ow,F₁,μ₁,h₁,le₁,S₁,hv⟩=>wpAny_bind (wpAny_standAt ?_));refine wpAny_bind (wpAny_holding (wpBot (h₁ A F₁ Z s₁ ov true hA S₁ hv) fun r s₂ p=>?_));exact wpAny_bind (wpAny_letTemporaryGo (wpAny_pure (p.trans le₁)))
inductive BindAt (P:Params) (F:PMap):List (Str×W)->List (Str×Value)->Prop
 | nil:BindAt P F [] []
 | cons {n:Str}{x:W}{v:Value}{xs:List (Str×W)}{vs:List (Str×Value)}:WAt P F x v->BindAt P F xs vs->BindAt P F ((n,x)::xs) ((n,v)::vs)
theorem BindAt.names {bs:List (Str×W)}{vs:List (Str×Value)}(h:BindAt P F bs vs):vs.map (·.1)=bs.map (·.1):=by
 induction h with
 | nil=>rfl
 | cons _ _ ih=>simp [ih]
theorem BindAt.find {bs:List (Str×W)}{vs:List (Str×Value)}(h:BindAt P F bs vs){w:W}(e:bs.lookup x=some w):∃ v,(x,v)∈vs∧WAt P F w v:=by
 induction h with
 | nil=>cases e
 | @cons n y v xs vs' a _ ih =>
  by_cases q:x=n
  ·subst q;rw [lookup_cons_self] at e;cases e;exact ⟨v,.head _,a⟩
  ·rw [lookup_cons_ne q] at e;refine el12 (ih e) fun v' h1 h2=>?_;exact ⟨v',.tail _ h1,h2⟩
theorem bindL_keep {kindOf:Str->Option NameKind}:∀ (bs:List (Str×Value)) (m:Str->Option Value),x∉bs.map (·.1)->bindL kindOf bs m x=m x
 | [],_,_=>rfl
 | (n,v)::r,m,h=>by
  have hn:x≠n:=fun q=>h (by simp [q]);have hr:x∉r.map (·.1):=fun q=>h (by simp only [List.map_cons];exact .tail _ q);unfold bindL;rw [bindL_keep r _ hr];split
  ·exact if_neg hn
  ·rfl
theorem bindC_keep {kindOf:Str->Option NameKind}:∀ (bs:List (Str×Value)) (m:Str->Option Value),x∉bs.map (·.1)->bindC kindOf bs m x=m x
 | [],_,_=>rfl
 | (n,v)::r,m,h=>by
  have hn:x≠n:=fun q=>h (by simp [q]);have hr:x∉r.map (·.1):=fun q=>h (by simp only [List.map_cons];exact .tail _ q);unfold bindC;rw [bindC_keep r _ hr];split
  ·rfl
  ·exact if_neg hn
theorem bindL_at {kindOf:Str->Option NameKind}{v:Value}(hk:kindOf x=some .local):∀ (bs:List (Str×Value)) (m:Str->Option Value),(bs.map (·.1)).Nodup->(x,v)∈bs->bindL kindOf bs m x=some v
 | (n,u)::r,m,hn,h=>by
  simp only [List.map_cons,List.nodup_cons] at hn;unfold bindL
  cases h with
  | head =>
   rw [bindL_keep r _ hn.1,if_pos hk];exact if_pos rfl
  | tail _ h=>exact bindL_at hk r _ hn.2 h
theorem bindC_at {kindOf:Str->Option NameKind}{v:Value}(hk:kindOf x=some .cell):∀ (bs:List (Str×Value)) (m:Str->Option Value),(bs.map (·.1)).Nodup->(x,v)∈bs->bindC kindOf bs m x=some v
 | (n,u)::r,m,hn,h=>by
  simp only [List.map_cons,List.nodup_cons] at hn;unfold bindC
  cases h with
  | head =>
   rw [bindC_keep r _ hn.1,if_neg (by rw [hk];decide)];exact if_pos rfl
  | tail _ h=>exact bindC_at hk r _ hn.2 h
theorem Sim.dropZ {S:PMap}(h:Sim C F (PUn Z S) μ s):Sim C F Z μ s :=
 ⟨h.base,h.fz,fun a o e=>h.zz a o (by unfold PUn;rw [e];rfl),fun a o e=>h.dis a o (by unfold PUn;rw [e];rfl),fun a x hm=>let ⟨h1,h2,h3⟩:=h.own a x hm;⟨h1,(by
  unfold PUn at h2
  cases e:Z a with
  | none=>rfl
  | some o=>rw [e] at h2;cases h2),h3⟩,h.nod,h.os,h.gens⟩
theorem SimS.enter {binds:List (Str×Value)}{bs:List (Str×W)}(S:Sim C F Z μ s)(hb:BindAt C.P F bs binds)(hn:(bs.map (·.1)).Nodup)(hk:env.scope.kind=.function)(hg:env.globals=mainGlobals)(hbl:env.builtins=builtinsNs∧CodeOk C env)(hfree:∀ y∈env.scope.names,y.2≠.free)(hcells:env.cells=cellsFrom (env.locals+1) env.scope.names [])(x:InCallC s env.locals (bindL env.kindOf binds fun _=>none) env.cells (bindC env.kindOf binds fun _=>none) s'):SimS C F Z μ s' env bs:=by
 (refine el22 (x.done) fun h' tk qq2 keep=>?_;subst qq2)
 have fresh:∀ {b:Addr}{ob:Obj},s.heap.get? b=some ob->b<env.locals:=fun e=>Nat.lt_of_lt_of_le (Heap.lt_size e) x.toInCall.fresh;have fF:∀ {b:Addr}{ob:Obj},F b=some ob->b<env.locals:=fun e=>fresh (S.fz _ _ e);have fZ:∀ {b:Addr}{ob:Obj},Z b=some ob->b<env.locals:=fun e=>fresh (S.zz _ _ e)
 have above:∀ a,a∈env.cells.map (·.2)->env.locals<a:=fun a ha=>by
  (refine el12 (List.mem_map.mp ha) fun qq0 hm qq2=>?_;rcases qq0 with ⟨n,c⟩;subst qq2)
  exact x.above n c hm
 have nd:(binds.map (·.1)).Nodup:=hb.names▸hn
 let S₀:PMap:=fun a=>if a=env.locals∨a∈env.cells.map (·.2) then h'.get? a else none
 have sLoc:S₀ env.locals=h'.get? env.locals:=if_pos (.inl rfl);have sCell:∀ c,c∈env.cells.map (·.2)->S₀ c=h'.get? c:=fun c hc=>if_pos (.inr hc)
 have sNew:∀ a o,S₀ a=some o->env.locals≤a:=fun a o e=>by
  by_cases q:a=env.locals∨a∈env.cells.map (·.2)
  ·rcases q with q | q
   ·exact Nat.le_of_eq q.symm
   ·exact Nat.le_of_lt (above a q)
  ·change (if a=env.locals∨a∈env.cells.map (·.2) then h'.get? a else none)=some o at e;rw [if_neg q] at e;cases e
 have zNone:∀ a,env.locals≤a->Z a=none:=fun a ha=>by
  cases e:Z a with
  | none=>rfl
  | some o=>exact absurd (fZ e) (Nat.not_lt.mpr ha)
 have un:∀ a o,PUn Z S₀ a=some o->Z a=some o∨S₀ a=some o:=fun a o e=>by
  unfold PUn at e
  cases q:Z a with
  | none=>rw [q] at e;exact .inr e
  | some o'=>rw [q] at e;exact .inl e
 have unS:∀ a,env.locals≤a->PUn Z S₀ a=S₀ a:=fun a ha=>by unfold PUn;rw [zNone a ha];rfl
 refine ⟨S₀,⟨S.base,fun a o e=>keep a o (S.fz a o e),fun a o e=>?_,fun a o e=>?_,fun a y hm=>?_,S.nod,S.os,S.gens⟩,⟨hk,hg,hbl,?_,fun y ky=>?_⟩,⟨fun a o e=>zNone a (sNew a o e),?_,fun y c hc=>?_,fun y z c h1 h2=>?_⟩⟩
 ·rcases un a o e with e | e
  ·exact keep a o (S.zz a o e)
  ·by_cases q:a=env.locals∨a∈env.cells.map (·.2)
   ·change (if a=env.locals∨a∈env.cells.map (·.2) then h'.get? a else none)=some o at e;rw [if_pos q] at e;exact e
   ·change (if a=env.locals∨a∈env.cells.map (·.2) then h'.get? a else none)=some o at e;rw [if_neg q] at e;cases e
 ·rcases un a o e with e | e
  ·exact S.dis a o e
  ·cases q:F a with
   | none=>rfl
   | some o'=>exact absurd (fF q) (Nat.not_lt.mpr (sNew a o e))
 ·obtain ⟨h1,h2,ob,h3,h4⟩:=S.own a y hm;refine ⟨h1,?_,ob,keep a ob h3,h4⟩;unfold PUn;rw [h2];show S₀ a=none
  cases q:S₀ a with
  | none=>rfl
  | some o'=>exact absurd (fresh h3) (Nat.not_lt.mpr (sNew a o' q))
 ·refine el34 (x.toInCall.ns) fun o es n ho hd hsk hf=>?_;refine ⟨o,es,n,by rw [unS _ (Nat.le_refl _),sLoc];exact ho,hd,hsk,fun y w e ky=>?_⟩;refine el12 (hb.find e) fun v hv hw=>?_;exact ⟨v,by rw [hf];exact bindL_at ky binds _ nd hv,hw⟩
 ·rcases ky with ky | ky
  ·have hc:(env.cells.lookup y).isSome=true:=by rw [hcells];exact PySem.W.cellsFrom_some _ _ _ (.inl ky)
   obtain ⟨c,hc⟩:=Option.isSome_iff_exists.mp hc;have hm:c∈env.cells.map (·.2):=List.mem_map_of_mem (f:=(·.2)) (mem_of_lookup hc);refine el12 (x.cell y c hc) fun o ho hd=>?_;refine ⟨c,o,_,hc,by rw [unS _ (Nat.le_of_lt (above c hm)),sCell c hm];exact ho,hd,fun w e=>?_⟩;refine el12 (hb.find e) fun v hv hw=>?_;exact ⟨v,bindC_at ky binds _ nd hv,hw⟩
  ·exact absurd rfl (hfree _ (mem_of_lookup ky))
 ·refine el32 (x.toInCall.ns) fun o es n ho _=>?_;exact ⟨o,by rw [sLoc];exact ho⟩
 ·have hm:c∈env.cells.map (·.2):=List.mem_map_of_mem (f:=(·.2)) (mem_of_lookup hc);refine el12 (x.cell y c hc) fun o ho hd=>?_;exact ⟨⟨o,by rw [sCell c hm];exact ho⟩,Nat.ne_of_gt (above c hm)⟩
 ·exact name_of_addr x.apart (mem_of_lookup h1) (mem_of_lookup h2)
theorem cCall_def {f:Addr}{name qual:Str}{params:Arguments}{body:List Stmt}{scope:Scope}{dV kV doc pm cdv ct oc:Value}{an od:Option Addr}{osl:Array (Option Value)}{bs:List (Str×W)}(ho:C.K.lookup f=some ⟨oc,od,.func (PySem.W.fnOf name qual params body scope dV kV doc pm an cdv ct),osl⟩)(hcd:codeT C.K cdv qual=true)(hbind:∀ F s vs kvs,C.K.In s.heap->WsAt C.P F xs vs->KwAt C.P F kws kvs->∃ binds,BindsTo s (PySem.W.fnOf name qual params body scope dV kV doc pm an cdv ct) ⟨vs,kvs⟩ binds∧BindAt C.P F bs binds)(hkind:(bs.all fun y=>scope.names.lookup y.1 == some .local||scope.names.lookup y.1 == some .cell)=true)(hn:(bs.map (·.1)).Nodup)(hfree:∀ y∈scope.names,y.2≠.free)(hco:scope.isCoroutine=false)(hgen:scope.isGenerator=false)(hk:scope.kind=.function)(h:cS C d scope bs μ body fun fl _ μ'=>match fl with | .ret w=>k w μ' | _=>k (.v .none) μ') :
  cCall C (d+1) μ (.ref f) xs kws k:=fun A F Z s vs kvs hA S hv hkv=>by
 refine el12 (hbind F s vs kvs S.kin hv hkv) fun binds hbt hba=>?_
 have hall:(binds.all fun y=>scope.names.lookup y.1 == some .local||scope.names.lookup y.1 == some .cell)=true:=by
  refine List.all_eq_true.mpr fun y hy=>?_;have:y.1∈bs.map (·.1):=hba.names▸List.mem_map_of_mem (f:=(·.1)) hy;refine el12 (List.mem_map.mp this) fun z hz e=>?_;have:=List.all_eq_true.mp hkind z hz;rw [e] at this;exact this
 refine wpAny_call (codeAny_call_function (fd:=PySem.W.fnOf name qual params body scope dV kV doc pm an cdv ct) (body:=body) hA.lim (S.kin _ _ ho) rfl hco hgen rfl (PySem.W.codeRec_of S.kin (codeT_in hcd)) (hbt _ _ _ _ ?_));refine wpAny_newFunctionEnv_cells hk (PySem.W.kindsX hall _) fun env he s' x=>?_;have keep:=x.toInCall.keep;refine ⟨S.lim.keeps keep,codeAny_func ?_⟩
 have hs:env.scope=scope:=by subst he;rfl
 have SS:SimS C F Z μ s' env bs:=by
  refine SimS.enter S hba hn (by rw [hs];exact hk) (by subst he;rfl) ⟨by subst he;rfl,by subst he;exact CodeOk.of (q:=qual) hcd⟩ (by rw [hs];exact hfree) (by subst he;rfl) x
 have hA':Rm (A.deeper env) d:=hA.step hA.hd (Nat.le_succ _) (Nat.add_le_add_left (by decide) _);refine wpBot (h (A.deeper env) env F Z s' hA' hs SS) fun fl s₂ hq=>?_;obtain ⟨fl',ε',μ',F',hk',hfl,le,S'⟩:=hq;refine el13 S' fun S₀ S' _ _=>?_
 cases fl' with
 | ret w=>(refine el12 hfl fun v qq1 hw=>?_;try clear hfl;subst qq1);exact ⟨w,F',μ',hk',le,S'.dropZ,hw⟩
 | next=>cases hfl;exact ⟨_,F',μ',hk',le,S'.dropZ,.none⟩
 | brk=>cases hfl;exact ⟨_,F',μ',hk',le,S'.dropZ,.none⟩
 | cont=>cases hfl;exact ⟨_,F',μ',hk',le,S'.dropZ,.none⟩
end
end
section
open PySem PySem.Calls
section
theorem v_add {a b:Int}(h:k (.v (.int (a+b))) μ):cV2 C d μ (.v (.int a)) (.v (.int b)) (binaryOp .Add) k:=fun A F Z s u v hA S hu hv=>by
 refine Val.i_int hu fun _=>?_;refine Val.i_int hv fun _=>?_;exact PyProof.Rows.add_int ⟨_,F,μ,h,.refl _,S.tok _,.int _ _⟩
theorem v_sub {a b:Int}(h:k (.v (.int (a-b))) μ):cV2 C d μ (.v (.int a)) (.v (.int b)) (binaryOp .Sub) k:=fun A F Z s u v hA S hu hv=>by
 refine Val.i_int hu fun _=>?_;refine Val.i_int hv fun _=>?_;exact PyProof.Rows.sub_int ⟨_,F,μ,h,.refl _,S.tok _,.int _ _⟩
theorem v_mul {a b:Int}(hm:IntMulOk a b)(h:k (.v (.int (a*b))) μ):cV2 C d μ (.v (.int a)) (.v (.int b)) (binaryOp .Mult) k:=fun A F Z s u v hA S hu hv=>by
 refine Val.i_int hu fun _=>?_;refine Val.i_int hv fun _=>?_;exact PyProof.Rows.mul_int ⟨_,F,μ,h,.refl _,S.tok _,.int _ _⟩ hm
theorem v_mod {a b:Int}(hb:b≠0)(h:k (.v (.int (a.fmod b))) μ):cV2 C d μ (.v (.int a)) (.v (.int b)) (binaryOp .Mod) k:=fun A F Z s u v hA S hu hv=>by
 refine Val.i_int hu fun _=>?_;refine Val.i_int hv fun _=>?_;exact PyProof.Rows.mod_int' hb ⟨_,F,μ,h,.refl _,S.tok _,.int _ _⟩
theorem v_div {a b:Int}(hb:b≠0)(hd:b.natAbs<1073741824)(h:k (.v (.int (a.fdiv b))) μ):cV2 C d μ (.v (.int a)) (.v (.int b)) (binaryOp .FloorDiv) k:=fun A F Z s u v hA S hu hv=>by
 refine Val.i_int hu fun _=>?_;refine Val.i_int hv fun _=>?_;exact PyProof.Rows.floordiv_int hb ⟨_,F,μ,h,.refl _,S.tok _,.int _ _⟩ (.inl (PyProof.noPylong_small hd))
theorem v_gt {a b:Int}(h:k (.v (.bool (decide (b<a)))) μ):cV2 C d μ (.v (.int a)) (.v (.int b)) (compareOp .Gt) k:=fun A F Z s u v hA S hu hv=>by
 refine Val.i_int hu fun _=>?_;refine Val.i_int hv fun _=>?_;exact PyProof.Rows.gt_int ⟨_,F,μ,h,.refl _,S,.bool _⟩
theorem v_le {a b:Int}(h:k (.v (.bool (decide (a≤b)))) μ):cV2 C d μ (.v (.int a)) (.v (.int b)) (compareOp .LtE) k:=fun A F Z s u v hA S hu hv=>by
 refine Val.i_int hu fun _=>?_;refine Val.i_int hv fun _=>?_;exact PyProof.Rows.le_int ⟨_,F,μ,h,.refl _,S,.bool _⟩
theorem v_eqi {a b:Int}(h:k (.v (.bool (a == b))) μ):cV2 C d μ (.v (.int a)) (.v (.int b)) (compareOp .Eq) k:=fun A F Z s u v hA S hu hv=>by
 refine Val.i_int hu fun _=>?_;refine Val.i_int hv fun _=>?_;exact PyProof.Rows.eq_int ⟨_,F,μ,h,.refl _,S,.bool _⟩
theorem v_nei {a b:Int}(h:k (.v (.bool (a != b))) μ):cV2 C d μ (.v (.int a)) (.v (.int b)) (compareOp .NotEq) k:=fun A F Z s u v hA S hu hv=>by
 refine Val.i_int hu fun _=>?_;refine Val.i_int hv fun _=>?_;exact PyProof.Rows.ne_int ⟨_,F,μ,h,.refl _,S,.bool _⟩
theorem v_eqs {a b:Str}(h:k (.v (.bool (a == b))) μ):cV2 C d μ (.v (.str a)) (.v (.str b)) (compareOp .Eq) k:=fun A F Z s u v hA S hu hv=>by
 refine Val.i_str hu fun _=>?_;refine Val.i_str hv fun _=>?_;exact PyProof.Rows.eq_str ⟨_,F,μ,h,.refl _,S,.bool _⟩
theorem v_isb {a b:Bool}(h:k (.v (.bool (a == b))) μ):cV2 C d μ (.v (.bool a)) (.v (.bool b)) (compareOp .Is) k:=fun A F Z s u v hA S hu hv=>by
 refine Val.i_bool hu ?_;refine Val.i_bool hv ?_;exact PyProof.Rows.is_bool ⟨_,F,μ,h,.refl _,S,.bool _⟩
theorem Vals.toList {ds:List V}(h:Vals P F ds vs):vs.length=ds.length:=by
 induction ds generalizing vs with
 | nil=>refine Vals.i_nil h ?_;rfl
 | cons x r ih=>cases h with | cons a b=>simp [ih b]
theorem Vals.get {ds:List V}:∀ {vs:List Value}{i:Nat}{x:V},Vals P F ds vs->ds[i]? = some x->∃ v,vs[i]? = some v∧Val P F x v:=by
 induction ds with
 | nil=>intro vs i x _ e;cases e
 | cons d r ih =>
  intro vs i x q e;refine q.i_cons fun w ws a b=>?_
  cases i with
  | zero=>cases e;exact ⟨_,rfl,a⟩
  | succ i=>exact ih (vs:=ws) (i:=i) b e
theorem WsAt.get {ds:List W}:∀ {vs:List Value}{i:Nat}{x:W},WsAt P F ds vs->ds[i]? = some x->∃ v,vs[i]? = some v∧WAt P F x v:=by
 induction ds with
 | nil=>intro vs i x _ e;cases e
 | cons d r ih =>
  intro vs i x q e;refine q.i_cons fun w ws a b=>?_
  cases i with
  | zero=>cases e;exact ⟨_,rfl,a⟩
  | succ i=>exact ih (vs:=ws) (i:=i) b e
theorem Sim.isL (S:Sim C F Z μ s){ws:Array Value}(h1:F a=some { cls:=.type "list",data:=.seq ws n }):IsL s.heap a ws n:=S.fz _ _ h1
theorem Sim.isT (S:Sim C F Z μ s){ws:Array Value}(h1:F a=some { cls:=.type "tuple",data:=.seq ws n }):IsT s.heap a ws n:=S.fz _ _ h1
theorem Sim.isLm (S:Sim C F Z μ s)(h:(a,O.list xs)∈μ):∃ ws n,IsL s.heap a ws n∧WsAt C.P F xs ws.toList:=by
 obtain ⟨_,_,ob,h3,ws,n,rfl,h4⟩:=S.own a _ h;exact ⟨ws,n,h3,h4⟩
end
end
section
open PySem PySem.Calls
inductive UpdAt (a:Addr) (x x':O):Mem->Mem->Prop
 | here {r:Mem}:UpdAt a x x' ((a,x)::r) ((a,x')::r)
 | there {p:Addr×O}{r r':Mem}:UpdAt a x x' r r'->UpdAt a x x' (p::r) (p::r')
theorem UpdAt.mem {x x':O}(h:UpdAt a x x' μ μ'):(a,x)∈μ:=by
 induction h with
 | here=>exact .head _
 | there _ ih=>exact .tail _ ih
theorem UpdAt.names {x x':O}(h:UpdAt a x x' μ μ'):μ'.map (·.1)=μ.map (·.1):=by
 induction h with
 | here=>rfl
 | there _ ih=>simp [ih]
theorem UpdAt.of {x x':O}(h:UpdAt a x x' μ μ')(hn:(μ.map (·.1)).Nodup):∀ b y,(b,y)∈μ'->(b=a∧y=x')∨(b≠a∧(b,y)∈μ):=by
 induction h with
 | here =>
  intro b y hm;have hn:=List.nodup_cons.mp hn;exact (List.mem_cons.mp hm).elim (fun q=>by cases q;exact .inl ⟨rfl,rfl⟩) fun hm=>.inr ⟨fun q=>hn.1 (q▸List.mem_map_of_mem (f:=(·.1)) hm),.tail _ hm⟩
 | @there p r r' h ih =>
  intro b y hm;have hn:=List.nodup_cons.mp hn;exact (List.mem_cons.mp hm).elim (fun e=>.inr ⟨fun q=>hn.1 (show p.1∈_ from (q.symm.trans (congrArg (·.1) e):a=p.1)▸List.mem_map_of_mem (f:=(·.1)) h.mem),e▸.head _⟩) fun hm=>(ih hn.2 b y hm).elim .inl fun q=>.inr ⟨q.1,.tail _ q.2⟩
theorem UpdAt.exists {x:O}(x':O)(h:(a,x)∈μ):∃ μ',UpdAt a x x' μ μ':=by
 induction μ with
 | nil=>cases h
 | cons p r ih=>exact (List.mem_cons.mp h).elim (fun q=>q▸⟨_,.here⟩) fun q=>(ih q).elim fun m q=>⟨_,.there q⟩
section
theorem Sim.updM (S:Sim C F Z μ s){x x':O}(hU:UpdAt a x x' μ μ')(hs:Heap.SameBut a s.heap h')(ho:h'.get? a=some ob')(hx:OAt C.P F x' ob')(t:Nat) :
  Sim C F Z μ' { s with heap:=h',toks:=t }:=by
 refine el03 (S.own a x hU.mem) fun fa za _=>?_;refine ⟨S.base,fun b ob e=>(hs.2 b fun q=>?_).trans (S.fz b ob e),fun b ob e=>(hs.2 b fun q=>?_).trans (S.zz b ob e),S.dis,fun b y hm=>?_,hU.names▸S.nod,S.os,S.gens⟩
 ·rw [q,fa] at e;cases e
 ·rw [q,za] at e;cases e
 ·rcases hU.of S.nod.1 b y hm with ⟨rfl,rfl⟩ | ⟨q,hm⟩
  ·exact ⟨fa,za,ob',ho,hx⟩
  ·obtain ⟨h1,h2,ob,h3,h4⟩:=S.own b y hm;exact ⟨h1,h2,ob,(hs.2 b q).trans h3,h4⟩
theorem WsAt.append {ys:List W}{us:List Value}(h:WsAt P F xs us)(g:WsAt P F ys vs):WsAt P F (xs++ys) (us++vs):=by
 induction h with
 | nil=>exact g
 | cons a _ ih=>exact .cons a ih
theorem WsAt.inv2 {x y:W}(h:WsAt P F [x,y] vs):∃ u v,vs=[u,v]∧WAt P F x u∧WAt P F y v:=by
 cases h with | cons a h=>cases h with | cons b h=>refine WsAt.i_nil h ?_;exact ⟨_,_,rfl,a,b⟩
theorem v_append {w:W}(hU:UpdAt a (.list ws) (.list (ws++[w])) μ μ')(hz:ws.length≤100000)(h:k (.v .none) μ'):cCall C d μ (.builtin "list.append") [.l a,w] [] k:=fun A F Z s vs kvs hA S hv hkv=>by
 refine KwAt.i_nil hkv ?_;refine WsAt.i2 hv fun u v hu hw=>?_;refine WAt.i_l hu ?_;refine el22 (S.isLm hU.mem) fun its n hl hws=>?_
 have hlen:its.size=ws.length:=by rw [<-Array.length_toList,hws.length]
 refine wpAny_list_append_plain ⟨n,hl⟩ (fun h' hp hs=>?_) (by rw [hlen];show _≤2 ^ 24;lia);obtain ⟨n',ho⟩:=hp;exact ⟨.v .none,F,μ',h,.refl _,S.updM hU hs ho ⟨_,_,rfl,by rw [Array.toList_push];exact hws.append (.cons hw .nil)⟩ _,.none⟩
theorem v_pop {w:W}(hU:UpdAt a (.list (ws++[w])) (.list ws) μ μ')(hz:ws.length≤100000)(h:k w μ'):cCall C d μ (.builtin "list.pop") [.l a] [] k:=fun A F Z s vs kvs hA S hv hkv=>by
 refine KwAt.i_nil hkv ?_;refine WsAt.i1 hv fun u hu=>?_;refine WAt.i_l hu ?_;refine el22 (S.isLm hU.mem) fun its n hl hws=>?_
 have hlen:its.size=ws.length+1:=by rw [<-Array.length_toList,hws.length];simp
 obtain ⟨us,vs',e,h1,h2⟩:∃ us v,its.toList=us++[v]∧WsAt C.P F ws us∧WAt C.P F w v:=by
  have gen:∀ {xs:List W}{l:List Value},WsAt C.P F (xs++[w]) l->∃ us v,l=us++[v]∧WsAt C.P F xs us∧WAt C.P F w v:=by
   intro xs
   induction xs with
   | nil=>intro l hl;refine WsAt.i1 hl fun u hu=>?_;exact ⟨[],u,rfl,.nil,hu⟩
   | cons x r ih=>intro l hl;cases hl with | cons p q=>(refine el23 (ih q) fun us v qq2 b c=>?_;subst qq2);exact ⟨_::us,v,rfl,.cons p b,c⟩
  exact gen hws
 have hul:us.length=ws.length:=h1.length
 have hy:its[its.size-1]? = some vs':=by
  rw [hlen,<-Array.getElem?_toList,e];simp [<-hul]
 refine call_meets PySem.F.slot_list_pop ⟨_,hl,rfl⟩ PySem.F.entry_list_pop (PySem.F.args_list_pop_1 _) (MeetsSeq.list_pop_last a its n vs' hy (by rw [hlen];show _≤2 ^ 24;lia)) ⟨hl,?_⟩
 have ee:its.eraseIdxIfInBounds (its.size-1)=us.toArray:=by
  apply Array.ext';rw [Array.toList_eraseIdxIfInBounds,e,hlen,<-hul];simp [List.eraseIdx_append_of_length_le]
 refine ⟨w,F,μ',h,.refl _,S.updM hU (Heap.SameBut.update _ _ _) (IsL.update hl _) ⟨_,_,rfl,?_⟩ s.toks,h2⟩;rw [ee];exact h1
theorem v_pop0 {w:W}(hU:UpdAt a (.list (w::ws)) (.list ws) μ μ')(hz:ws.length≤100000)(h:k w μ'):cCall C d μ (.builtin "list.pop") [.l a,.v (.int 0)] [] k:=fun A F Z s vs kvs hA S hv hkv=>by
 refine KwAt.i_nil hkv ?_;refine WsAt.i2 hv fun u v hu hj=>?_;refine Val.i_int hj fun _=>?_;refine WAt.i_l hu ?_;refine el22 (S.isLm hU.mem) fun its n hl hws=>?_
 have hlen:its.size=ws.length+1:=by rw [<-Array.length_toList,hws.length];simp
 obtain ⟨v,us,e,h1,h2⟩:∃ v us,its.toList=v::us∧WsAt C.P F ws us∧WAt C.P F w v:=by
  cases hq:its.toList with
  | nil=>rw [hq] at hws;cases hws
  | cons v us=>rw [hq] at hws;cases hws with | cons p q=>exact ⟨v,us,rfl,q,p⟩
 have hy:its[0]? = some v:=by rw [<-Array.getElem?_toList,e];rfl
 refine call_meets PySem.F.slot_list_pop ⟨_,hl,rfl⟩ PySem.F.entry_list_pop (PySem.F.args_list_pop_2 _ _) (MeetsSeq.list_pop_at a its n 0 _ 0 v (by decide) (by rw [hlen];exact seqIndex_of (by decide) (by lia)) hy (by rw [hlen];show _≤2 ^ 24;lia)) ⟨hl,?_⟩
 have ee:its.eraseIdxIfInBounds 0=us.toArray:=by
  apply Array.ext';rw [Array.toList_eraseIdxIfInBounds,e];rfl
 refine ⟨w,F,μ',h,.refl _,S.updM hU (Heap.SameBut.update _ _ _) (IsL.update hl _) ⟨_,_,rfl,?_⟩ s.toks,h2⟩;rw [ee];exact h1
theorem m_list {name:Str}{id:String}{kk:Value->List W->Mem->Prop}(hm:(a,O.list ws)∈μ)(slot:Slot "list" name id)(hty:typeOf (.builtin id)=pure (.type "method_descriptor"))(h:kk (.builtin id) [.l a] μ) :
  cMeth C d μ (.l a) name kk:=fun A F Z s v pl hA S hv=>by
 refine WAt.i_l hv ?_;refine el22 (S.isLm hm) fun its n hl hws=>?_;exact getMethod_builtin ⟨_,hl,rfl⟩ PySem.F.plainAttrs_list slot hty (fun b e=>by cases e;exact ⟨_,hl,rfl⟩) ⟨[.l a],F,μ,h,.refl _,S,.cons rfl .nil⟩
theorem t_listM (hm:(a,O.list ws)∈μ)(hz:ws.length≤100000)(h:kb (!ws.isEmpty) μ):cB1 C d μ (.l a) truthy kb:=fun A F Z s v hA S hv=>by
 refine WAt.i_l hv ?_;refine el22 (S.isLm hm) fun its n hl hws=>?_
 have e:its.size=ws.length:=by rw [<-Array.length_toList,hws.length]
 refine wpAny_truthy_list (IsL.isList hl) (by rw [e];lia) ⟨F,μ,?_,.refl _,S.tok _⟩
 have:its.isEmpty=ws.isEmpty:=by
  unfold Array.isEmpty
  cases ws<;>simp [e]
 rw [this];exact h
theorem v_item_list {vs:List V}{i:Int}{x:V}(h0:0≤i)(hi:i<100000)(hx:vs[i.toNat]? = some x)(h:k (.v x) μ):cV2 C d μ (.v (.list vs)) (.v (.int i)) getItem k:=fun A F Z s u v hA S hu hv=>by
 refine Val.i_int hv fun _=>?_;refine Val.i_list hu fun _ _ _ h1 h4=>?_;refine el12 (h4.get hx) fun y hy hw=>?_;exact wpAny_getItem_list (S.isL h1).isList h0 (by lia) (by rw [<-Array.getElem?_toList];exact hy) ⟨.v x,F,μ,h,.refl _,S,hw⟩
theorem v_item_listM {i:Int}{x:W}(hm:(a,O.list ws)∈μ)(h0:0≤i)(hi:i<100000)(hx:ws[i.toNat]? = some x)(h:k x μ):cV2 C d μ (.l a) (.v (.int i)) getItem k:=fun A F Z s u v hA S hu hv=>by
 refine Val.i_int hv fun _=>?_;refine WAt.i_l hu ?_;refine el22 (S.isLm hm) fun its n hl hws=>?_;refine el12 (hws.get hx) fun y hy hw=>?_;exact wpAny_getItem_list (IsL.isList hl) h0 (by lia) (by rw [<-Array.getElem?_toList];exact hy) ⟨x,F,μ,h,.refl _,S,hw⟩
theorem v_item_tup {vs:List V}{i:Int}{x:V}(h0:0≤i)(hi:i<100000)(hx:vs[i.toNat]? = some x)(h:k (.v x) μ):cV2 C d μ (.v (.tup vs)) (.v (.int i)) getItem k:=fun A F Z s u v hA S hu hv=>by
 refine Val.i_int hv fun _=>?_;refine Val.i_tup hu fun a ws n h1 h4=>?_;refine el12 (h4.get hx) fun y hy hw=>?_
 have e:ws.size=vs.length:=by rw [<-Array.length_toList,h4.toList]
 have hlt:i.toNat<vs.length:=(List.getElem?_eq_some_iff.mp hx).1;exact P.getItem_tuple (S.isT h1) (by lia) (by lia) (by rw [e];exact seqIndex_of h0 (by lia)) (by rw [<-Array.getElem?_toList];exact hy) ⟨.v x,F,μ,h,.refl _,S,hw⟩
theorem v_item_str {i:Int}{c:Nat}(h0:0≤i)(hi:i<100000)(hx:x.cps[i.toNat]? = some c)(h:k (.v (.str ⟨#[c]⟩)) μ):cV2 C d μ (.v (.str x)) (.v (.int i)) getItem k:=fun A F Z s u v hA S hu hv=>by
 refine Val.i_str hu fun _=>?_;refine Val.i_int hv fun _=>?_;have hlt:i.toNat<x.cps.size:=(Array.getElem?_eq_some_iff.mp hx).1;refine P.getItem_str (by simp;lia) ?_ ⟨_,F,μ,h,.refl _,S.tok _,.str _ _⟩;have:seqIndex? i x.length=some i.toNat:=seqIndex_of h0 (by show i<(x.cps.size:Int);lia);rw [this];exact hx
noncomputable def SubOk (C:Cx)(μ:Mem)(w:W):Prop:=∃ T id,typeLookup (.type T) "__getitem__" = pure (some (.builtin id))∧∀ F Z s v,Sim C F Z μ s->WAt C.P F w v->s.TypeIs v T∧∀ id,v≠.builtin id
theorem sub_list {vs:List V}:SubOk C μ (.v (.list vs)):=⟨"list",_,list_getitem_lookup,fun F Z s v S hv=>by cases hv with | list h1 h4=>exact ⟨⟨_,S.fz _ _ h1,rfl⟩,fun _ e=>by cases e⟩⟩
theorem sub_listM (hm:(a,O.list ws)∈μ):SubOk C μ (.l a):=⟨"list",_,list_getitem_lookup,fun F Z s v S hv=>by refine WAt.i_l hv ?_;refine el22 (S.isLm hm) fun its n hl _=>?_;exact ⟨⟨_,hl,rfl⟩,fun _ e=>by cases e⟩⟩
theorem sub_tup {vs:List V}:SubOk C μ (.v (.tup vs)):=⟨"tuple",_,PySem.F.slot_tuple_getitem.lookup,fun F Z s v S hv=>by cases hv with | tup h1 h4=>exact ⟨⟨_,S.fz _ _ h1,rfl⟩,fun _ e=>by cases e⟩⟩
theorem sub_str:SubOk C μ (.v (.str x)):=⟨"str",_,PySem.F.slot_str_getitem.lookup,fun F Z s v S hv=>by refine Val.i_str hv fun _=>?_;exact ⟨typeIs_str s x _,fun _ e=>by cases e⟩⟩
theorem getitemInPython_no {w:W}{v:Value}(S:Sim C F Z μ s)(hw:WAt C.P F w v)(ok:SubOk C μ w)(h:Q false s):wpAny C.M A (getitemInPython v) Q (fun _ _=>False) s:=by
 (refine el22 ok fun T id hl hT=>?_;try clear ok)
 obtain ⟨ht,hb⟩:=hT F Z s v S hw;have hne:v≠.builtin "sys.modules#opaque" := hb _;rw [getitemInPython_of_ne hne];refine wpAny_bind (wpAny_specialOf ht hl ?_);exact wpAny_pure h
theorem cE_sub {value slice:Expr}(hsl:∀ o i,subscripted slice false o i=operate [o,i] (getItem o i))(h:cE C d sc ε μ value fun ow μ₁=>cE C d sc ε μ₁ slice fun iw μ₂=>SubOk C μ₂ ow∧cV2 C d μ₂ ow iw getItem k):cE C d sc ε μ (.Subscript value slice pos) k:=fun A env F Z s hA hs R S=>by
 rw [eval_Subscript];refine wpAny_bind (wpBot (h A env F Z s hA hs R S) fun o s₁ hq=>?_);obtain ⟨ow,F₁,μ₁,h₁,le₁,S₁,ho⟩:=hq;refine wpAny_bind (wpAny_holding (wpBot (h₁ A env F₁ Z s₁ hA hs (R.mono le₁) S₁) fun i s₂ hq=>?_));obtain ⟨iw,F₂,μ₂,⟨ok,h₂⟩,le₂,S₂,hi⟩:=hq;refine wpAny_bind (wpAny_standAt (wpAny_bind (getitemInPython_no S₂ (ho.mono le₂) ok ?_)));rw [hsl];refine wpAny_bind (wpAny_operating (wpBot (h₂ A F₂ Z s₂ o i hA S₂ (ho.mono le₂) hi) fun r s₃ p=>?_));exact wpAny_bind (wpAny_letTemporaryGo (wpAny_pure (p.trans (le₁.trans le₂))))
end
end
section
open PySem PySem.Calls
section
theorem FKeys.no {es:Array DictEntry}(h:FKeys es)(hx:x∉FN):nsFind es x=none:=by
 unfold nsFind findBy
 have:es.find? (fun e=>e.key.isStr x)=Option.none:=by
  rw [Array.find?_eq_none];intro e he;refine el22 (h e he) fun n t q hn=>?_;rw [q];intro hs;have:n=x:=beq_iff_eq.mp hs;exact hx (this▸hn)
 rw [this];rfl
theorem lookIn_of {es:Array DictEntry}(hd:o.data=.dict es n)(hk:FKeys es)(x:Str):PySem.W.lookIn x o=some (nsFind es x):=by
 unfold PySem.W.lookIn;rw [hd];unfold nsFind findBy
 have e:es.find? (fun e=>e.key.isStr x)=es.toList.find? (fun e=>e.key.isStr x):=by rw [Array.find?_toList]
 dsimp only;rw [e]
 cases es.toList.find? (fun e=>e.key.isStr x) with
 | some en=>rfl
 | none =>
  have:(es.toList.any fun x=>x.refKey)=false:=by
   rw [List.any_eq_false];intro en he;refine el22 (hk en (Array.mem_toList_iff.mp he)) fun m t q _=>?_;simp [DictEntry.refKey,q]
  simp only [this];rfl
theorem Sim.inst (S:Sim C F Z μ s){dd:Addr}(h1:F a=some { cls:=.ref c,dict:=some dd,data:=.plain })(h2:F dd=some o) :
  PySem.W.InstAt s.heap a { cls:=.ref c,dict:=some dd,data:=.plain } c (some o):=⟨S.fz _ _ h1,rfl,rfl,S.fz _ _ h2⟩
theorem Sim.instM (S:Sim C F Z μ s){dd:Addr}{fs:List (Str×W)}(h1:(a,O.inst c dd)∈μ)(h2:(dd,O.ns fs)∈μ) :
  ∃ o es n,PySem.W.InstAt s.heap a { cls:=.ref c,dict:=some dd,data:=.plain } c (some o)∧s.heap.get? dd=some o∧o.data=.dict es n∧FKeys es∧es.size≤fs.length∧∀ x w,fs.lookup x=some w->∃ v,nsFind es x=some v∧WAt C.P F w v:=by
 obtain ⟨_,_,ob,h3,rfl⟩:=S.own a _ h1;obtain ⟨_,_,o,h4,es,n,e1,e2,e3,e4⟩:=S.own dd _ h2;exact ⟨o,es,n,⟨h3,rfl,rfl,h4⟩,h4,e1,e2,e3,e4⟩
structure ClsOk (C:Cx)(c:Addr):Prop where
 ga:PySem.W.findIn C.K (.ref c) "__getattribute__" = some (some (.builtin "object.__getattribute__"))
 gt:PySem.W.findIn C.K (.ref c) "__getattr__" = some none
 sa:PySem.W.findIn C.K (.ref c) "__setattr__" = some (some (.builtin "object.__setattr__"))
 hd:PySem.W.hasDictIn C.K c=true
 po:PySem.W.plainOver C.K c=true
 mkk:PySem.W.makesIn C.K c=true
structure MethOk (C:Cx)(c:Addr)(name:Str)(f:Addr):Prop where
 fd:PySem.W.findIn C.K (.ref c) name=some (some (.ref f))
 ty:PySem.W.typeIn C.K (.ref f)=some (.type "function")
 kp:PySem.W.keepIn C.K (.ref f)=true
theorem m_inst {f:Addr}{fs:List (Str×V)}{name:Str}{kk:Value->List W->Mem->Prop}(ok:ClsOk C c)(mk:MethOk C c name f)(hn:name∉FN)(h:kk (.ref f) [.v (.inst c fs)] μ):cMeth C d μ (.v (.inst c fs)) name kk:=fun A F Z s v pl hA S hv=>by
 refine Val.i_inst hv fun _ _ _ _ _ h1 h2 h4 h5 h6=>?_;refine PySem.W.method_fn S.kin (S.inst h1 h2) ok.ga ok.gt mk.fd mk.ty ?_ ⟨[.v (.inst c fs)],F,μ,h,.refl _,S,.cons (.inst h1 h2 h4 h5 h6) .nil⟩;show (PySem.W.lookIn name _).map _=_;rw [lookIn_of h4 h5,h5.no hn];rfl
theorem m_instM {dd f:Addr}{fs:List (Str×W)}{name:Str}{kk:Value->List W->Mem->Prop}(ok:ClsOk C c)(mk:MethOk C c name f)(hn:name∉FN)(hm:(a,O.inst c dd)∈μ)(hm2:(dd,O.ns fs)∈μ)(h:kk (.ref f) [.l a] μ) :
  cMeth C d μ (.l a) name kk:=fun A F Z s v pl hA S hv=>by
 refine WAt.i_l hv ?_;refine el36 (S.instM hm hm2) fun o es n I hg hd hk hz hl=>?_;refine PySem.W.method_fn S.kin I ok.ga ok.gt mk.fd mk.ty ?_ ⟨[.l a],F,μ,h,.refl _,S,.cons rfl .nil⟩;show (PySem.W.lookIn name _).map _=_;rw [lookIn_of hd hk,hk.no hn];rfl
theorem findObj_val {name:Str}{v:Value}(ok:ClsOk C c)(hf:PySem.W.findIn C.K (.ref c) name=some none)(hl:PySem.W.lookIn name o=some (some v)):PySem.W.findObj C.K c (some o) name=some (.value v):=by
 have hh:=ok.hd;unfold PySem.W.hasDictIn at hh;unfold PySem.W.findObj
 cases hc:PySem.W.clsIn C.K c with
 | none=>rw [hc] at hh;cases hh
 | some cd =>
  rw [hc] at hh;have hcd:cd.hasDict=true:=hh;show (PySem.W.findIn C.K (.ref c) name).bind _=_;rw [hf];show (PySem.W.ownOf cd (some o) name).bind _=_;rw [show PySem.W.ownOf cd (some o) name=some (some v) by unfold PySem.W.ownOf;rw [if_pos hcd];exact hl];rfl
theorem Flds.find {es:Array DictEntry}{fs:List (Str×V)}(h:Flds P F es fs){w:V}(e:fs.lookup x=some w):∃ v,nsFind es x=some v∧Val P F w v:=by
 induction fs with
 | nil=>cases e
 | cons p r ih =>
  obtain ⟨n,y⟩:=p
  cases h with | cons a b c =>
  by_cases q:x=n
  ·subst q;simp [List.lookup] at e;subst e;exact ⟨_,a,b⟩
  ·have:(x == n)=false:=by simpa using q
   simp [List.lookup,this] at e;exact ih c e
theorem a_inst {fs:List (Str×V)}{name:Str}{x:V}(ok:ClsOk C c)(hf:PySem.W.findIn C.K (.ref c) name=some none)(hx:fs.lookup name=some x)(h:k (.v x) μ):cAttr C d μ (.v (.inst c fs)) name k:=fun A F Z s v b hA S hv=>by
 refine Val.i_inst hv fun _ _ _ _ _ h1 h2 h4 h5 h6=>?_;refine el12 (h6.find hx) fun u hu hw=>?_;exact PySem.W.get_value S.kin (S.inst h1 h2) ok.ga (findObj_val ok hf (by rw [lookIn_of h4 h5,hu])) hw.handed ⟨.v x,F,μ,h,.refl _,S.tok _,hw⟩
theorem a_instM {dd:Addr}{fs:List (Str×W)}{name:Str}{x:W}(ok:ClsOk C c)(hf:PySem.W.findIn C.K (.ref c) name=some none)(hm:(a,O.inst c dd)∈μ)(hm2:(dd,O.ns fs)∈μ)(hx:fs.lookup name=some x)(h:k x μ) :
  cAttr C d μ (.l a) name k:=fun A F Z s v b hA S hv=>by
 refine WAt.i_l hv ?_;refine el36 (S.instM hm hm2) fun o es n I hg hd hk hz hl=>?_;refine el12 (hl name x hx) fun u hu hw=>?_;exact PySem.W.get_value S.kin I ok.ga (findObj_val ok hf (by rw [lookIn_of hd hk,hu])) hw.handed ⟨x,F,μ,h,.refl _,S.tok _,hw⟩
noncomputable def cSetA (C:Cx)(d:Nat)(μ:Mem)(o:W)(name:Str)(w:W)(k:Mem->Prop):Prop :=
 ∀ (A:Around) (F Z:PMap) (s:Shared) (u v:Value),Rm A d->Sim C F Z μ s->WAt C.P F o u->WAt C.P F w v->wpAny C.M A (setAttr u name v) (fun _ s'=>PostU C Z k F s') (fun _ _=>False) s
theorem isStr_dec (name y:Str)(tk:Tok):Value.isStr (.str name tk) y=decide (y=name):=by
 show (name == y)=decide (y=name);by_cases q:y=name
 ·subst q;simp
 ·have:(name == y)=false:=by simpa using (Ne.symm q)
  simp [this,q]
theorem putName_at {name:Str}{h:Int}{tk:Tok}{v:Value}{es:Array DictEntry}(hd:o.data=.dict es n)(hk:FKeys es)(hn:name∈FN) :
  ∃ es' n',(Obj.putName name h (.str name tk) v o).data=.dict es' n'∧FKeys es'∧es'.size≤es.size+1∧(∀ x,nsFind es' x=if x=name then some v else nsFind es x)∧(Obj.putName name h (.str name tk) v o).isFreed=false:=by
 obtain ⟨c,dd,dt,sl⟩:=o;dsimp only at hd;subst hd;rw [Obj.putName_eq];unfold Obj.putNameByArray
 cases hi:es.findIdx? (fun e=>e.key.isStr name) with
 | some i =>
  simp only [hi];refine ⟨es.modify i fun e=>{ e with val:=v },n,rfl,?_,by rw [Array.size_modify];lia,fun x=>?_,rfl⟩
  ·intro e he;obtain ⟨j,hj,rfl⟩:=Array.mem_iff_getElem.mp he;rw [Array.size_modify] at hj;rw [Array.getElem_modify];split
   ·exact hk es[j] (Array.getElem_mem hj)
   ·exact hk es[j] (Array.getElem_mem hj)
  ·exact findBy_modify (fun n v=>Value.isStr v n) (fun v a b=>Value.isStr_inj v a b) es name x v i hi
 | none =>
  simp only [hi];refine ⟨es.push ⟨h,.str name tk,v⟩,n+1,rfl,?_,by rw [Array.size_push];lia,fun x=>?_,rfl⟩
  ·intro e he
   rcases Array.mem_push.mp he with he | rfl
   ·exact hk e he
   ·exact ⟨name,tk,rfl,hn⟩
  ·exact findBy_push (fun n v=>Value.isStr v n) es name x h _ v (fun y=>isStr_dec name y tk) hi
theorem sa_inst {dd:Addr}{fs:List (Str×W)}{name:Str}{w:W}{k:Mem->Prop}(ok:ClsOk C c)(ht:PySem.W.takerIn C.K c name=some none)(hn:name∈FN)(hm:(a,O.inst c dd)∈μ)(hU:UpdAt dd (.ns fs) (.ns ((name,w)::fs)) μ μ')(hz:fs.length≤1000)(h:k μ') :
  cSetA C d μ (.l a) name w k:=fun A F Z s u v hA S hu hv=>by
 refine WAt.i_l hu ?_;refine el36 (S.instM hm hU.mem) fun o es n I hg hd hk hsz hl=>?_;refine PySem.W.set_plain S.kin I ok.sa ?_;have hk2:C.K.In ({ s with toks:=s.toks+1 }:Shared).heap:=S.kin;have I2:PySem.W.InstAt ({ s with toks:=s.toks+1 }:Shared).heap a { cls:=.ref c,dict:=some dd,data:=.plain } c (some o):=I;refine PySem.W.osa_open (s:={ s with toks:=s.toks+1 }) S.kin I2 ok.po ht fun b=>?_;have hh:=ok.hd;unfold PySem.W.hasDictIn at hh;refine el12 (PySem.W.any_some hh) fun cd hc hd'=>?_;refine wpAny_bind (wpAny_pure (wpAny_bind (wpAny_bind (wpAny_loadPart I.at_ (wpAny_bind ((PySem.W.looks_clsIn hk2 hc).here ?_))))));rw [hd'];refine wpAny_pure (a:=some dd) (wpAny_bind (wpAny_pure (wpAny_bind ?_)));unfold nsSet;refine wpAny_bind (wpAny_bind (wpAny_askSetting (wpAny_pure (wpAny_bind (wpAny_mkText (wpAny_bind (wpAny_loadPart hg ?_)))))));rw [hd];dsimp only
 have cc:(!es.any (·.key.isStr name)&&es.any (·.refKey))=false:=by
  have:(es.any fun x=>x.refKey)=false:=by
   rw [Array.any_eq_false'];intro en he;refine el22 (hk en he) fun m t q _=>?_;simp [DictEntry.refKey,q]
  rw [this,Bool.and_false]
 rw [aRefKeyMayBeTheName_at,cc];refine el25 (putName_at (h:=PyData.keyHash C.w.params name) (tk:=s.toks+1) (v:=v) hd hk hn) fun es' n' e1 e2 e3 e4 e5=>?_;refine wpAny_updatePart hg ?_;have hg':=Heap.get?_update_self (Obj.putName name (PyData.keyHash C.w.params name) (.str name (s.toks+1)) v) hg e5;refine wpAny_bind (wpAny_lookBehind hg' (by rw [e1];exact pastItsLine_dict (by rw [sizeLine_eq];lia)) ?_);refine wpAny_pure ⟨F,μ',h,.refl _,S.updM hU (Heap.SameBut.update _ _ _) hg' ⟨es',n',e1,e2,by simp only [List.length_cons];lia,fun x w' e=>?_⟩ _⟩;rw [e4];by_cases q:x=name
 ·subst q;rw [lookup_cons_self] at e;cases e;exact ⟨v,if_pos rfl,hv⟩
 ·rw [lookup_cons_ne q] at e;rw [if_neg q];exact hl x w' e
end
end
section
open PySem PySem.Calls
section
theorem Sim.ext (S:Sim C F Z μ s)(hk:∀ b o,s.heap.get? b=some o->h'.get? b=some o)(t:Nat):Sim C F Z μ { s with heap:=h',toks:=t } :=
 ⟨S.base,fun a o e=>hk a o (S.fz a o e),fun a o e=>hk a o (S.zz a o e),S.dis,fun a x hm=>let ⟨h1,h2,ob,h3,h4⟩:=S.own a x hm;⟨h1,h2,ob,hk a ob h3,h4⟩,S.nod,S.os,S.gens⟩
structure Iter (C:Cx)(F:PMap)(it:Addr)(items:List V)(J:Nat->Obj->Prop):Prop where
 shape:∀ i o,J i o->∃ n vs,o.cls=.type n∧o.data=.fields vs∧(["enumerate", "zip", "dict_itemiterator", "dict_reverseitemiterator", "odict_iterator", "itertools.zip_longest", "itertools.pairwise"].contains n)=false
 item:∀ (i:Nat) (x:V) (A:Around) (s:Shared) (Q:Option Value->Shared->Prop) (E:Value->Shared->Prop) (o:Obj),A.handled=none->PIn F s.heap->s.heap.get? it=some o->J i o->items[i]? = some x->
  (∀ v h' o' tk,Val C.P F x v->Heap.SameBut it s.heap h'->h'.get? it=some o'->J (i+1) o'->Q (some v) { s with heap:=h',toks:=tk })->wpAny C.M A (pyNext (.ref it)) Q E s
 done:∀ (i:Nat) (A:Around) (s:Shared) (Q:Option Value->Shared->Prop) (E:Value->Shared->Prop) (o:Obj),A.handled=none->PIn F s.heap->s.heap.get? it=some o->J i o->items[i]? = none->
  (∀ h' tk,(∀ b o,b≠it->s.heap.get? b=some o->h'.get? b=some o)->Q none { s with heap:=h',toks:=tk })->wpAny C.M A (pyNext (.ref it)) Q E s
 self:∀ (i:Nat) (A:Around) (s:Shared) (Q:Value->Shared->Prop) (E:Value->Shared->Prop) (o:Obj),s.heap.get? it=some o->J i o->Q (.ref it) s->wpAny C.M A (pyIter (.ref it)) Q E s
inductive PostI (C:Cx) (Z:PMap) (μ:Mem) (P:List V->Prop) (F:PMap) (itv:Value) (s':Shared):Prop
 | mk (it:Addr) (items:List V) (J:Nat->Obj->Prop) (F':PMap) (o:Obj) (e:itv=.ref it) (hp:P items) (le:PLe F F') (S:Sim C F' (PSet Z it o) μ s') (hz:Z it=none) (hj:J 0 o) (hi:Iter C F' it items J):PostI C Z μ P F itv s'
noncomputable def cIter (C:Cx)(d:Nat)(μ:Mem)(x:W)(P:List V->Prop):Prop :=
 ∀ (A:Around) (F Z:PMap) (s:Shared) (v:Value),Rm A d->Sim C F Z μ s->WAt C.P F x v->
  wpAny C.M A (pyIter v) (PostI C Z μ P F) (fun _ _=>False) s
theorem it_list {vs:List V}:cIter C d μ (.v (.list vs)) (· = vs):=fun A F Z s v hA S hv=>by
 refine Val.i_list hv fun a ws n h1 h4=>?_;have hne:a≠s.heap.objs.size:=Nat.ne_of_lt (Heap.lt_size (S.fz _ _ h1));refine wpAny_pyIter_list (S.isL h1).isList ⟨s.heap.objs.size,vs,fun i o=>o.cls=.type "list_iterator" ∧ o.data=.fields #[.ref a,.int i 0],F,_,rfl,rfl,.refl _,S.pushZ rfl,(fresh_none S).2.1,⟨rfl,rfl⟩,?_⟩;refine ⟨fun i o h=>⟨_,_,h.1,h.2,by decide⟩,fun i x A s' Q E o hh hF ho hJ hx hQ=>?_,fun i A s' Q E o hh hF ho hJ hx hQ=>?_,fun i A s' Q E o ho hJ h=>wpAny_pyIter_listiter ⟨o,ho,hJ.1,hJ.2⟩ h⟩
 ·refine el12 (h4.get hx) fun y hy hw=>?_;refine wpAny_pyNext_list_item ⟨o,ho,hJ.1,hJ.2⟩ ⟨_,hF _ _ h1,rfl,n,rfl⟩ (by rw [<-Array.getElem?_toList];exact hy) fun h' hit hs=>?_
  (refine el13 hit fun o' ho' hc' hd'=>?_;try clear hit)
  exact hQ y h' o' s'.toks hw hs ho' ⟨hc',hd'⟩
 ·refine wpAny_pyNext_list_end hh ⟨o,ho,hJ.1,hJ.2⟩ ⟨_,hF _ _ h1,rfl,n,rfl⟩ ?_ fun h' hs=>hQ h' s'.toks hs
  have e:ws.size=vs.length:=by rw [<-Array.length_toList,h4.toList]
  rw [Array.getElem?_eq_none_iff,e];exact List.getElem?_eq_none_iff.mp hx
theorem it_tup {vs:List V}:cIter C d μ (.v (.tup vs)) (· = vs):=fun A F Z s v hA S hv=>by
 refine Val.i_tup hv fun a ws n h1 h4=>?_;have hne:a≠s.heap.objs.size:=Nat.ne_of_lt (Heap.lt_size (S.fz _ _ h1));refine wpAny_pyIter_tuple ⟨_,S.fz _ _ h1,rfl,n,rfl⟩ ⟨s.heap.objs.size,vs,fun i o=>o.cls=.type "tuple_iterator" ∧ o.data=.fields #[.ref a,.int i 0],F,_,rfl,rfl,.refl _,S.pushZ rfl,(fresh_none S).2.1,⟨rfl,rfl⟩,?_⟩;refine ⟨fun i o h=>⟨_,_,h.1,h.2,by decide⟩,fun i x A s' Q E o hh hF ho hJ hx hQ=>?_,fun i A s' Q E o hh hF ho hJ hx hQ=>?_,fun i A s' Q E o ho hJ h=>wpAny_pyIter_tupleiter ⟨o,ho,hJ.1,hJ.2⟩ h⟩
 ·refine el12 (h4.get hx) fun y hy hw=>?_;refine wpAny_pyNext_tuple_item ⟨o,ho,hJ.1,hJ.2⟩ ⟨_,hF _ _ h1,rfl,n,rfl⟩ (by rw [<-Array.getElem?_toList];exact hy) fun h' hit hs=>?_
  (refine el13 hit fun o' ho' hc' hd'=>?_;try clear hit)
  exact hQ y h' o' s'.toks hw hs ho' ⟨hc',hd'⟩
 ·refine wpAny_pyNext_tuple_end hh ⟨o,ho,hJ.1,hJ.2⟩ ⟨_,hF _ _ h1,rfl,n,rfl⟩ ?_ fun h' hs=>hQ h' s'.toks hs
  have e:ws.size=vs.length:=by rw [<-Array.length_toList,h4.toList]
  rw [Array.getElem?_eq_none_iff,e];exact List.getElem?_eq_none_iff.mp hx
noncomputable def cAsg (C:Cx)(d:Nat)(sc:Scope)(ε:Env1)(μ:Mem)(t:Expr)(w:W)(k:Env1->Mem->Prop):Prop :=
 ∀ (A:Around) (env:Env) (F Z:PMap) (s:Shared) (v:Value),Rm A d->env.scope=sc->SimS C F Z μ s env ε->WAt C.P F w v->
  wpAny C.M A (assign t env v) (fun _ s'=>PostA C Z env k F s') (fun _ _=>False) s
theorem asg_name {w:W}{ke:Env1->Mem->Prop}(hk:sc.names.lookup x=some .local∨sc.names.lookup x=some .cell)(h:ke ((x,w)::ε) μ):cAsg C d sc ε μ (.Name x pos) w ke:=fun A env F Z s v hA hs S hw =>
 wpAny_assign_Name (S.store hw (by subst hs;exact hk) fun s' S'=>⟨_,μ,F,h,.refl _,S'⟩)
theorem cS1_asg {t:Expr}(h:cE C d sc ε μ e fun w μ₁=>cAsg C d sc ε μ₁ t w fun ε₂ μ₂=>kf .next ε₂ μ₂)(hsw:∀ env:Env,env.scope=sc->swapsWithSole [t] e pos.line env=pure false)(hst:∀ env:Env,env.scope=sc->swappedStores [t] e env=pure none)(he:∀ env,(assignEach [t] env).map (·.2)=[assign t env]):cS1 C d sc ε μ (.Assign [t] e pos) kf:=fun A env F Z s hA hs S=>by
 refine wpAny_Assign_stores (h.inS hA hs S fun v s' w F' μ' hk' le S' hw=>?_) (hsw env hs) (hst env hs);rw [he];exact wpBot (hk' A env F' Z s' v hA hs S' hw) fun _ s₂ ⟨ε₂,μ₂,F₂,h2,le2,S2⟩=>⟨.next,ε₂,μ₂,F₂,h2,rfl,le.trans le2,S2⟩
theorem cS1_asg2 {t₁ t₂:Expr}(h:cE C d sc ε μ e fun w μ₁=>cAsg C d sc ε μ₁ t₁ w fun ε₂ μ₂=>cAsg C d sc ε₂ μ₂ t₂ w fun ε₃ μ₃=>kf .next ε₃ μ₃)(hst:∀ env:Env,env.scope=sc->swappedStores [t₁,t₂] e env=pure none)(he:∀ env,(assignEach [t₁,t₂] env).map (·.2)=[assign t₁ env,assign t₂ env]):cS1 C d sc ε μ (.Assign [t₁,t₂] e pos) kf:=fun A env F Z s hA hs S=>by
 refine wpAny_Assign_two (h.inS hA hs S fun v s' w F' μ' hk' le S' hw=>?_) (he env) (hst env hs);refine wpBot (hk' A env F' Z s' v hA hs S' hw) fun _ s₂ hq=>?_;obtain ⟨ε₂,μ₂,F₂,h2,le2,S2⟩:=hq;exact wpBot (h2 A env F₂ Z s₂ v hA hs S2 (hw.mono le2)) fun _ s₃ ⟨ε₃,μ₃,F₃,h3,le3,S3⟩=>⟨.next,ε₃,μ₃,F₃,h3,rfl,(le.trans le2).trans le3,S3⟩
theorem cS1_expr (h:cE C d sc ε μ e fun _ μ'=>kf .next ε μ')(hsw:∀ env:Env,env.scope=sc->swapsWith e none pos.line env=pure false)(hk:sc.kind=.function) :
  cS1 C d sc ε μ (.Expr e pos) kf:=fun A env F Z s hA hs S =>
 wpAny_Expr_any (h.inS hA hs S fun v s' w F' μ' hk' le S' hw=>⟨.next,ε,μ',F',hk',rfl,le,S'⟩) (by unfold interactive;rw [hs,hk];rfl) (hsw env hs)
noncomputable def Keeps (ε ε':Env1)(μ μ':Mem):Prop:=(∀ x w,ε.lookup x=some w->ε'.lookup x=some w)∧μ.Sublist μ'
noncomputable def forK (Inv:Nat->Env1->Mem->Prop)(i:Nat)(kf:PostF):PostF:=fun fl ε μ=>match fl with
 | .next=>∃ ε' μ',Keeps ε' ε μ' μ∧Inv (i+1) ε' μ'
 | .cont=>∃ ε' μ',Keeps ε' ε μ' μ∧Inv (i+1) ε' μ'
 | .brk=>kf .next ε μ
 | .ret w=>kf (.ret w) ε μ
noncomputable def cFor (C:Cx)(d:Nat)(sc:Scope)(ε:Env1)(μ:Mem)(t:Expr)(body:List Stmt)(items:List V)(kf:PostF):Prop :=
 ∃ Inv:Nat->Env1->Mem->Prop,Inv 0 ε μ ∧
  (∀ i x ε' μ',items[i]? = some x->Inv i ε' μ'->cAsg C d sc ε' μ' t (.v x) fun ε₁ μ₁=>cS C d sc ε₁ μ₁ body (forK Inv i kf)) ∧
  ∀ ε' μ',Inv items.length ε' μ'->kf .next ε' μ'
theorem PUn.pset {S:PMap}:PUn (PSet Z a o) S=PSet (PUn Z S) a o:=by
 funext b
 unfold PUn PSet;by_cases e:b=a
 ·subst e;simp
 ·simp [e]
theorem PSet.twice:PSet (PSet Z a o) a o'=PSet Z a o':=by
 funext b
 unfold PSet
 by_cases e:b=a<;>simp [e]
theorem EnvRel.le (h:PLe Z Z')(R:EnvRel C F Z env ε):EnvRel C F Z' env ε :=
 ⟨R.kind,R.glob,R.blt,el34 R.ns fun o es n a b c d=>⟨o,es,n,h _ _ a,b,c,d⟩,fun x k=>el34 (R.cell x k) fun c o u a b d e=>⟨c,o,u,a,h _ _ b,d,e⟩⟩
theorem EnvRel.own {Y Y' S:PMap}(R:EnvRel C F Y env ε)(O:Own Z S env)(h:∀ a ob o,S a=some o->Y a=some ob->Y' a=some ob):EnvRel C F Y' env ε :=
 ⟨R.kind,R.glob,R.blt,el34 R.ns fun o es n h1 h2 h3 h4=>O.loc.elim fun _ hL=>⟨o,es,n,h _ _ _ hL h1,h2,h3,h4⟩,
  fun x k=>el34 (R.cell x k) fun c o u h1 h2 h3 h4=>(O.cell x c h1).1.elim fun _ hc=>⟨c,o,u,h1,h _ _ _ hc h2,h3,h4⟩⟩
theorem Own.noS {S:PMap}(h:Own Z S env){it:Addr}(e:Z it=some o):S it=none:=by
 cases q:S it with
 | none=>rfl
 | some ob=>have:=h.apart _ _ q;rw [e] at this;cases this
theorem PUn.noBoth {S:PMap}{it:Addr}(h:PUn Z S it=none):Z it=none∧S it=none:=by
 unfold PUn at h
 cases e:Z it with
 | none=>rw [e] at h;exact ⟨rfl,h⟩
 | some _=>rw [e] at h;cases h
theorem PUn.none_of {S:PMap}{it:Addr}(h1:Z it=none)(h2:S it=none):PUn Z S it=none:=by unfold PUn;rw [h1,h2];rfl
theorem PLe.noLe {Y Y':PMap}(h:PLe Y' Y)(e:Y a=none):Y' a=none:=by
 cases q:Y' a with
 | none=>rfl
 | some ob=>rw [h _ _ q] at e;cases e
theorem Sim.letGo {Y Y':PMap}(S:Sim C F Y μ s){it:Addr}(hy:Y it=some o)(hy':Y' it=none)(le:PLe Y' Y)(hk:∀ b o,b≠it->s.heap.get? b=some o->h'.get? b=some o)(t:Nat) :
  Sim C F Y' μ { s with heap:=h',toks:=t } :=
 ⟨S.base,fun a ob e=>hk a ob (ne_of_none (S.dis it o hy) e) (S.fz a ob e),fun a ob e=>hk a ob (ne_of_none hy' e) (S.zz a ob (le a ob e)),fun a ob e=>S.dis a ob (le a ob e),
  fun a x hm=>(S.own a x hm).elim fun h1 hh=>hh.elim fun h2 hh=>el12 hh fun ob h3 h4=>⟨h1,le.noLe h2,ob,hk a ob (fun q=>by rw [q,hy] at h2;cases h2) h3,h4⟩,S.nod,S.os,S.gens⟩
theorem Sim.weakZ (S:Sim C F Z μ s)(le:PLe Z' Z):Sim C F Z' μ s :=
 ⟨S.base,S.fz,fun a o e=>S.zz a o (le a o e),fun a o e=>S.dis a o (le a o e),fun a x hm=>(S.own a x hm).elim fun h1 h=>⟨h1,le.noLe h.1,h.2⟩,S.nod,S.os,S.gens⟩
theorem SimS.leave {it:Addr}(SS:SimS C F (PSet Z it o) μ s env ε)(hz:Z it=none)(hk:∀ b o,b≠it->s.heap.get? b=some o->h'.get? b=some o)(t:Nat) :
  SimS C F Z μ { s with heap:=h',toks:=t } env ε:=el13 SS fun S₅ a1 a2 a3=>by
 have sit:S₅ it=none:=a3.noS (PSet.self ..);rw [PUn.pset] at a1 a2;refine ⟨S₅,a1.letGo (PSet.self ..) (PUn.none_of hz sit) (fun a ob e=>?_) hk t,a2.own a3 fun a ob o' hs e=>?_,fun a ob e=>?_,a3.loc,a3.cell,a3.inj⟩
 ·rw [PSet.ne _ _ (ne_of_none (PUn.none_of hz sit) e)];exact e
 ·rw [PSet.ne _ _ (ne_of_none sit hs)] at e;exact e
 ·have:=a3.apart a ob e;rw [PSet.ne _ _ (ne_of_none sit e)] at this;exact this
theorem SimS.item {it:Addr}(SS:SimS C F (PSet Z it o) μ s env ε)(hs:Heap.SameBut it s.heap h')(ho:h'.get? it=some o')(t:Nat) :
  SimS C F (PSet Z it o') μ { s with heap:=h',toks:=t } env ε:=el13 SS fun S₅ a1 a2 a3=>by
 have sit:S₅ it=none:=a3.noS (PSet.self ..);have q:=a1.setZ (a:=it) (o:=o) (by rw [PUn.pset];exact PSet.self ..) hs ho t;refine ⟨S₅,?_,a2.own a3 fun a ob o' hs e=>?_,fun a ob e=>?_,a3.loc,a3.cell,a3.inj⟩
 ·rw [PUn.pset,PSet.twice] at q;rw [PUn.pset];exact q
 ·rw [PUn.pset,PSet.ne _ _ (ne_of_none sit hs)] at e ⊢;exact e
 ·have:=a3.apart a ob e;rw [PSet.ne _ _ (ne_of_none sit e)] at this ⊢;exact this
theorem SimS.take {S:PMap}{it:Addr}(a1:Sim C F' (PSet (PUn Z S) it o) μ s)(hz:PUn Z S it=none)(R:EnvRel C F (PUn Z S) env ε)(O:Own Z S env)(le:PLe F F'):SimS C F' (PSet Z it o) μ s env ε:=by
 have sit:=(PUn.noBoth hz).2;refine ⟨S,by rw [PUn.pset];exact a1,(R.mono le).own O fun a ob o' hs e=>?_,fun a ob e=>?_,O.loc,O.cell,O.inj⟩
 ·rw [PUn.pset,PSet.ne _ _ (ne_of_none sit hs)];exact e
 ·rw [PSet.ne _ _ (ne_of_none sit e)];exact O.apart a ob e
theorem Iter.take {Y:PMap}{it:Addr}{items:List V}{x:V}{Q:Option Value->Shared->Prop}(hit:Iter C F it items J)(hA:A.handled=none)(le:PLe F F')(S:Sim C F' Y μ s)(hy:Y it=some o)(hJ:J i o)(hx:items[i]? = some x)(hQ:∀ v o' s',Val C.P F x v->Sim C F' (PSet Y it o') μ s'->J (i+1) o'->Q (some v) s'):wpAny C.M A (pyNext (.ref it)) Q E s :=
 hit.item i x A s Q E o hA (fun a ob e=>S.fz a ob (le a ob e)) (S.zz it o hy) hJ hx fun v h' o' tk hv hs ho hJ'=>hQ v o' _ hv (S.setZ hy hs ho tk) hJ'
theorem Iter.stop {Y Y':PMap}{it:Addr}{items:List V}{Q:Option Value->Shared->Prop}(hit:Iter C F it items J)(hA:A.handled=none)(le:PLe F F')(S:Sim C F' Y μ s)(hy:Y it=some o)(hJ:J i o)(hx:items[i]? = none)(hy':Y' it=none)(le':PLe Y' Y)(hQ:∀ s',Sim C F' Y' μ s'->Q none s'):wpAny C.M A (pyNext (.ref it)) Q E s :=
 hit.done i A s Q E o hA (fun a ob e=>S.fz a ob (le a ob e)) (S.zz it o hy) hJ hx fun h' tk hk=>hQ _ (S.letGo hy hy' le' hk tk)
theorem Iter.lotGo {it:Addr}{items:List V}(hi:Iter C F it items J){t:Expr}{v:Value}(hJ:J i o){Q:Unit->Shared->Prop}(h3:s.heap.get? it=some o)(hQ:Q () s) :
  wpAny C.M A (letOwnedTupleGo t (.ref it) v) Q E s:=el23 (hi.shape _ _ hJ) fun nm vs c1 c2 c3=>by
 have core:∀ (b:Addr) (es:List Expr) c p,wpAny C.M A (letOwnedTupleGo (.Tuple es c p) (.ref it) (.ref b)) Q E s:=fun b es c p=>by
  refine wpAny_bind (wpAny_load h3 ?_);rw [c1,c2];show wpAny C.M A (if (_&&_)=true then _ else _) Q E s;rw [c3,Bool.false_and,if_neg Bool.false_ne_true];exact wpAny_pure hQ
 cases t with
 | Tuple es c p=>cases v with
  | ref b=>exact core b es c p
  | _=>exact wpAny_pure hQ
 | List es p=>cases v with
  | ref b=>exact core b es 0 p
  | _=>exact wpAny_pure hQ
 | _=>exact wpAny_pure hQ
inductive ForI (C:Cx) (Z F₂:PMap) (it:Addr) (items:List V) (J:Nat->Obj->Prop) (Inv:Nat->Env1->Mem->Prop) (env:Env) (n:Nat) (s:Shared):Prop
 | mk (i:Nat) (ε:Env1) (μ:Mem) (F:PMap) (o:Obj) (hn:n=items.length-i) (hi:i≤items.length) (le:PLe F₂ F) (SS:SimS C F (PSet Z it o) μ s env ε) (hJ:J i o) (hInv:Inv i ε μ):ForI C Z F₂ it items J Inv env n s
theorem cS1_for {t:Expr}{body:List Stmt}(hs:∀ env x,foldedSetIterable iter env x=pure x)(h:cE C d sc ε μ iter fun w μ₁=>∃ P,cIter C d μ₁ w P∧∀ items,P items->cFor C d sc ε μ₁ t body items kf):cS1 C d sc ε μ (.For t iter body [] pos) kf:=fun A env F Z s hA hsc SS=>by
 refine wpAny_For (el13 SS fun S₀ hS hR hO=>?_) (hs env);refine wpBot (h A env F _ s hA hsc hR hS) fun v s₁ hq=>hq.casesOn fun w F₁ μ₁ hq le₁ S₁ hw=>el12 hq fun P hI hF=>?_;refine wpBot (hI A F₁ _ s₁ v hA S₁ hw) fun itv s₂ hq=>hq.casesOn fun it items J F₂ o e hP le₂ S₂ hz hJ hit=>?_;subst e;refine el13 (hF items hP) fun Inv inv0 turn fin=>?_;clear hF hI h hq hS S₁ hw hP
 refine codeAny_loop' rfl (ForI C Z F₂ it items J Inv env) (fun n s' hI=>hI.casesOn fun i ε' μ' F' o' hn hi le' SS hJ' hInv=>?_) items.length
  ⟨0,ε,μ₁,F₂,o,rfl,Nat.zero_le _,.refl _,.take S₂ hz hR hO (le₁.trans le₂),hJ,inv0⟩
 have zit:=(PUn.noBoth hz).1;refine kpost fun K hK=>?_;refine wpAny_noted (wpAny_bind (wpAny_standAt (wpAny_bind (kpost fun K' hK'=>wpAny_onRaise ?_))));rw [show A.under (.forLoop t (.ref it) body [] env)=A from Around.under_of_weight rfl];have hto:s'.heap.get? it=some o':=el13 SS fun _ a _ _=>a.zz _ _ (by rw [PUn.pset];exact PSet.self ..);have fz2:PIn F₂ s'.heap:=fun a ob e=>el13 SS fun _ q _ _=>q.fz _ _ (le' a ob e);have hle:PLe F F':=(le₁.trans le₂).trans le'
 rcases Nat.lt_or_ge i items.length with hlt | hge
 ·have hx:items[i]? = some items[i]:=List.getElem?_eq_getElem hlt;refine hit.item i items[i] A s' _ _ o' hA.hd fz2 hto hJ' hx fun v h' o'' tk hv hsb ho'' hJ''=>hK' _ _ ?_;refine wpAny_bind (hit.lotGo hJ'' ho'' (wpAny_bind ?_));refine wpBot (turn i items[i] ε' μ' hx hInv A env F' _ _ v hA hsc (SS.item hsb ho'' tk) (Val.mono le' hv)) fun _ s₄ hq=>hq.casesOn fun ε₁ μ₃ F₃ hb le₃ S₃=>wpAny_bind ?_;refine wpBot (hb A env F₃ _ s₄ hA hsc S₃) fun f s₅ hq=>hq.casesOn fun fl ε₂ μ₂ F₄ hk hfl le₄ S₄=>?_;have le5:PLe F' F₄:=le₃.trans le₄;have back:SimS C F₄ Z μ₂ s₅ env ε₂:=S₄.leave (h':=s₅.heap) zit (fun _ _ _ e=>e) s₅.toks
  have on:∀ ε₃ μ₄,(∀ x w,ε₃.lookup x=some w->ε₂.lookup x=some w)->μ₄.Sublist μ₂->Inv (i+1) ε₃ μ₄->K (.again (.forLoop t (.ref it) body [] env)) s₅:=fun ε₃ μ₄ k1 k2 k3 =>
   hK _ _ (.inl ⟨rfl,items.length-(i+1),hn▸Nat.sub_lt_sub_left hlt (Nat.lt_succ_self i),i+1,ε₃,μ₄,F₄,o'',rfl,hlt,le'.trans le5,S₄.weaken k1 k2,hJ'',k3⟩)
  cases fl with
  | next=>cases hfl;exact el22 hk fun ε₃ μ₄ k k3=>wpAny_pure (on ε₃ μ₄ k.1 k.2 k3)
  | cont=>cases hfl;exact el22 hk fun ε₃ μ₄ k k3=>wpAny_pure (on ε₃ μ₄ k.1 k.2 k3)
  | brk=>cases hfl;exact wpAny_pure (hK _ _ ⟨.next,ε₂,μ₂,F₄,hk,rfl,hle.trans le5,back⟩)
  | ret w=>exact el12 hfl fun vr e hw'=>by subst e;exact wpAny_pure (hK _ _ ⟨.ret w,ε₂,μ₂,F₄,hk,⟨vr,rfl,hw'⟩,hle.trans le5,back⟩)
 ·have hie:i=items.length:=Nat.le_antisymm hi hge;refine hit.done i A s' _ _ o' hA.hd fz2 hto hJ' (List.getElem?_eq_none_iff.mpr hge) fun h' tk hk=>hK' _ _ ?_;exact wpAny_pure (hK _ _ (.inr ⟨rfl,codeAny_block (wpAny_execs_nil ⟨.next,ε',μ',F',fin ε' μ' (hie▸hInv),rfl,hle,SS.leave zit hk tk⟩)⟩))
end
end
section
open PySem PySem.Calls
section
noncomputable def whK (Inv:Nat->Env1->Mem->Prop)(n:Nat)(kf:PostF):PostF:=fun fl ε μ=>match fl with
 | .next=>∃ m ε' μ',m<n∧Keeps ε' ε μ' μ∧Inv m ε' μ'
 | .cont=>∃ m ε' μ',m<n∧Keeps ε' ε μ' μ∧Inv m ε' μ'
 | .brk=>kf .next ε μ
 | .ret w=>kf (.ret w) ε μ
theorem cS1_while {test:Expr}{body:List Stmt}(Inv:Nat->Env1->Mem->Prop)(n₀:Nat)(h0:Inv n₀ ε μ)(turn:∀ n ε' μ',Inv n ε' μ'->cT C d sc ε' μ' test fun b μ₂=>(b=true->cS C d sc ε' μ₂ body (whK Inv n kf))∧(b=false->kf .next ε' μ₂)) :
  cS1 C d sc ε μ (.While test body [] pos) kf:=fun A env F Z s hA hs SS=>by
 refine wpAny_While ?_;refine codeAny_whileLoop (fun n s'=>∃ ε' μ' F',PLe F F'∧SimS C F' Z μ' s' env ε'∧Inv n ε' μ') (fun n s' hI=>?_) n₀ ⟨ε,μ,F,.refl _,SS,h0⟩
 (refine el33 hI fun ε' μ' F' le SS' hInv=>?_;try clear hI)
 refine cT.inS (turn n ε' μ' hInv) hA hs SS' fun b s₂ F₂ μ₂ hk le₂ S₂=>?_
 cases b with
 | true =>
  refine wpBot (hk.1 rfl A env F₂ Z s₂ hA hs S₂) fun f s₃ hq=>?_;obtain ⟨fl,ε₃,μ₃,F₃,hk3,hfl,le₃,S₃⟩:=hq
  cases fl with
  | next =>
   cases hfl
   (refine el33 hk3 fun m ε₄ μ₄ hm qq4 k3=>?_;try clear hk3;rcases qq4 with ⟨k1,k2⟩)
   exact ⟨m,hm,ε₄,μ₄,F₃,(le.trans le₂).trans le₃,S₃.weaken k1 k2,k3⟩
  | cont =>
   cases hfl
   (refine el33 hk3 fun m ε₄ μ₄ hm qq4 k3=>?_;try clear hk3;rcases qq4 with ⟨k1,k2⟩)
   exact ⟨m,hm,ε₄,μ₄,F₃,(le.trans le₂).trans le₃,S₃.weaken k1 k2,k3⟩
  | brk=>cases hfl;exact ⟨.next,ε₃,μ₃,F₃,hk3,rfl,(le.trans le₂).trans le₃,S₃⟩
  | ret w=>(refine el12 hfl fun v qq1 hw=>?_;try clear hfl;subst qq1);exact ⟨.ret w,ε₃,μ₃,F₃,hk3,⟨v,rfl,hw⟩,(le.trans le₂).trans le₃,S₃⟩
 | false=>exact wpAny_execs_nil ⟨.next,ε',μ₂,F₂,hk.2 rfl,rfl,le.trans le₂,S₂⟩
theorem SimS.ext (SS:SimS C F Z μ s env ε)(hk:∀ b o,s.heap.get? b=some o->h'.get? b=some o)(t:Nat):SimS C F Z μ { s with heap:=h',toks:=t } env ε :=
 let ⟨S₀,a,b,c⟩:=SS;⟨S₀,a.ext hk t,b,c⟩
theorem SimS.sim (SS:SimS C F Z μ s env ε):Sim C F Z μ s:=let ⟨S₀,a,b,c⟩:=SS;a.dropZ
theorem asg_tup2 {py:Pos}{a b:V}{ke:Env1->Mem->Prop}(hx:sc.names.lookup x=some .local∨sc.names.lookup x=some .cell)(hy:sc.names.lookup y=some .local∨sc.names.lookup y=some .cell)(h:ke ((y,.v b)::(x,.v a)::ε) μ):cAsg C d sc ε μ (.Tuple [.Name x px,.Name y py] n pos) (.v (.tup [a,b])) ke:=fun A env F Z s v hA hs SS hw=>by
 refine Val.i_tup hw fun ad ws m h1 h4=>?_
 have e:∃ u w,ws=#[u,w]∧Val C.P F a u∧Val C.P F b w:=by
  obtain ⟨l⟩:=ws
  cases h4 with | cons p q=>cases q with | cons p2 q2=>refine Vals.i_nil q2 ?_;exact ⟨_,_,rfl,p,p2⟩
 (refine el23 e fun u w qq2 hu hw=>?_;try clear e;subst qq2)
 refine wpAny_assign_Tuple hA.hd ⟨_,SS.sim.fz _ _ h1,rfl,m,rfl⟩ rfl rfl fun h' hk=>?_;have SS':=SS.ext (h':=h') (fun b o e=>hk b o (Nat.ne_of_lt (Heap.lt_size e)) e) s.toks;show wpAny C.M A (assignInOrder [assign (.Name x px) env,assign (.Name y py) env] [u,w]) _ _ _;refine wpAny_assignInOrder_more ?_;refine wpAny_assign_Name (SS'.store (w:=.v a) hu (by subst hs;exact hx) fun s₂ S₂=>?_);refine wpAny_assignInOrder_more ?_;refine wpAny_assign_Name (S₂.store (w:=.v b) hw (by subst hs;exact hy) fun s₃ S₃=>?_);exact wpAny_assignInOrder_none ⟨_,μ,F,h,.refl _,S₃⟩
end
end
section
open PySem PySem.Calls
section
theorem asg_list2 {py:Pos}{l:Addr}{a b:W}{ke:Env1->Mem->Prop}(hm:(l,O.list [a,b])∈μ)(hx:sc.names.lookup x=some .local∨sc.names.lookup x=some .cell)(hy:sc.names.lookup y=some .local∨sc.names.lookup y=some .cell)(h:ke ((y,b)::(x,a)::ε) μ):cAsg C d sc ε μ (.Tuple [.Name x px,.Name y py] n pos) (.l l) ke:=fun A env F Z s v hA hs SS hw=>by
 refine WAt.i_l hw ?_;refine el22 (SS.sim.isLm hm) fun its m hl hws=>?_
 have e:∃ u w,its=#[u,w]∧WAt C.P F a u∧WAt C.P F b w:=by
  obtain ⟨l⟩:=its;refine el23 (hws.inv2) fun u w e h1 h2=>?_;exact ⟨u,w,by congr 1,h1,h2⟩
 (refine el23 e fun u w qq2 hu hw=>?_;try clear e;subst qq2)
 have hun:assign (.Tuple [.Name x px,.Name y py] n pos) env (.ref l)=(do standAt pos;unpack (.ref l) (assignEach [.Name x px,.Name y py] env)):=rfl;rw [hun];refine wpAny_bind (wpAny_standAt ?_);unfold unpack;refine wpAny_bind (wpAny_holding ?_);refine PySem.W.kun_itemsOf (items:=#[u,w]) hA.hd (IsL.isList hl) fun h' hk=>?_;have SS':=SS.ext (h':=h') (fun b o e=>hk b o (Nat.ne_of_lt (Heap.lt_size e)) e) s.toks;show wpAny C.M A (assignInOrder [assign (.Name x px) env,assign (.Name y py) env] [u,w]) _ _ _;refine wpAny_assignInOrder_more ?_;refine wpAny_assign_Name (SS'.store hu (by subst hs;exact hx) fun s₂ S₂=>?_);refine wpAny_assignInOrder_more ?_;refine wpAny_assign_Name (S₂.store hw (by subst hs;exact hy) fun s₃ S₃=>?_);exact wpAny_assignInOrder_none ⟨_,μ,F,h,.refl _,S₃⟩
theorem cS1_swap {py pt:Pos}(h:cE C d sc ε μ e fun w μ₁=>∃ a b,w=.v (.tup [a,b])∧kf .next ((x,.v a)::(y,.v b)::ε) μ₁)(hsw:∀ env:Env,env.scope=sc->swapsWithSole [.Tuple [.Name x px,.Name y py] n pt] e pos.line env=pure false)(hst:∀ env:Env,env.scope=sc->swappedStores [.Tuple [.Name x px,.Name y py] n pt] e env=pure (some [x,y]))(hx:sc.names.lookup x=some .local∨sc.names.lookup x=some .cell)(hy:sc.names.lookup y=some .local∨sc.names.lookup y=some .cell) :
  cS1 C d sc ε μ (.Assign [.Tuple [.Name x px,.Name y py] n pt] e pos) kf:=fun A env F Z s hA hs SS=>by
 rw [exec_Assign_arm];refine wpAny_bind (wpAny_standAt ?_);rw [hsw env hs,hst env hs];refine wpAny_bind (wpAny_pure ?_);rw [if_neg Bool.false_ne_true];refine wpAny_bind (h.inS hA hs SS fun v s' w F' μ' hk' le S' hw=>?_)
 (refine el22 hk' fun a b qq2 hk=>?_;try clear hk';subst qq2)
 refine wpAny_bind (wpAny_pure ?_);unfold assignStores;refine Val.i_tup hw fun ad ws m h1 h4=>?_
 have e:∃ u w,ws=#[u,w]∧Val C.P F' a u∧Val C.P F' b w:=by
  obtain ⟨l⟩:=ws
  cases h4 with | cons p q=>cases q with | cons p2 q2=>refine Vals.i_nil q2 ?_;exact ⟨_,_,rfl,p,p2⟩
 (refine el23 e fun u w qq2 hu hw=>?_;try clear e;subst qq2)
 refine wpAny_bind (wpAny_rule (wpAny_bind ?_));refine wpAny_unpackItems_tuple (items:=#[u,w]) hA.hd ⟨_,S'.sim.fz _ _ h1,rfl,m,rfl⟩ fun h' hk'=>?_;have SS':=S'.ext (h':=h') (fun b o e=>hk' b o (Nat.ne_of_lt (Heap.lt_size e)) e) s'.toks;refine wpAny_bind ?_;show wpAny C.M A (assignInOrder [bindName env y,bindName env x] [w,u]) _ _ _;refine wpAny_assignInOrder_more (wpAny_bindName (SS'.store (w:=.v b) hw (by subst hs;exact hy) fun s₂ S₂=>?_));refine wpAny_assignInOrder_more (wpAny_bindName (S₂.store (w:=.v a) hu (by subst hs;exact hx) fun s₃ S₃=>?_));exact wpAny_assignInOrder_none (wpAny_pure ⟨.next,_,_,F',hk,rfl,le,S₃⟩)
noncomputable def cSetI (C:Cx)(d:Nat)(μ:Mem)(o i w:W)(k:Mem->Prop):Prop :=
 ∀ (A:Around) (F Z:PMap) (s:Shared) (a b v:Value),Rm A d->Sim C F Z μ s->WAt C.P F o a->WAt C.P F i b->WAt C.P F w v->
  wpAny C.M A (setItem a b v) (fun _ s'=>PostU C Z k F s') (fun _ _=>False) s
theorem asg_sub {oe ie:Expr}{w:W}{ke:Env1->Mem->Prop}(h:cE C d sc ε μ oe fun ow μ₁=>cE C d sc ε μ₁ ie fun iw μ₂=>cSetI C d μ₂ ow iw w fun μ₃=>ke ε μ₃) :
  cAsg C d sc ε μ (.Subscript oe ie pos) w ke:=fun A env F Z s v hA hs SS hw=>by
 rw [assign_Subscript];refine wpAny_bind (wpAny_holding (h.inS hA hs SS fun o s₁ ow F₁ μ₁ h1 le1 S1 ho=>?_));refine wpAny_bind (wpAny_holding (h1.inS hA hs S1 fun i s₂ iw F₂ μ₂ h2 le2 S2 hi=>?_));refine wpAny_bind (wpAny_standAt (wpAny_bind (wpAny_holding ?_)))
 (refine el13 S2 fun S₀ a1 a2 a3=>?_;try clear S2)
 refine wpBot (h2 A F₂ _ s₂ o i v hA a1 (ho.mono le2) hi (hw.mono (le1.trans le2))) fun _ s₃ hq=>?_;obtain ⟨F₃,μ₃,h3,le3,S3⟩:=hq;intro Γ p hΓ;rw [Sem.wp_release];exact ⟨ε,μ₃,F₃,h3,(le1.trans le2).trans le3,S₀,S3,a2.mono le3,a3⟩
theorem asg_attr {oe:Expr}{name:Str}{w:W}{ke:Env1->Mem->Prop}(h:cE C d sc ε μ oe fun ow μ₁=>cSetA C d μ₁ ow name w fun μ₃=>ke ε μ₃) :
  cAsg C d sc ε μ (.Attribute oe name pos) w ke:=fun A env F Z s v hA hs SS hw=>by
 rw [assign_Attribute];refine wpAny_bind (wpAny_holding (h.inS hA hs SS fun o s₁ ow F₁ μ₁ h1 le1 S1 ho=>?_));refine wpAny_bind (wpAny_standAt (wpAny_bind (wpAny_holding ?_)))
 (refine el13 S1 fun S₀ a1 a2 a3=>?_;try clear S1)
 refine wpBot (h1 A F₁ _ s₁ o v hA a1 ho (hw.mono le1)) fun _ s₃ hq=>?_;obtain ⟨F₃,μ₃,h3,le3,S3⟩:=hq;intro Γ p hΓ;rw [Sem.wp_release];exact ⟨ε,μ₃,F₃,h3,le1.trans le3,S₀,S3,a2.mono le3,a3⟩
theorem WsAt.set {w:W}{v:Value}(hw:WAt P F w v):∀ {vs:List Value}(i:Nat),WsAt P F ws vs->WsAt P F (ws.set i w) (vs.set i v):=by
 induction ws with
 | nil=>intro vs i q;exact q.i_nil .nil
 | cons x r ih =>
  intro vs i q;refine q.i_cons fun u us a b=>?_
  cases i with
  | zero=>exact .cons hw b
  | succ i=>exact .cons a (ih i b)
theorem si_list {i:Int}{w:W}{k:Mem->Prop}(hU:UpdAt a (.list ws) (.list (ws.set i.toNat w)) μ μ')(h0:0≤i)(hn:i<ws.length)(hz:ws.length<100000)(h:k μ') :
  cSetI C d μ (.l a) (.v (.int i)) w k:=fun A F Z s u b v hA S hu hb hw=>by
 refine Val.i_int hb fun _=>?_;refine WAt.i_l hu ?_;refine el22 (S.isLm hU.mem) fun its n hl hws=>?_
 have e:its.size=ws.length:=by rw [<-Array.length_toList,hws.length]
 unfold setItem
 try with_reducible refine wpAny_holding ?_
 first | refine wpAny_bind (wpAny_pure ?_) | skip
 refine wpAny_bind (wpAny_sequenceKey (IsL.isList hl).typeIs (by decide) ?_)
 refine wpAny_bind (wpAny_callSpecial?_slot (name:=Str.ofString "__setitem__") (IsL.isList hl).typeIs slot_list_setitem
  (wpAny_call_entry slot_list_setitem (IsL.isList hl).typeIs entry_list_setitem ?_ (args_list_setitem _ _ _)))
 show wpAny _ _ (Builtin.List.listSubscript? (.int i _)>>=_) _ _ s;refine wpAny_bind (wpAny_listSubscript_int (fitsIndex_of h0 (by lia)) ?_);obtain ⟨j,rfl⟩:=Int.eq_ofNat_of_zero_le h0
 have hj:j<its.size:=by lia
 have hx':its[j]? = some its[j]:=Array.getElem?_eq_getElem hj;show wpAny _ _ ((seqItemAt a j>>=fun r=>pure (r.map (j,·)))>>=_) _ _ s;refine wpAny_bind (wpAny_bind (wpAny_seqItemAt hl rfl (wpAny_pure ?_)));rw [hx'];show wpAny _ _ (setSeqItemAt a j v>>=_) _ _ s;refine wpAny_bind (wpAny_setSeqItemAt hl rfl ?_)
 have fin:PostU C Z k F { s with heap:=s.heap.update a (Obj.mapSeq (·.setIfInBounds j v)) } :=
  ⟨F,μ',h,.refl _,S.updM hU (Heap.SameBut.update _ _ _) (IsL.update hl _) ⟨_,_,rfl,by rw [Array.toList_setIfInBounds];exact WsAt.set hw j hws⟩ s.toks⟩
 first
  | exact wpAny_bind (wpAny_pure (wpAny_pure ⟨.none,rfl,wpAny_pure fin⟩))
  | exact wpAny_pure ⟨.none,rfl,wpAny_pure fin⟩
theorem len_list {vs:List V}(hz:vs.length<100000)(h:k (.v (.int vs.length)) μ):cCall C d μ (.builtin "len") [.v (.list vs)] [] k:=fun A F Z s us kvs hA S hv hkv=>by
 refine KwAt.i_nil hkv ?_;refine WsAt.i1 hv fun u hu=>?_;refine Val.i_list hu fun a ws n h1 h4=>?_
 have e:ws.size=vs.length:=by rw [<-Array.length_toList,h4.toList]
 exact call_len_list (S.isL h1).isList (by rw [e];lia) ⟨.v (.int vs.length),F,μ,h,.refl _,S.tok _,by rw [e];exact .int _ _⟩
theorem len_tup {vs:List V}(hz:vs.length<100000)(h:k (.v (.int vs.length)) μ):cCall C d μ (.builtin "len") [.v (.tup vs)] [] k:=fun A F Z s us kvs hA S hv hkv=>by
 refine KwAt.i_nil hkv ?_;refine WsAt.i1 hv fun u hu=>?_;refine Val.i_tup hu fun a ws n h1 h4=>?_
 have e:ws.size=vs.length:=by rw [<-Array.length_toList,h4.toList]
 exact P.len_tuple (S.isT h1) (by rw [e];lia) ⟨.v (.int vs.length),F,μ,h,.refl _,S.tok _,by rw [e];exact .int _ _⟩
theorem int_int {i:Int}(h:k (.v (.int i)) μ):cCall C d μ (.type "int") [.v (.int i)] [] k:=fun A F Z s us kvs hA S hv hkv=>by
 refine KwAt.i_nil hkv ?_;refine WsAt.i1 hv fun u hu=>?_;refine Val.i_int hu fun _=>?_;exact call_int_int ⟨.v (.int i),F,μ,h,.refl _,S,.int _ _⟩
end
end
section
open PySem PySem.Calls
noncomputable def relS (sc₀ sc:Scope):Scope :=
 { sc₀ with names:=sc₀.names.map fun (n,k)=>if (k == .free&&sc.kind == .function&&sc.names.lookup n == some .cell) then (n,.cell) else (n,k) }
theorem lookup_relS {sc:Scope}{x:Str}:∀ (names:List (Str×NameKind)),(names.map fun (n,k)=>if (k == NameKind.free&&sc.kind == .function&&sc.names.lookup n == some .cell) then (n,NameKind.cell) else (n,k)).lookup x
  = (names.lookup x).map fun k=>if (k == NameKind.free&&sc.kind == .function&&sc.names.lookup x == some .cell) then NameKind.cell else k
 | []=>rfl
 | (n,k)::r=>by
  have ih:=@lookup_relS sc x r;by_cases q:x=n
  ·subst q;simp only [List.map_cons];by_cases hc:(k == NameKind.free&&sc.kind == .function&&sc.names.lookup x == some .cell)=true
   ·rw [if_pos hc];simp only [List.lookup,beq_self_eq_true,Option.map_some,if_pos hc]
   ·rw [if_neg hc];simp only [List.lookup,beq_self_eq_true,Option.map_some,if_neg hc]
  ·have qb:(x == n)=false:=by simpa using q
   simp only [List.map_cons];by_cases hc:(k == NameKind.free&&sc.kind == .function&&sc.names.lookup n == some .cell)=true
   ·rw [if_pos hc];simp only [List.lookup,qb];exact ih
   ·rw [if_neg hc];simp only [List.lookup,qb];exact ih
noncomputable def closL (cells:List (Str×Addr)):List (Str×NameKind)->List (Str×Addr)->List (Str×Addr)
 | [],acc=>acc
 | (n,k)::r,acc=>closL cells r (if (k == NameKind.free)=true then (n,(cells.lookup n).getD 0)::acc else acc)
theorem closL_forIn (f:Str×NameKind->List (Str×Addr)->Sem (ForInStep (List (Str×Addr))))(hf:∀ n k cs,(k=.free->(env.cells.lookup n).isSome=true)->f (n,k) cs=pure (.yield (if (k == NameKind.free)=true then (n,(env.cells.lookup n).getD 0)::cs else cs))) :
  ∀ (names:List (Str×NameKind)) (acc:List (Str×Addr)),(∀ x∈names,x.2=.free->(env.cells.lookup x.1).isSome=true)->forIn names acc f=(pure (closL env.cells names acc):Sem _)
 | [],acc,_=>by rw [List.forIn_nil];rfl
 | (n,k)::r,acc,h=>by
  rw [List.forIn_cons,hf n k acc (h _ (.head _))];show (forIn r _ f:Sem _)=_;exact closL_forIn f hf r _ fun x hx=>h x (.tail _ hx)
theorem closureFor_eq (h:∀ x∈sc₀.names,x.2=.free->(env.cells.lookup x.1).isSome=true):closureFor sc₀ env=pure (closL env.cells sc₀.names []):=by
 simp only [closureFor];rw [closL_forIn (env:=env) _ (fun n k cs hc=>?_) sc₀.names [] h]
 ·rfl
 ·by_cases q:(k == NameKind.free)=true
  ·have q':k=.free:=by simpa using q
   obtain ⟨a,ha⟩:=Option.isSome_iff_exists.mp (hc q');simp only [q,if_true];unfold cellOf;rw [ha];rfl
  ·simp only [if_neg q]
theorem closL_lookup {cells:List (Str×Addr)}:∀ (names:List (Str×NameKind)) (acc:List (Str×Addr)),
  (closL cells names acc).lookup x=if (x,NameKind.free)∈names then some ((cells.lookup x).getD 0) else acc.lookup x
 | [],acc=>rfl
 | (n,k)::r,acc=>by
  unfold closL;rw [closL_lookup r];by_cases h:(x,NameKind.free)∈r
  ·rw [if_pos h,if_pos (.tail _ h)]
  ·rw [if_neg h];by_cases q:(k == NameKind.free)=true
   ·have q':k=.free:=by simpa using q
    subst q';rw [if_pos q];by_cases e:x=n
    ·subst e;rw [if_pos (.head _)];simp [List.lookup]
    ·have eb:(x == n)=false:=by simpa using e
     rw [if_neg (fun hm=>by cases hm with | head=>exact e rfl | tail _ hm=>exact h hm)];simp only [List.lookup,eb]
   ·rw [if_neg q,if_neg (fun hm=>by cases hm with | head=>exact q rfl | tail _ hm=>exact h hm)]
theorem cellsFrom_append:∀ (names:List (Str×NameKind)) (n:Nat) (acc:List (Str×Addr)),cellsFrom n names acc=cellsFrom n names []++acc
 | [],_,_=>rfl
 | (x,k)::r,n,acc=>by
  unfold cellsFrom;split
  ·rw [cellsFrom_append r _ ((x,n)::acc),cellsFrom_append r _ [(x,n)]];simp
  ·exact cellsFrom_append r n acc
theorem cellsFrom_none:∀ (names:List (Str×NameKind)) (n:Nat),(x,NameKind.cell)∉names->(cellsFrom n names []).lookup x=none
 | [],_,_=>rfl
 | (y,k)::r,n,h=>by
  unfold cellsFrom;have hr:(x,NameKind.cell)∉r:=fun hm=>h (.tail _ hm);split
  ·rename_i hk
   have hk':k=.cell:=by simpa using hk
   have ne:(x == y)=false:=by
    have:x≠y:=fun e=>h (by rw [e,<-hk'];exact .head _)
    simpa using this
   rw [cellsFrom_append,List.lookup_append,cellsFrom_none r _ hr];simp [List.lookup,ne]
  ·exact cellsFrom_none r n hr
theorem mem_nodup_lookup {k:NameKind}:∀ {names:List (Str×NameKind)},(names.map (·.1)).Nodup->(x,k)∈names->names.lookup x=some k
 | (y,j)::r,hn,h=>by
  simp only [List.map_cons,List.nodup_cons] at hn
  cases h with
  | head=>simp [List.lookup]
  | tail _ h =>
   have:(x == y)=false:=by
    have:x≠y:=fun e=>hn.1 (e▸List.mem_map_of_mem (f:=(·.1)) h)
    simpa using this
   simp only [List.lookup,this];exact mem_nodup_lookup hn.2 h
section
variable {M:Model}
theorem wpAny_newCompEnv {scope:Scope}{globals:Addr}{cl:List (Str×Addr)}{qual:Str}{outer:Env}{Q:Env->Shared->Prop}(hQ:Q { scope:=scope,locals:=s.heap.objs.size,globals:=globals,cells:=cellsFrom (s.heap.objs.size+1) scope.names cl,qual:=qual,func:=none,code:=outer.code,frame:=outer.frame,builtins:=outer.builtins }
   { s with heap:=pushCells (s.heap.push { cls:=.type "dict",data:=.dict #[] }) scope.names }) :
  wpAny M A (newFunctionEnv scope globals cl [] qual none .none (some outer)) Q E s:=by
 simp only [newFunctionEnv,Option.isSome_some,if_true];refine wpAny_bind (wpAny_alloc ?_);refine wpAny_bind (wpAny_layCells _ (fun name kind cells=>by cases hkc:kind == NameKind.cell<;>simp [hkc]) _ _ _ _ ?_);rw [show ({ s with heap:=s.heap.push { cls:=.type "dict",data:=.dict #[] } }:Shared).heap.objs.size=s.heap.objs.size+1 from Heap.size_push ..];simp only [List.forIn_nil];exact wpAny_pure hQ
end
noncomputable def dropN (sc₀:Scope)(ε:Env1):Env1:=ε.filter fun y=>!(sc₀.names.lookup y.1 == some .local||sc₀.names.lookup y.1 == some .cell)
theorem dropN_lookup {sc₀:Scope}{x:Str}:∀ {ε:Env1}{w:W},(dropN sc₀ ε).lookup x=some w->sc₀.names.lookup x≠some .local∧sc₀.names.lookup x≠some .cell∧ε.lookup x=some w
 | [],_,h=>by cases h
 | (y,u)::r,w,h=>by
  unfold dropN at h;rw [List.filter_cons] at h;by_cases q:(!(sc₀.names.lookup y == some .local||sc₀.names.lookup y == some .cell))=true
  ·rw [if_pos q] at h;by_cases e:x=y
   ·subst e;rw [lookup_cons_self] at h
    cases h
    simp only [Bool.not_eq_true',Bool.or_eq_false_iff,beq_eq_false_iff_ne] at q;exact ⟨q.1,q.2,lookup_cons_self⟩
   ·rw [lookup_cons_ne e] at h;rw [lookup_cons_ne e];exact dropN_lookup (ε:=r) h
  ·rw [if_neg q] at h;refine el03 (dropN_lookup (ε:=r) (sc₀:=sc₀) h) fun h1 h2 h3=>?_;have e:x≠y:=fun e=>q (by subst e;simp only [Bool.not_eq_true',Bool.or_eq_false_iff,beq_eq_false_iff_ne];exact ⟨h1,h2⟩);exact ⟨h1,h2,by rw [lookup_cons_ne e];exact h3⟩
section
structure CEnv (C:Cx)(sc₀:Scope)(F Z S:PMap)(env:Env)(ε:Env1):Prop where
 rel:EnvRel C F (PUn Z S) env ε
 apart:∀ a o,S a=some o->Z a=none
 loc:∃ o,S env.locals=some o
 cne:∀ x c,(env.kindOf x=some .cell∨env.kindOf x=some .free)->env.cells.lookup x=some c->c≠env.locals
 mine:∀ x c,sc₀.names.lookup x=some .cell->env.cells.lookup x=some c->(∃ o,S c=some o)∧∀ y,(env.kindOf y=some .cell∨env.kindOf y=some .free)->env.cells.lookup y=some c->x=y
 kl:∀ x,sc₀.names.lookup x=some .local->env.kindOf x=some .local
 kc:∀ x,sc₀.names.lookup x=some .cell->env.kindOf x=some .cell
theorem CEnv.mono {S:PMap}(h:PLe F F')(c:CEnv C sc₀ F Z S env ε):CEnv C sc₀ F' Z S env ε:=⟨c.rel.mono h,c.apart,c.loc,c.cne,c.mine,c.kl,c.kc⟩
theorem EnvRel.sub (he:∀ x w,ε'.lookup x=some w->ε.lookup x=some w)(hR:EnvRel C F Z env ε):EnvRel C F Z env ε':=by
 refine ⟨hR.kind,hR.glob,hR.blt,?_,fun x k=>?_⟩
 ·refine el34 (hR.ns) fun o es n hz hdt hsk hl=>?_;exact ⟨o,es,n,hz,hdt,hsk,fun x w e=>hl x w (he x w e)⟩
 ·refine el34 (hR.cell x k) fun c o u hc hz hdt hl=>?_;exact ⟨c,o,u,hc,hz,hdt,fun w e=>hl w (he x w e)⟩
theorem CEnv.sub {S:PMap}(he:∀ x w,ε'.lookup x=some w->ε.lookup x=some w)(c:CEnv C sc₀ F Z S env ε):CEnv C sc₀ F Z S env ε':=⟨c.rel.sub he,c.apart,c.loc,c.cne,c.mine,c.kl,c.kc⟩
theorem CEnv.store {S₀:PMap}(hS:Sim C F (PUn Z S₀) μ s)(hO:CEnv C sc₀ F Z S₀ env ε){w:W}{v:Value}(hw:WAt C.P F w v)(hk:sc₀.names.lookup x=some .local∨sc₀.names.lookup x=some .cell){Q:Unit->Shared->Prop}(hQ:∀ s' S',Sim C F (PUn Z S') μ s'->CEnv C sc₀ F Z S' env ((x,w)::ε)->Q () s') :
  wpAny C.M A (storeName env x v) Q E s:=by
 have hm:env.kindOf x=some .cell->sc₀.names.lookup x=some .cell:=fun h=>hk.elim (fun q=>by rw [hO.kl x q] at h;cases h) id;refine hO.rel.store hS hw (hk.imp (hO.kl x) (hO.kc x)) hO.cne (fun y c ky h hx hy=>((hO.mine x c (hm h) hx).2 y ky hy).symm) fun s' a o' ha h1 h2=>?_;refine Exists.elim (show ∃ p,S₀ a=some p from ha.elim (fun q=>q▸hO.loc) fun q=>(hO.mine x a (hm q.1) q.2).1) fun p hp=>?_;rw [<-PUn.set (hO.apart a p hp)] at h1 h2;exact hQ s' _ h1 ⟨h2,PSet.apart hO.apart hp,PSet.has hO.loc,hO.cne,fun y c hy hc=>⟨PSet.has (hO.mine y c hy hc).1,(hO.mine y c hy hc).2⟩,hO.kl,hO.kc⟩
theorem clos_ok (R:EnvRel C F Z env ε)(hfree:(sc₀.names.all fun x=>x.2 != .free||(env.scope.names.lookup x.1 == some .cell||env.scope.names.lookup x.1 == some .free))=true) :
  closureFor sc₀ env=pure (closL env.cells sc₀.names []):=closureFor_eq fun x hx e=>by
 have:=List.all_eq_true.mp hfree x hx;rw [e] at this
 have this:env.kindOf x.1=some .cell∨env.kindOf x.1=some .free:=by simpa [Env.kindOf] using this
 refine el32 (R.cell x.1 this) fun c o u hc _=>?_;rw [hc];rfl
theorem relS_lookup (sc₀ sc:Scope)(x:Str):(relS sc₀ sc).names.lookup x=(sc₀.names.lookup x).map fun k=>if (k == NameKind.free&&sc.kind == .function&&sc.names.lookup x == some .cell) then NameKind.cell else k:=lookup_relS _
theorem relS_split (h:(relS sc₀ sc).names.lookup x=some .cell∨(relS sc₀ sc).names.lookup x=some .free):sc₀.names.lookup x=some .cell∨sc₀.names.lookup x=some .free:=by
 rw [relS_lookup] at h
 cases e:sc₀.names.lookup x with
 | none=>rw [e] at h;rcases h with h | h<;>cases h
 | some k =>
  rw [e] at h
  cases k with
  | cell=>exact .inl rfl
  | free=>exact .inr rfl
  | _=>rcases h with h | h<;>cases h
theorem relS_local (h:(relS sc₀ sc).names.lookup x=some .local):sc₀.names.lookup x=some .local:=by
 rw [relS_lookup] at h
 cases e:sc₀.names.lookup x with
 | none=>rw [e] at h;cases h
 | some k =>
  rw [e] at h;have h:=Option.some.inj h
  cases k with
  | «local» => rfl
  | free=>exact ((fun b=>by cases b<;>exact fun h=>nomatch h:∀ b:Bool,(if b=true then NameKind.cell else NameKind.free)=.local->False) _ h).elim
  | _=>cases h
inductive Place (C:Cx) (F Z:PMap) (sc₀:Scope) (own:List (Str×Addr)) (ε:Env1) (y:Str) (c:Addr):Prop
 | own (hk:sc₀.names.lookup y=some .cell) (hm:(y,c)∈own):Place C F Z sc₀ own ε y c
 | out (o:Obj) (u:Option Value) (hk:sc₀.names.lookup y=some .free) (hz:Z c=some o) (hd:o.data=.cell u) (hu:∀ w,ε.lookup y=some w->Pts C F w u):Place C F Z sc₀ own ε y c
theorem place_of (R:EnvRel C F Z env ε)(hn:(sc₀.names.map (·.1)).Nodup)(hfree:(sc₀.names.all fun x=>x.2 != .free||(env.scope.names.lookup x.1 == some .cell||env.scope.names.lookup x.1 == some .free))=true)(ky:sc₀.names.lookup y=some .cell∨sc₀.names.lookup y=some .free):∃ c,(cellsFrom n sc₀.names []++closL env.cells sc₀.names []).lookup y=some c∧Place C F Z sc₀ (cellsFrom n sc₀.names []) ε y c:=by
 rcases ky with h | h
 ·exact (Option.isSome_iff_exists.mp (PySem.W.cellsFrom_some _ _ _ (.inl h):((cellsFrom n sc₀.names []).lookup y).isSome=true)).elim fun c hc=>⟨c,by rw [List.lookup_append,hc];rfl,.own h (mem_of_lookup hc)⟩
 ·have hm:(y,NameKind.free)∈sc₀.names:=mem_of_lookup h;have hno:(y,NameKind.cell)∉sc₀.names:=fun hm'=>nomatch h.symm.trans (mem_nodup_lookup hn hm');have this:=List.all_eq_true.mp hfree _ hm
  have this:env.kindOf y=some .cell∨env.kindOf y=some .free:=by simpa [Env.kindOf] using this
  exact el34 (R.cell y this) fun c o u hc hz hd hw=>⟨c,by rw [List.lookup_append,cellsFrom_none _ _ hno,closL_lookup,if_pos hm,hc];rfl,.out o u h hz hd hw⟩
noncomputable def frameS (h:Heap)(L:Addr)(own:List (Str×Addr)):PMap:=fun a=>if a=L∨a∈own.map (·.2) then h.get? a else none
theorem frameS_some {h:Heap}{own:List (Str×Addr)}(ab:∀ y c,(y,c)∈own->L<c)(e:frameS h L own a=some o):h.get? a=some o∧L≤a:=by
 unfold frameS at e;by_cases q:a=L∨a∈own.map (·.2)
 ·rw [if_pos q] at e;exact ⟨e,q.elim (fun q=>Nat.le_of_eq q.symm) fun q=>(List.mem_map.mp q).elim fun p hp=>Nat.le_of_lt (hp.2▸ab p.1 p.2 hp.1)⟩
 ·rw [if_neg q] at e;cases e
theorem Sim.frame {S₀:PMap}(S:Sim C F Z μ s)(keep:∀ b o,s.heap.get? b=some o->h'.get? b=some o)(hS:∀ a o,S₀ a=some o->h'.get? a=some o∧s.heap.objs.size≤a):Sim C F (PUn Z S₀) μ { s with heap:=h' }:=by
 have un:∀ {a o},PUn Z S₀ a=some o->Z a=some o∨S₀ a=some o:=fun {a o} e=>by
  unfold PUn at e
  cases q:Z a with
  | none=>rw [q] at e;exact .inr e
  | some o'=>rw [q] at e;exact .inl e
 have old:∀ {a o p},s.heap.get? a=some p->S₀ a=some o->False:=fun e q=>absurd (Heap.lt_size e) (Nat.not_lt.mpr (hS _ _ q).2)
 exact ⟨S.base,fun a o e=>keep a o (S.fz a o e),fun a o e=>(un e).elim (fun e=>keep a o (S.zz a o e)) fun e=>(hS a o e).1,fun a o e=>(un e).elim (S.dis a o) fun e=>no_ob fun p q=>old (S.fz a p q) e,
  fun a y hm=>(S.own a y hm).elim fun h1 h=>h.elim fun h2 h=>h.elim fun ob h=>⟨h1,PUn.none_of h2 (no_ob fun p q=>old h.1 q),ob,keep a ob h.1,h.2⟩,S.nod,S.os,S.gens⟩
theorem CEnv.enter (S:Sim C F Z μ s)(R:EnvRel C F Z env ε)(hk:sc₀.kind=.function)(hn:(sc₀.names.map (·.1)).Nodup)(hfree:(sc₀.names.all fun x=>x.2 != .free||(env.scope.names.lookup x.1 == some .cell||env.scope.names.lookup x.1 == some .free))=true){Q:Env->Shared->Prop}(hQ:∀ (cenv:Env) (s':Shared) (S₀:PMap),cenv.scope=sc₀->Z cenv.locals=none->Sim C F (PUn Z S₀) μ s'->CEnv C sc₀ F Z S₀ { cenv with scope:=relS sc₀ env.scope } (dropN sc₀ ε)->Q cenv s') :
  wpAny C.M A (newFunctionEnv sc₀ env.globals (closL env.cells sc₀.names []) [] env.qual none .none (some env)) Q E s:=by
 refine wpAny_newCompEnv ?_;have hHs:(s.heap.push { cls:=.type "dict",data:=.dict #[] }).objs.size=s.heap.objs.size+1:=Heap.size_push ..;have okc:=cellsFrom_ok sc₀.names (s.heap.push { cls:=.type "dict",data:=.dict #[] }) (s.heap.objs.size+1) [] ⟨fun _ _ hm=>(nomatch hm),List.Pairwise.nil⟩ (by rw [hHs];exact Nat.le_refl _);rw [hHs] at okc;have keep:∀ b o,s.heap.get? b=some o->(pushCells (s.heap.push { cls:=.type "dict",data:=.dict #[] }) sc₀.names).get? b=some o:=fun b o e=>pushCells_keeps _ _ b o (Heap.get?_push_of_some _ e);have hL:=pushCells_keeps sc₀.names (s.heap.push { cls:=.type "dict",data:=.dict #[] }) _ _ (Heap.get?_push_size s.heap (o:={ cls:=.type "dict",data:=.dict #[] }) rfl);rw [cellsFrom_append];have pl:=fun {y:Str} ky=>place_of (n:=s.heap.objs.size+1) (y:=y) R hn hfree ky;revert okc keep hL pl;generalize pushCells (s.heap.push { cls:=.type "dict",data:=.dict #[] }) sc₀.names=h';generalize cellsFrom (s.heap.objs.size+1) sc₀.names []=own;intro okc keep hL pl;have fz:=fun {a:Addr}{o:Obj}=>frameS_some (a:=a) (o:=o) (h:=h') fun y c hm=>(okc.empty y c hm).2
 have fL:PUn Z (frameS h' s.heap.objs.size own) s.heap.objs.size=some { cls:=.type "dict",data:=.dict #[] }:=by
  unfold PUn;rw [(fresh_none S).2.1];exact (if_pos (.inl rfl)).trans hL
 have fC:∀ {y c},(y,c)∈own->frameS h' s.heap.objs.size own c=h'.get? c:=fun hm=>if_pos (.inr (List.mem_map_of_mem (f:=(·.2)) hm));have zN:∀ {a},s.heap.objs.size≤a->Z a=none:=fun h=>no_ob fun o e=>absurd (Heap.lt_size (S.zz _ _ e)) (Nat.not_lt.mpr h);have same:∀ {y:Str}{c c':Addr},(own++closL env.cells sc₀.names []).lookup y=some c->(own++closL env.cells sc₀.names []).lookup y=some c'->c'=c:=fun e e'=>Option.some.inj (e'.symm.trans e);refine hQ _ _ _ rfl (fresh_none S).2.1 (S.frame keep fun a o e=>fz e) ⟨⟨hk,R.glob,R.blt,⟨_,#[],_,fL,rfl,fun e he=>(by simp at he),fun y w e ky=>absurd (relS_local ky) (dropN_lookup e).1⟩,fun y ky=>el12 (pl (relS_split ky)) fun c hc p=>⟨c,?_⟩⟩,fun a o e=>zN (fz e).2,⟨_,(if_pos (.inl rfl)).trans hL⟩,fun y c ky hc=>el12 (pl (relS_split ky)) fun c' hc' p=>?_,fun y c hy hc=>el12 (pl (.inl hy)) fun c' hc' p=>?_,fun x h=>(relS_lookup sc₀ env.scope x).trans (by rw [h];rfl),fun x h=>(relS_lookup sc₀ env.scope x).trans (by rw [h];rfl)⟩
 ·cases p with
  | own h hm=>exact el12 (okc.empty y c hm).1 fun o ho hd=>⟨o,none,hc,by unfold PUn;rw [zN (Nat.le_of_lt (okc.empty y c hm).2)];exact (fC hm).trans ho,hd,fun w e=>absurd h (dropN_lookup e).2.1⟩
  | out o u h hz hd hu=>exact ⟨o,u,hc,by unfold PUn;rw [hz];rfl,hd,fun w e=>hu w (dropN_lookup e).2.2⟩
 ·have e:=same hc hc';subst e
  cases p with
  | own h hm=>exact Nat.ne_of_gt (okc.empty y c' hm).2
  | out o u h hz hd hu=>exact Nat.ne_of_lt (Heap.lt_size (S.zz _ _ hz))
 ·have e:=same hc hc';subst e
  cases p with
  | own h hm =>
   refine ⟨(okc.empty y c' hm).1.elim fun o ho=>⟨o,(fC hm).trans ho.1⟩,fun z kz hz=>el12 (pl (relS_split kz)) fun c₂ hc₂ p₂=>?_⟩;have e:=same hz hc₂;subst e
   cases p₂ with
   | own h₂ hm₂=>exact name_of_addr okc.apart hm hm₂
   | out o u h₂ hz₂ hd hu=>exact absurd (Heap.lt_size (S.zz _ _ hz₂)) (Nat.not_lt.mpr (Nat.le_of_lt (okc.empty y _ hm).2))
  | out o u h hz hd hu=>rw [hy] at h;cases h
end
end
section
open PySem PySem.Calls
section
noncomputable def cTgt (C:Cx)(sc₀:Scope)(t:Expr)(w:W)(bs:Env1):Prop:=(∀ y∈bs,sc₀.names.lookup y.1=some .local∨sc₀.names.lookup y.1=some .cell) ∧
 ∀ (A:Around) (env:Env) (F Z S:PMap) (ε:Env1) (μ:Mem) (s:Shared) (v:Value),A.handled=none->CEnv C sc₀ F Z S env ε->Sim C F (PUn Z S) μ s->WAt C.P F w v->
  wpAny C.M A (assign t env v) (fun _ s'=>∃ S',Sim C F (PUn Z S') μ s'∧CEnv C sc₀ F Z S' env (bs++ε)) (fun _ _=>False) s
theorem tgt_name {w:W}(hk:sc₀.names.lookup x=some .local∨sc₀.names.lookup x=some .cell):cTgt C sc₀ (.Name x pos) w [(x,w)]:=⟨fun y hy=>(by cases hy with | head=>exact hk | tail _ h=>cases h),fun A env F Z S ε μ s v hA hO hS hw =>
 wpAny_assign_Name (CEnv.store hS hO hw hk fun s' S' h1 h2=>⟨S',h1,h2⟩)⟩
theorem tgt_tup2 {py:Pos}{a b:V}(hx:sc₀.names.lookup x=some .local∨sc₀.names.lookup x=some .cell)(hy:sc₀.names.lookup y=some .local∨sc₀.names.lookup y=some .cell) :
  cTgt C sc₀ (.Tuple [.Name x px,.Name y py] n pos) (.v (.tup [a,b])) [(y,.v b),(x,.v a)]:=⟨fun z hz=>(by cases hz with | head=>exact hy | tail _ h=>cases h with | head=>exact hx | tail _ h=>cases h),fun A env F Z S ε μ s v hA hO hS hw=>by
  refine Val.i_tup hw fun ad ws m h1 h4=>?_
  have e:∃ u w,ws=#[u,w]∧Val C.P F a u∧Val C.P F b w:=by
   obtain ⟨l⟩:=ws
   cases h4 with | cons p q=>cases q with | cons p2 q2=>refine Vals.i_nil q2 ?_;exact ⟨_,_,rfl,p,p2⟩
  (refine el23 e fun u w qq2 hu hw=>?_;try clear e;subst qq2)
  refine wpAny_assign_Tuple hA ⟨_,hS.fz _ _ h1,rfl,m,rfl⟩ rfl rfl fun h' hk=>?_;have SS':=hS.ext (h':=h') (fun b o e=>hk b o (Nat.ne_of_lt (Heap.lt_size e)) e) s.toks;show wpAny C.M A (assignInOrder [assign (.Name x px) env,assign (.Name y py) env] [u,w]) _ _ _;refine wpAny_assignInOrder_more ?_;refine wpAny_assign_Name (CEnv.store (w:=.v a) SS' hO hu hx fun s₂ S₂ k1 k2=>?_);refine wpAny_assignInOrder_more ?_;refine wpAny_assign_Name (CEnv.store (w:=.v b) k1 k2 hw hy fun s₃ S₃ k3 k4=>?_)
  exact wpAny_assignInOrder_none ⟨_,k3,k4⟩⟩
theorem bs_keep {bs:Env1}(h:∀ y∈bs,sc₀.names.lookup y.1=some .local∨sc₀.names.lookup y.1=some .cell):∀ y w,(dropN sc₀ ε).lookup y=some w->(bs++dropN sc₀ ε).lookup y=some w:=fun y w e=>by
 have hn:bs.lookup y=none:=by
  cases q:bs.lookup y with
  | none=>rfl
  | some u =>
   refine el03 (dropN_lookup e) fun a b _=>?_
   rcases h _ (mem_of_lookup q) with h | h
   ·exact absurd h a
   ·exact absurd h b
 rw [List.lookup_append,hn];exact e
noncomputable def cIfs (C:Cx)(d:Nat)(sc:Scope)(ε:Env1)(μ:Mem)(ifs:List Expr)(kb:Bool->Mem->Prop):Prop :=
 ∀ (A:Around) (env:Env) (F Z:PMap) (s:Shared),Rm A d->env.scope=sc->EnvRel C F Z env ε->Sim C F Z μ s->
  wpAny C.M A (forIn ifs true fun c r=>if r=true then do let ok ← isTrue c env (eval c env);pure (ForInStep.yield ok) else pure (ForInStep.yield r)) (PostB C Z kb F) (fun _ _=>False) s
theorem ifs_nil (h:kb true μ):cIfs C d sc ε μ [] kb:=fun A env F Z s _ _ _ S=>wpAny_pure ⟨F,μ,h,.refl _,S⟩
theorem ifs_one (h:cT C d sc ε μ e kb):cIfs C d sc ε μ [e] kb:=fun A env F Z s hA hs R S=>wpAny_tests_one (h A env F Z s hA hs R S)
noncomputable def cU (C:Cx)(d:Nat)(sc:Scope)(ε:Env1)(μ:Mem)(f:Env->Sem Unit)(k:Mem->Prop):Prop :=
 ∀ (A:Around) (env:Env) (F Z:PMap) (s:Shared),Rm A d->env.scope=sc->EnvRel C F Z env ε->Sim C F Z μ s->wpAny C.M A (f env) (fun _ s'=>PostU C Z k F s') (fun _ _=>False) s
noncomputable def emitL (elt:Expr)(acc:Value)(env:Env):Sem Unit:=(do let _ ← call (.builtin "list.append") [acc,<-eval elt env])
theorem u_list {acc:Addr}{kk:Mem->Prop}(h:cE C d sc ε μ elt fun w μ₁=>cCall C d μ₁ (.builtin "list.append") [.l acc,w] [] fun _ μ₂=>kk μ₂):cU C d sc ε μ (emitL elt (.ref acc)) kk:=fun A env F Z s hA hs R S=>by
 refine wpAny_bind (wpBot (h A env F Z s hA hs R S) fun v s₁ hq=>?_);obtain ⟨w,F₁,μ₁,h₁,le₁,S₁,hv⟩:=hq;refine wpAny_bind (wpBot (h₁ A F₁ Z s₁ [.ref acc,v] [] hA S₁ (.cons rfl (.cons hv .nil)) .nil) fun _ s₂ hq=>?_);obtain ⟨_,F₂,μ₂,h₂,le₂,S₂,_⟩:=hq;exact wpAny_pure ⟨F₂,μ₂,h₂,le₁.trans le₂,S₂⟩
noncomputable def emitD (kx vx:Expr)(D:Addr)(env:Env):Sem Unit:=(do
 let kv ← eval kx env
 let vv ← holding [kv] (eval vx env)
 standAt { kx.pos with endLine:=vx.pos.endLine,endCol:=vx.pos.endCol }
 holding [kv,vv] (dictSet D kv vv))
noncomputable def cDSet (C:Cx)(d:Nat)(μ:Mem)(D:Addr)(x y:W)(k:Mem->Prop):Prop :=
 ∀ (A:Around) (F Z:PMap) (s:Shared) (u v:Value),Rm A d->Sim C F Z μ s->WAt C.P F x u->WAt C.P F y v->wpAny C.M A (dictSet D u v) (fun _ s'=>PostU C Z k F s') (fun _ _=>False) s
theorem u_dict {kk:Mem->Prop}(h:cE C d sc ε μ kx fun x μ₁=>cE C d sc ε μ₁ vx fun y μ₂=>cDSet C d μ₂ D x y kk):cU C d sc ε μ (emitD kx vx D) kk:=fun A env F Z s hA hs R S=>by
 refine wpAny_bind (wpBot (h A env F Z s hA hs R S) fun u s₁ hq=>?_);obtain ⟨x,F₁,μ₁,h₁,le₁,S₁,hu⟩:=hq;refine wpAny_bind (wpAny_holding (wpBot (h₁ A env F₁ Z s₁ hA hs (R.mono le₁) S₁) fun v s₂ hq=>?_));obtain ⟨y,F₂,μ₂,h₂,le₂,S₂,hv⟩:=hq;refine wpAny_bind (wpAny_standAt (wpAny_holding ?_));exact wpBot (h₂ A F₂ Z s₂ u v hA S₂ (hu.mono le₂) hv) fun _ s₃ ⟨F₃,μ₃,h₃,le₃,S₃⟩=>⟨F₃,μ₃,h₃,(le₁.trans le₂).trans le₃,S₃⟩
noncomputable def compT (e target:Expr)(ifs:List Expr)(ipos:Pos)(emit:Env->Sem Unit)(it acc:Value)(env:Env):Sem Fin:=(do
 standAt ipos
 match ← pyNext it with
 | none=>pure (.done .next)
 | some v =>
  letOwnedTupleGo target it v
  assign target env v
  let mut ok:=true
  for c in ifs do
   if ok then ok ← isTrue c env (eval c env)
  if ok then
   emit env
  again (.compLoop e 0 it acc env))
theorem EnvRel.to {Y Y':PMap}(R:EnvRel C F Y env ε)(h:∀ a ob,Y a=some ob->(a=env.locals∨∃ u,ob.data=.cell u)->Y' a=some ob):EnvRel C F Y' env ε :=
 ⟨R.kind,R.glob,R.blt,el34 R.ns fun o es n h1 h2 h3 h4=>⟨o,es,n,h _ _ h1 (.inl rfl),h2,h3,h4⟩,fun x k=>el34 (R.cell x k) fun c o u h1 h2 h3 h4=>⟨c,o,u,h1,h _ _ h2 (.inr ⟨u,h3⟩),h3,h4⟩⟩
theorem CEnv.noS {S:PMap}(c:CEnv C sc₀ F Z S env ε){it:Addr}(e:Z it=some o):S it=none:=no_ob fun ob q=>nomatch e.symm.trans (c.apart _ _ q)
theorem CEnv.place {S:PMap}{it:Addr}{vs:Array Value}(c:CEnv C sc₀ F (PSet Z it o) S env ε)(hd:o.data=.fields vs)(h:∀ a,a≠it->Z' a=Z a):CEnv C sc₀ F Z' S env ε:=by
 have sit:=c.noS (PSet.self ..);refine ⟨c.rel.to fun a ob e q=>?_,fun a ob e=>(h a (ne_of_none sit e)).trans ((PSet.ne _ _ (ne_of_none sit e)).symm.trans (c.apart a ob e)),c.loc,c.cne,c.mine,c.kl,c.kc⟩
 have ne:a≠it:=fun r=>by
  rw [r,PUn.pset,PSet.self] at e
  rcases q with q | q
  ·exact c.loc.elim fun oL hL=>nomatch (q▸r▸sit).symm.trans hL
  ·exact q.elim fun u hu=>by rw [<-Option.some.inj e,hd] at hu;cases hu
 rw [PUn.pset,PSet.ne _ _ ne] at e;unfold PUn at e ⊢;rw [h a ne];exact e
inductive CompI (C:Cx) (sc₀:Scope) (Z F₂:PMap) (it:Addr) (items:List V) (J:Nat->Obj->Prop) (Inv:Nat->Mem->Prop) (cenv:Env) (ε:Env1) (n:Nat) (s:Shared):Prop
 | mk (i:Nat) (μ:Mem) (F S:PMap) (o:Obj) (hn:i+n=items.length) (le:PLe F₂ F) (SS:Sim C F (PUn (PSet Z it o) S) μ s) (hC:CEnv C sc₀ F (PSet Z it o) S cenv ε) (hJ:J i o) (hInv:Inv i μ):CompI C sc₀ Z F₂ it items J Inv cenv ε n s
inductive CompP (C:Cx) (sc₀:Scope) (Z F₂:PMap) (Inv:Mem->Prop) (cenv:Env) (ε:Env1) (s:Shared):Prop
 | mk (μ:Mem) (F S:PMap) (hInv:Inv μ) (le:PLe F₂ F) (SS:Sim C F (PUn Z S) μ s) (hC:CEnv C sc₀ F Z S cenv ε):CompP C sc₀ Z F₂ Inv cenv ε s
theorem comp_loop {ipos:Pos}{emit:Env->Sem Unit}{it:Addr}{acc:Value}{items:List V}{S₀:PMap}{Inv:Nat->Mem->Prop}(hden:∀ env,C.M.den (.compLoop e 0 (.ref it) acc env)=(compT e target ifs ipos emit (.ref it) acc env).onRaise (fun x=>do noteFrame x env;theTreesLotGoes x))(hw:∀ env,A.under (.compLoop e 0 (.ref it) acc env)=A)(hq:∀ env,(Code.compLoop e 0 (.ref it) acc env).quiet=true)(hA:Rm A d)(hsc:cenv.scope=sc)(hit:Iter C F₂ it items J)(hz:Z it=none)(hJ:J 0 o)(hS:Sim C F₂ (PUn (PSet Z it o) S₀) μ s)(hC:CEnv C sc₀ F₂ (PSet Z it o) S₀ cenv (dropN sc₀ ε))(h0:Inv 0 μ)(turn:∀ i x μ',items[i]? = some x->Inv i μ'->∃ bs,cTgt C sc₀ target (.v x) bs∧cIfs C d sc (bs++dropN sc₀ ε) μ' ifs fun b μ₂=>(b=true->cU C d sc (bs++dropN sc₀ ε) μ₂ emit (Inv (i+1)))∧(b=false->Inv (i+1) μ₂)) :
  codeAny C.M A (.compLoop e 0 (.ref it) acc cenv) (fun r s'=>r=.ok .next∧CompP C sc₀ Z F₂ (Inv items.length) cenv (dropN sc₀ ε) s') s:=by
 refine codeAny_loop (hq cenv) (CompI C sc₀ Z F₂ it items J Inv cenv (dropN sc₀ ε)) (fun n s' hI=>hI.casesOn fun i μ' F' S' o' hn le' SS' hC' hJ' hInv=>?_) items.length ⟨0,μ,F₂,S₀,o,Nat.zero_add _,.refl _,hS,hC,hJ,h0⟩;rw [hw,hden];refine wpAny_noted (wpAny_bind (wpAny_standAt (wpAny_bind ?_)))
 have hy:PUn (PSet Z it o') S' it=some o':=by rw [PUn.pset];exact PSet.self ..
 refine el23 (hit.shape _ _ hJ') fun nm vs _ c2 _=>?_
 cases n with
 | zero =>
  have sit:=hC'.noS (PSet.self ..);have hn:i=items.length:=hn;refine hit.stop hA.hd le' SS' hy hJ' (List.getElem?_eq_none (Nat.le_of_eq hn.symm)) (PUn.none_of hz sit) (by rw [PUn.pset];exact PSet.le (PUn.none_of hz sit)) fun s₁ S₁=>?_;exact wpAny_pure ⟨rfl,μ',F',S',hn▸hInv,le',S₁,hC'.place c2 fun _ _=>rfl⟩
 | succ n =>
  have hlt:i<items.length:=hn▸Nat.lt_add_of_pos_right (Nat.succ_pos n);have hn':i+1+n=items.length:=(Nat.succ_add_eq_add_succ i n).trans hn;have hx:items[i]? = some items[i]:=List.getElem?_eq_getElem hlt;refine el12 (turn i items[i] μ' hx hInv) fun bs htg hifs=>?_;refine hit.take hA.hd le' SS' hy hJ' hx fun v o'' s₁ hv S₁ hJ''=>?_;rw [show PSet (PUn (PSet Z it o') S') it o''=PUn (PSet Z it o'') S' by rw [PUn.pset,PSet.twice,PUn.pset]] at S₁;refine wpAny_bind (hit.lotGo hJ'' (S₁.zz it o'' (by rw [PUn.pset];exact PSet.self ..)) (wpAny_bind ?_));refine wpBot (htg.2 A cenv F' _ S' _ μ' s₁ v hA.hd (hC'.place c2 fun a ne=>PSet.ne _ _ ne) S₁ (Val.mono le' hv)) fun _ s₂ hq=>el12 hq fun S₂ Sm₂ C₂=>wpAny_bind ?_;refine wpBot (hifs A cenv F' _ s₂ hA hsc C₂.rel Sm₂) fun b s₃ hq=>hq.casesOn fun F₃ μ₃ hb le₃ Sm₃=>?_;have C₃:=C₂.mono le₃
  cases b with
  | false=>exact wpAny_pure ⟨rfl,n,Nat.lt_succ_self n,i+1,μ₃,F₃,S₂,o'',hn',le'.trans le₃,Sm₃,C₃.sub (bs_keep htg.1),hJ'',hb.2 rfl⟩
  | true =>
   refine wpAny_bind (wpBot (hb.1 rfl A cenv F₃ _ s₃ hA hsc C₃.rel Sm₃) fun _ s₄ hq=>hq.casesOn fun F₄ μ₄ hk₄ le₄ Sm₄=>?_);exact wpAny_pure ⟨rfl,n,Nat.lt_succ_self n,i+1,μ₄,F₄,S₂,o'',hn',(le'.trans le₃).trans le₄,Sm₄,(C₃.mono le₄).sub (bs_keep htg.1),hJ'',hk₄⟩
theorem PLe.unL {S:PMap}:PLe Z (PUn Z S):=fun a o e=>by unfold PUn;rw [e];rfl
structure CompOk (C:Cx)(sc₀ sc:Scope)(e target iter:Expr)(ifs:List Expr)(emit:Addr->Env->Sem Unit)(newAcc:Sem Value)(o₀:Obj)(x₀:O)(ipos:Pos):Prop where
 cl:clausesOf e=[⟨target,iter,ifs,0⟩]
 den:∀ it acc env,C.M.den (.compLoop e 0 it (.ref acc) env)=(compT e target ifs ipos (emit acc) it (.ref acc) env).onRaise (fun x=>do noteFrame x env;theTreesLotGoes x)
 start:∀ it acc env,C.M.den (.compStart e 0 it (.ref acc) env)=(compStart e 0 it (.ref acc) env).onRaise (fun x=>do noteFrame x env;standAt theWindowsPlace)
 wt:∀ (A:Around) it acc env,A.under (.compLoop e 0 it acc env)=A
 wt':∀ (A:Around) it acc env,A.under (.compStart e 0 it acc env)=A
 q:∀ it acc env,(Code.compLoop e 0 it acc env).quiet=true
 new:∀ A s (Q:Value->Shared->Prop) E,Q (.ref s.heap.objs.size) { s with heap:=s.heap.push o₀ }->wpAny C.M A newAcc Q E s
 at0:∀ F,OAt C.P F x₀ o₀
 nf:o₀.isFreed=false
 hk:sc₀.kind=.function
 hn:(sc₀.names.map (·.1)).Nodup
 hfree:(sc₀.names.all fun x=>x.2 != .free||(sc.names.lookup x.1 == some .cell||sc.names.lookup x.1 == some .free))=true
 hs:∀ env x,foldedSetIterable iter env x=pure x
theorem comp_start {emit:Addr->Env->Sem Unit}{newAcc:Sem Value}{o₀:Obj}{x₀:O}{ipos:Pos}(ok:CompOk C sc₀ sc e target iter ifs emit newAcc o₀ x₀ ipos){it acc:Value}(ha:acc=.ref a){R:Result->Shared->Prop}(h0:codeAny C.M A (.compLoop e 0 it acc env) R s)(h:∀ Q E,Q it s->wpAny C.M A (pyIter it) Q E s):codeAny C.M A (.compStart e 0 it acc env) R s:=by
 subst ha;refine codeAny_of_tree ?_;rw [ok.wt',ok.start];refine wpAny_notedAt ?_;unfold compStart;rw [ok.cl];show wpAny _ _ (ask>>=_) _ _ s;refine wpAny_bind (wpAny_askSetting (wpAny_ite ?_));split
 ·first
   | exact wpAny_bind (wpAny_pure (wpAny_pure (And.intro (ok.q _ _ _) h0)))
   | exact wpAny_pure (And.intro (ok.q _ _ _) h0)
 ·first
   | exact wpAny_bind (wpAny_rule (wpAny_bind (wpAny_standAt (wpAny_bind (h _ _ (wpAny_pure (And.intro (ok.q _ _ _) h0)))))))
   | (refine wpAny_bind (wpAny_rule ?_);show wpAny _ _ (standAt iter.pos>>=_) _ _ s;exact wpAny_bind (wpAny_standAt (wpAny_bind (h _ _ (wpAny_pure (And.intro (ok.q _ _ _) h0))))))
noncomputable def cItems (C:Cx)(d:Nat)(sc₀ sc:Scope)(ε:Env1)(μ:Mem)(target:Expr)(ifs:List Expr)(emit:Addr->Env->Sem Unit)(x₀:O)(items:List V)(k:Addr->Mem->Prop):Prop :=
 ∀ acc,∃ Inv:Nat->Mem->Prop,Inv 0 ((acc,x₀)::μ) ∧
  (∀ i x μ',items[i]? = some x->Inv i μ'->∃ bs,cTgt C sc₀ target (.v x) bs∧cIfs C d (relS sc₀ sc) (bs++dropN sc₀ ε) μ' ifs fun b μ₂=>(b=true->cU C d (relS sc₀ sc) (bs++dropN sc₀ ε) μ₂ (emit acc) (Inv (i+1)))∧(b=false->Inv (i+1) μ₂)) ∧
  ∀ μ',Inv items.length μ'->k acc μ'
theorem comp_core {emit:Addr->Env->Sem Unit}{newAcc:Sem Value}{o₀:Obj}{x₀:O}{ipos:Pos}(ok:CompOk C sc₀ sc e target iter ifs emit newAcc o₀ x₀ ipos){use:Option (Value->Sem Unit)}{Q:Value->Shared->Prop}{kk:Addr->Mem->Prop}(hA:Rm A d)(hsc:env.scope=sc)(R:EnvRel C F Z env ε)(S:Sim C F Z μ s)(h:cE C d sc ε μ iter fun w μ₁=>∃ P,cIter C d μ₁ w P∧∀ items,P items->cItems C d sc₀ sc ε μ₁ target ifs emit x₀ items kk)(hQ:∀ a μ' F' s' L oL,kk a μ'->PLe F F'->Z L=none->(∃ es n,oL.data=.dict es n∧StrKeys es)->Sim C F' (PSet Z L oL) μ' s'->compPost C.M A (fun _ _=>False) use Q (.ref a) L (.ok .next) s') :
  wpAny C.M A (comprehension e sc₀ env pos newAcc false (eval iter env) use) Q (fun _ _=>False) s:=by
 subst hsc;refine wpAny_comprehension_free ok.cl (fun x=>ok.hs env x) (clos_ok R ok.hfree) ok.hk (fun x hx hl=>mem_nodup_lookup ok.hn (by rw [<-hl];exact hx)) ?_;refine wpBot (h A env F Z s hA rfl R S) fun v s₁ hq=>hq.casesOn fun w F₁ μ₁ hp le₁ S₁ hw=>el12 hp fun P hI hF=>?_;refine wpBot (hI A F₁ _ s₁ v hA S₁ hw) fun itv s₂ hq=>hq.casesOn fun it items J F₂ o e₂ hP le₂ S₂ hz hJ hit=>?_;rw [e₂];refine el13 (hF items hP s₂.heap.objs.size) fun Inv inv0 turn fin=>ok.new _ _ _ _ ?_;refine CEnv.enter (S₂.pushM ok.nf (ok.at0 F₂)) ((R.mono (le₁.trans le₂)).le (PSet.le hz)) ok.hk ok.hn ok.hfree fun cenv s₄ S₀ hcs hzl S₄ hC=>?_;refine comp_start ok rfl ?_ fun Q E hq=>hit.self 0 A s₄ Q E o (S₄.zz _ _ (by rw [PUn.pset];exact PSet.self ..)) hJ hq;refine codeAny_mono (comp_loop (sc:=relS sc₀ env.scope) (fun env=>ok.den _ _ env) (fun env=>ok.wt A _ _ env) (fun env=>ok.q _ _ env) hA rfl hit hz hJ S₄ hC inv0 turn) fun r s₅ hq=>hq.elim fun hr hq=>hq.casesOn fun μ' F' S' hInv le' S₅ C₅=>C₅.loc.elim fun oL hL=>?_;rw [hr];have zL:Z cenv.locals=none:=C₅.apart _ _ hL
 have hL':PUn Z S' cenv.locals=some oL:=by unfold PUn;rw [zL];exact hL
 refine el34 C₅.rel.ns fun ob es n h1 h2 h3 _=>?_;have h2:oL.data=.dict es n:=Option.some.inj (hL'.symm.trans h1)▸h2;refine hQ _ μ' F' s₅ cenv.locals oL (fin μ' hInv) ((le₁.trans le₂).trans le') zL ⟨es,n,h2,h3⟩ (S₅.weakZ fun a o e=>?_);by_cases q:a=cenv.locals
 ·rw [q,PSet.self] at e;rw [q,hL'];exact e
 ·rw [PSet.ne _ _ q] at e;exact PLe.unL a o e
theorem cE_comp {emit:Addr->Env->Sem Unit}{newAcc:Sem Value}{o₀:Obj}{x₀:O}{ipos:Pos}(ok:CompOk C sc₀ sc e target iter ifs emit newAcc o₀ x₀ ipos)(hev:∀ env,eval e env=comprehension e sc₀ env pos newAcc false (eval iter env))(h:cE C d sc ε μ iter fun w μ₁=>∃ P,cIter C d μ₁ w P∧∀ items,P items->cItems C d sc₀ sc ε μ₁ target ifs emit x₀ items fun a μ'=>k (.l a) μ'):cE C d sc ε μ e k:=fun A env F Z s hA hs R S=>by
 rw [hev];refine comp_core ok hA hs R S h fun a μ' F' s' L oL hk le zL hoL S'=>el22 hoL fun es n hd hsk=>⟨nsFind es,S'.nsZ (PSet.self ..) hd hsk,fun h' hs=>?_⟩;exact ⟨.l a,F',μ',hk,le,S'.letGo (PSet.self ..) zL (PSet.le zL) (fun b o ne e=>(hs.2 b ne).trans e) s'.toks,rfl⟩
theorem cS1_comp {emit:Addr->Env->Sem Unit}{newAcc:Sem Value}{o₀:Obj}{x₀:O}{ipos:Pos}(ok:CompOk C sc₀ sc e target iter ifs emit newAcc o₀ x₀ ipos)(hex:∀ env:Env,env.scope=sc->exec (.Assign [.Name x px] e spos) env=(do standAt spos;let _ ← comprehension e sc₀ env pos newAcc false (eval iter env) (some (assign (.Name x px) env));pure .next))(hk:sc.names.lookup x=some .local∨sc.names.lookup x=some .cell)(h:cE C d sc ε μ iter fun w μ₁=>∃ P,cIter C d μ₁ w P∧∀ items,P items->cItems C d sc₀ sc ε μ₁ target ifs emit x₀ items fun a μ'=>kf .next ((x,.l a)::ε) μ'):cS1 C d sc ε μ (.Assign [.Name x px] e spos) kf:=fun A env F Z s hA hs SS=>by
 rw [hex env hs];refine el13 SS fun S₀ hS hR hO=>wpAny_bind (wpAny_standAt (wpAny_bind (comp_core (Q:=fun _ s'=>wpAny C.M A (pure Flow.next) (PostS C Z env kf F) (fun _ _=>False) s') ok hA hs hR hS h fun a μ' F' s' L oL hkk le zL hoL S'=>el22 hoL fun es n hd hsk=>?_)));have zl:=PUn.noBoth zL;refine wpAny_assign_Name ((SimS.take S' zL hR hO le).store (w:=.l a) rfl (by subst hs;exact hk) fun s'' SS''=>el13 SS'' fun S₂ a1 a2 a3=>?_);refine ⟨nsFind es,Sim.nsZ (μ:=μ') a1 (by rw [PUn.pset];exact PSet.self ..) hd hsk,fun h' hsb=>?_⟩;exact wpAny_pure ⟨.next,_,μ',F',hkk,rfl,le,SimS.leave ⟨S₂,a1,a2,a3⟩ zl.1 (fun b o ne e=>(hsb.2 b ne).trans e) s''.toks⟩
end
end
section
open PySem PySem.Calls
inductive FrzW (a:Addr) (d:V):W->W->Prop
 | same (w:W):FrzW a d w w
 | put:FrzW a d (.l a) (.v d)
inductive FrzL (a:Addr) (d:V):List W->List W->Prop
 | nil:FrzL a d [] []
 | cons {x y:W}{xs ys:List W}:FrzW a d x y->FrzL a d xs ys->FrzL a d (x::xs) (y::ys)
inductive FrzN {α:Type}(a:Addr) (d:V):List (α×W)->List (α×W)->Prop
 | nil:FrzN a d [] []
 | cons {n:α}{x y:W}{xs ys:List (α×W)}:FrzW a d x y->FrzN a d xs ys->FrzN a d ((n,x)::xs) ((n,y)::ys)
inductive FrzO (a:Addr) (d:V):O->O->Prop
 | same (o:O):FrzO a d o o
 | list {xs ys:List W}:FrzL a d xs ys->FrzO a d (.list xs) (.list ys)
 | dict {xs ys:List (Key×W)}:FrzN a d xs ys->FrzO a d (.dict xs) (.dict ys)
 | ns {xs ys:List (Str×W)}:FrzN a d xs ys->FrzO a d (.ns xs) (.ns ys)
inductive FrzT (a:Addr) (d:V):Mem->Mem->Prop
 | nil:FrzT a d [] []
 | cons {b:Addr}{x y:O}{xs ys:Mem}:FrzO a d x y->FrzT a d xs ys->FrzT a d ((b,x)::xs) ((b,y)::ys)
inductive Rem (b:Addr):Mem->Mem->Prop
 | here {o:O}{μ:Mem}:Rem b ((b,o)::μ) μ
 | there {p:Addr×O}{μ μ':Mem}:Rem b μ μ'->Rem b (p::μ) (p::μ')
theorem FrzN.refl {α:Type}{d:V}:∀ (xs:List (α×W)),FrzN a d xs xs
 | []=>.nil
 | (_,_)::r=>.cons (.same _) (FrzN.refl r)
theorem FrzT.refl {d:V}:∀ (xs:Mem),FrzT a d xs xs
 | []=>.nil
 | (_,_)::r=>.cons (.same _) (FrzT.refl r)
theorem FrzT.append {d:V}{x y x' y':Mem}(h:FrzT a d x y)(h':FrzT a d x' y'):FrzT a d (x++x') (y++y'):=by
 induction h with
 | nil=>exact h'
 | cons a _ ih=>exact .cons a ih
theorem Rem.sub (h:Rem b μ μ'):μ'.Sublist μ:=by
 induction h with
 | here=>exact List.sublist_cons_self ..
 | there _ ih=>exact ih.cons_cons _
theorem Rem.gone (h:Rem b μ μ')(hn:(μ.map (·.1)).Nodup):∀ o,(b,o)∉μ':=by
 induction h with
 | here =>
  simp only [List.map_cons,List.nodup_cons] at hn;exact fun o hm=>hn.1 (List.mem_map_of_mem (f:=(·.1)) hm)
 | @there p μ μ' hr ih =>
  simp only [List.map_cons,List.nodup_cons] at hn;intro o hm
  rcases List.mem_cons.mp hm with q | q
  ·have hb:b∈μ.map (·.1):=by
    clear ih hn hm
    induction hr with
    | here=>exact .head _
    | there _ ih=>exact .tail _ ih
   exact hn.1 (by rw [<-q];exact hb)
  ·exact ih hn.2 o q
section
variable {d:V}
theorem FrzW.at (le:PLe F F')(hv:Val P F' d (.ref a)){w w':W}{v:Value}(h:FrzW a d w w')(x:WAt P F w v):WAt P F' w' v:=by
 cases h with
 | same=>exact x.mono le
 | put=>refine WAt.i_l x ?_;exact hv
theorem FrzL.at (le:PLe F F')(hv:Val P F' d (.ref a)){ys:List W}(h:FrzL a d xs ys):∀ {vs:List Value},WsAt P F xs vs->WsAt P F' ys vs:=by
 induction h with
 | nil=>intro vs x;refine WsAt.i_nil x ?_;exact .nil
 | cons p _ ih=>intro vs x;cases x with | cons q r=>exact .cons (p.at le hv q) (ih r)
theorem FrzN.atD (le:PLe F F')(hv:Val P F' d (.ref a)){xs ys:List (Key×W)}(h:FrzN a d xs ys):∀ {vs:List DictEntry},EntsW P F xs vs->EntsW P F' ys vs:=by
 induction h with
 | nil=>intro vs x;cases x;exact .nil
 | cons p _ ih=>intro vs x;cases x with | cons q1 q2 q3 r=>exact .cons (q1.mono le) q2 (p.at le hv q3) (ih r)
theorem FrzN.keys {α:Type}{xs ys:List (α×W)}(h:FrzN a d xs ys):ys.map (·.1)=xs.map (·.1):=by
 induction h with
 | nil=>rfl
 | cons _ _ ih=>simp [ih]
theorem FrzN.lookup {xs ys:List (Str×W)}(h:FrzN a d xs ys){w':W}:ys.lookup x=some w'->∃ w,xs.lookup x=some w∧FrzW a d w w':=by
 induction h with
 | nil=>intro e;cases e
 | @cons n p q xs ys hp _ ih =>
  intro e;by_cases c:x=n
  ·subst c;rw [lookup_cons_self] at e;cases e;exact ⟨_,lookup_cons_self,hp⟩
  ·rw [lookup_cons_ne c] at e;rw [lookup_cons_ne c];exact ih e
theorem FrzO.at (le:PLe F F')(hv:Val P F' d (.ref a)){x y:O}(h:FrzO a d x y)(ho:OAt P F x o):OAt P F' y o:=by
 cases h with
 | same=>exact ho.mono le
 | list h=>(refine el22 ho fun ws n b c=>?_;try clear ho);exact ⟨ws,n,b,h.at le hv c⟩
 | dict h=>(refine el03 ho fun e qq1 dd=>?_;try clear ho;rcases qq1 with ⟨es,n,b,c⟩);exact ⟨e,⟨es,n,b,h.atD le hv c⟩,by rw [h.keys];exact dd⟩
 | @ns xs ys h =>
  (refine el24 ho fun es n b c z dd=>?_;try clear ho)
  refine ⟨es,n,b,c,?_,fun x w q=>?_⟩
  ·have:=congrArg List.length h.keys;simp only [List.length_map] at this;lia
  ·refine el12 (h.lookup q) fun w₀ e f=>?_;refine el12 (dd x w₀ e) fun v g1 g2=>?_;exact ⟨v,g1,f.at le hv g2⟩
end
noncomputable def Fz (C:Cx)(ρ:W->W->Prop)(μ μ':Mem):Prop :=
 ∀ F Z s,Sim C F Z μ s->∃ F',PLe F F'∧Sim C F' Z μ' s∧∀ w w' v,ρ w w'->WAt C.P F w v->WAt C.P F' w' v
theorem Sim.moveF {o:O}(S:Sim C F Z μ s)(hr:Rem a μ μ')(hm:(a,o)∈μ) :
  ∃ ob,s.heap.get? a=some ob∧OAt C.P F o ob∧F a=none∧Sim C (PSet F a ob) Z μ' s:=by
 obtain ⟨h1,h2,ob,h3,h4⟩:=S.own a o hm;refine ⟨ob,h3,h4,h1,⟨fun b p e=>PSet.le h1 b p (S.base b p e),fun b p e=>?_,S.zz,fun b p e=>?_,fun b x hx=>?_,S.nod.sublist (hr.sub.map _),S.os,S.gens⟩⟩
 ·by_cases q:b=a
  ·subst q;rw [PSet.self] at e;cases e;exact h3
  ·rw [PSet.ne _ _ q] at e;exact S.fz b p e
 ·have q:b≠a:=fun q=>by rw [q,h2] at e;cases e
  rw [PSet.ne _ _ q];exact S.dis b p e
 ·obtain ⟨g1,g2,og,g3,g4⟩:=S.own b x (hr.sub.subset hx)
  have q:b≠a:=fun q=>by subst q;exact hr.gone S.nod.1 x hx
  exact ⟨by rw [PSet.ne _ _ q];exact g1,g2,og,g3,g4.mono (PSet.le h1)⟩
theorem Sim.subst {d:V}(S:Sim C F Z μ s)(hv:Val C.P F d (.ref a))(h:FrzT a d μ μ'):Sim C F Z μ' s:=by
 have hk:μ'.map (·.1)=μ.map (·.1):=by
  clear S
  induction h with
  | nil=>rfl
  | cons _ _ ih=>simp [ih]
 refine ⟨S.base,S.fz,S.zz,S.dis,fun b y hm=>?_,hk▸S.nod,S.os,S.gens⟩
 have:∃ x,(b,x)∈μ∧FrzO a d x y:=by
  clear S hk
  induction h with
  | nil=>cases hm
  | cons p _ ih =>
   rcases List.mem_cons.mp hm with q | q
   ·cases q;exact ⟨_,.head _,p⟩
   ·refine el12 (ih q) fun x h1 h2=>?_;exact ⟨x,.tail _ h1,h2⟩
 (refine el12 this fun x hx hf=>?_;try clear this)
 obtain ⟨h1,h2,ob,h3,h4⟩:=S.own b x hx;exact ⟨h1,h2,ob,h3,hf.at (.refl _) hv h4⟩
noncomputable def frozenD:List (Key×W)->Option (List (Key×V))
 | []=>some []
 | (k,.v x)::r=>(frozenD r).map ((k,x)::·)
 | (_,.l _)::_=>none
theorem Ents.of {xs:List (Key×W)}:∀ {ds:List (Key×V)}{vs:List DictEntry},frozenD xs=some ds->EntsW P F xs vs->Ents P F ds vs:=by
 induction xs with
 | nil=>intro ds vs e q;cases e;exact q.i_nil .nil
 | cons p r ih =>
  intro ds vs e q;obtain ⟨n,x⟩:=p;refine q.i_cons fun w ws a b c dd=>?_
  cases x with
  | l _=>cases e
  | v x=>exact el12 (Option.map_eq_some_iff.mp e) fun t q1 q2=>q2▸.cons a b c (ih q1 dd)
theorem frozenD_keys {xs:List (Key×W)}:∀ {ds:List (Key×V)},frozenD xs=some ds->ds.map (·.1)=xs.map (·.1):=by
 induction xs with
 | nil=>intro ds e;cases e;rfl
 | cons p r ih =>
  intro ds e;obtain ⟨n,x⟩:=p
  cases x with
  | l _=>cases e
  | v x=>exact el12 (Option.map_eq_some_iff.mp e) fun t q1 q2=>q2▸congrArg (n::·) (ih q1)
theorem frozen_map (vs:List V):frozen (vs.map .v)=some vs:=by
 induction vs with
 | nil=>rfl
 | cons x r ih=>exact congrArg (Option.map (x::·)) ih
theorem frozenD_map (vs:List (Key×V)):frozenD (vs.map fun p=>(p.1,.v p.2))=some vs:=by
 induction vs with
 | nil=>rfl
 | cons p r ih=>exact congrArg (Option.map ((p.1,p.2)::·)) ih
inductive Done:O->V->Prop
 | list {ws:List W}{vs:List V}:frozen ws=some vs->Done (.list ws) (.list vs)
 | dict {kvs:List (Key×W)}{ds:List (Key×V)}:frozenD kvs=some ds->Done (.dict kvs) (.dict ds)
 | set {ks:List Key}:Done (.set ks) (.set ks)
theorem fz_obj {o:O}{d:V}(hm:(a,o)∈μ)(hd:Done o d)(hr:Rem a μ μ₁)(ht:FrzT a d μ₁ μ₂):Fz C (FrzW a d) μ μ₂:=fun F Z s S=>by
 have lo:(a == sysModules)=false:=by
  have:mainGlobals<a:=S.nod.2 a (List.mem_map_of_mem (f:=(·.1)) hm);have h1:(3:Nat)<a:=this
  have h2:¬ a=sysModules:=fun q=>by rw [q] at h1;exact absurd h1 (by decide)
  simpa using h2
 refine el14 (S.moveF hr hm) fun ob h1 h2 h3 S'=>?_;have le:=PSet.le (o:=ob) h3
 have hv:Val C.P (PSet F a ob) d (.ref a):=by
  cases hd with
  | list e=>(refine el22 h2 fun ws n qq2 hw=>?_;try clear h2;subst qq2);exact .list (PSet.self ..) (Vals.of e (hw.mono le))
  | dict e=>(refine el03 h2 fun hx qq1 hn=>?_;try clear h2;rcases qq1 with ⟨es,n,hd,he⟩);exact .dict lo (PSet.self ..) hx hd (Ents.of e (he.mono le)) (by rw [frozenD_keys e];exact hn)
  | set=>obtain ⟨hx,es,n,t,hd,hl,he,hok⟩:=h2;exact .set (PSet.self ..) hx hd hl (fun i k q=>let ⟨v,x,y⟩:=he i k q;⟨v,x,y.mono le⟩) hok
 exact ⟨_,le,S'.subst hv ht,fun w w' v hw x=>hw.at le hv x⟩
theorem Flds.ofN {es:Array DictEntry}{fs:List (Str×W)}(h:∀ x w,fs.lookup x=some w->∃ v,nsFind es x=some v∧WAt P F w v):∀ {gs:List (Str×V)},(∀ p∈gs,fs.lookup p.1=some (.v p.2))->Flds P F es gs
 | [],_=>.nil
 | (x,v)::r,hp=>by
  refine el12 (h x (.v v) (hp _ (.head _))) fun w h1 h2=>?_;exact .cons h1 h2 (Flds.ofN h fun p q=>hp p (.tail _ q))
theorem fz_inst {dd:Addr}{fs:List (Str×W)}{gs:List (Str×V)}{μ₃:Mem}(hm:(a,O.inst c dd)∈μ₁)(hm2:(dd,O.ns fs)∈μ)(hg:∀ p∈gs,fs.lookup p.1=some (.v p.2))(hr:Rem dd μ μ₁)(hr2:Rem a μ₁ μ₂)(ht:FrzT a (.inst c gs) μ₂ μ₃):Fz C (FrzW a (.inst c gs)) μ μ₃:=fun F Z s S=>by
 (refine el14 (S.moveF hr hm2) fun od h1 qq2 h3 S'=>?_;rcases qq2 with ⟨es,n,hdd,hk,hz,hf⟩)
 refine el14 (S'.moveF hr2 hm) fun ob g1 g2 g3 S''=>?_;have le1:=PSet.le (o:=od) h3;have le2:=PSet.le (o:=ob) g3;have le:=le1.trans le2
 cases g2
 have hv:Val C.P (PSet (PSet F dd od) a _) (.inst c gs) (.ref a):=.inst (PSet.self ..) (le2 _ _ (PSet.self ..)) hdd hk (Flds.ofN (fun x w e=>let ⟨v,p,q⟩:=hf x w e;⟨v,p,q.mono le⟩) hg);exact ⟨_,le,S''.subst hv ht,fun w w' v hw x=>hw.at le hv x⟩
theorem Fz.refl:Fz C (fun w w'=>w=w') μ μ:=fun F Z s S=>⟨F,.refl _,S,fun w w' v e x=>e▸x⟩
theorem Fz.weak (h:μ'.Sublist μ):Fz C (fun w w'=>w=w') μ μ':=fun F Z s S=>⟨F,.refl _,⟨S.base,S.fz,S.zz,S.dis,fun a o q=>S.own a o (h.subset q),S.nod.sublist (h.map _),S.os,S.gens⟩,fun w w' v e x=>e▸x⟩
section
variable {ρ:W->W->Prop}
inductive RelN (ρ:W->W->Prop):Env1->Env1->Prop
 | nil:RelN ρ [] []
 | cons {n:Str}{x y:W}{xs ys:Env1}:ρ x y->RelN ρ xs ys->RelN ρ ((n,x)::xs) ((n,y)::ys)
theorem RelN.lookup (h:RelN ρ ε ε'){w':W}:ε'.lookup x=some w'->∃ w,ε.lookup x=some w∧ρ w w':=by
 induction h with
 | nil=>intro e;cases e
 | @cons n p q xs ys hp _ ih =>
  intro e;by_cases c:x=n
  ·subst c;rw [lookup_cons_self] at e;cases e;exact ⟨_,lookup_cons_self,hp⟩
  ·rw [lookup_cons_ne c] at e;rw [lookup_cons_ne c];exact ih e
theorem EnvRel.fz (R:EnvRel C F Z env ε)(h:RelN ρ ε ε')(hv:∀ w w' v,ρ w w'->WAt C.P F w v->WAt C.P F' w' v):EnvRel C F' Z env ε':=by
 refine ⟨R.kind,R.glob,R.blt,?_,fun x k=>?_⟩
 ·refine el34 (R.ns) fun o es n hz hdt hsk hl=>?_;refine ⟨o,es,n,hz,hdt,hsk,fun x w e q=>?_⟩;refine el12 (h.lookup e) fun w₀ e₀ r=>?_;refine el12 (hl x w₀ e₀ q) fun v h1 h2=>?_;exact ⟨v,h1,hv _ _ _ r h2⟩
 ·refine el34 (R.cell x k) fun c o u hc hz hdt hl=>?_;refine ⟨c,o,u,hc,hz,hdt,fun w e=>?_⟩;refine el12 (h.lookup e) fun w₀ e₀ r=>?_;refine el12 (hl w₀ e₀) fun v h1 h2=>?_;exact ⟨v,h1,hv _ _ _ r h2⟩
@[reducible] noncomputable def fzK (C:Cx)(k:PostW):PostW:=fun x μ₁=>∃ (ρ:W->W->Prop) (x':W) (μ₂:Mem),Fz C ρ μ₁ μ₂∧ρ x x'∧k x' μ₂
theorem cS.fz {st:List Stmt}(hz:Fz C ρ μ μ')(he:RelN ρ ε ε')(h:cS C d sc ε' μ' st kf):cS C d sc ε μ st kf:=fun A env F Z s hA hs SS=>by
 (refine el13 SS fun S₀ hS hR hO=>?_;try clear SS)
 refine el13 (hz F _ s hS) fun F' le S' hv=>?_;exact wpBot (h A env F' Z s hA hs ⟨S₀,S',hR.fz he hv,hO⟩) fun _ _ p=>p.trans le
theorem cE.fzR (h:cE C d sc ε μ e (fzK C k)):cE C d sc ε μ e k:=fun A env F Z s hA hs R S =>
 wpBot (h A env F Z s hA hs R S) fun v s' ⟨x,F₁,μ₁,⟨ρ,x',μ₂,hz,hx,hk⟩,le₁,S₁,hw⟩=>by
  refine el13 (hz F₁ Z s' S₁) fun F' le S' hv=>?_;exact ⟨x',F',μ₂,hk,le₁.trans le,S',hv _ _ _ hx hw⟩
theorem cCall.fzR {fv:Value}(h:cCall C d μ fv xs kws (fzK C k)):cCall C d μ fv xs kws k:=fun A F Z s vs kvs hA S a b =>
 wpBot (h A F Z s vs kvs hA S a b) fun v s' ⟨x,F₁,μ₁,⟨ρ,x',μ₂,hz,hx,hk⟩,le₁,S₁,hw⟩=>by
  refine el13 (hz F₁ Z s' S₁) fun F' le S' hv=>?_;exact ⟨x',F',μ₂,hk,le₁.trans le,S',hv _ _ _ hx hw⟩
inductive RelL (ρ:W->W->Prop):List W->List W->Prop
 | nil:RelL ρ [] []
 | cons {x y:W}{xs ys:List W}:ρ x y->RelL ρ xs ys->RelL ρ (x::xs) (y::ys)
theorem compL_ok (hk:sc₀.kind=.function)(hn:(sc₀.names.map (·.1)).Nodup)(hfree:(sc₀.names.all fun x=>x.2 != .free||(sc.names.lookup x.1 == some .cell||sc.names.lookup x.1 == some .free))=true)(hs:∀ env x,foldedSetIterable iter env x=pure x) :
  CompOk C sc₀ sc (.ListComp elt [⟨target,iter,ifs,0⟩] sc₀ pos) target iter ifs (fun acc=>emitL elt (.ref acc)) (newList []) { cls:=.type "list",data:=.seq #[] } (.list []) iter.pos where
 cl:=rfl
 den:=fun it acc env=>by
  show (compTurn (.ListComp elt [⟨target,iter,ifs,0⟩] sc₀ pos) 0 it (.ref acc) env).onRaise _=_;rw [compTurn_list];rfl
 start:=fun _ _ _=>rfl
 wt:=fun A it acc env=>Around.under_of_weight rfl
 wt':=fun A it acc env=>Around.under_of_weight rfl
 q:=fun _ _ _=>rfl
 new:=fun A s Q E h=>wpAny_newObj_type h
 at0:=fun F=>⟨_,_,rfl,.nil⟩
 nf:=rfl
 hk:=hk
 hn:=hn
 hfree:=hfree
 hs:=hs
theorem compD_ok (hk:sc₀.kind=.function)(hn:(sc₀.names.map (·.1)).Nodup)(hfree:(sc₀.names.all fun x=>x.2 != .free||(sc.names.lookup x.1 == some .cell||sc.names.lookup x.1 == some .free))=true)(hs:∀ env x,foldedSetIterable iter env x=pure x) :
  CompOk C sc₀ sc (.DictComp kx vx [⟨target,iter,ifs,0⟩] sc₀ pos) target iter ifs (fun acc=>emitD kx vx acc) newDict { cls:=.type "dict",data:=.dict #[] } (.dict []) iter.pos where
 cl:=rfl
 den:=fun it acc env=>by
  show (compTurn (.DictComp kx vx [⟨target,iter,ifs,0⟩] sc₀ pos) 0 it (.ref acc) env).onRaise _=_;rw [compTurn_dict];rfl
 start:=fun _ _ _=>rfl
 wt:=fun A it acc env=>Around.under_of_weight rfl
 wt':=fun A it acc env=>Around.under_of_weight rfl
 q:=fun _ _ _=>rfl
 new:=fun A s Q E h=>wpAny_newObj_type h
 at0:=fun F=>⟨⟨rfl,rfl,rfl⟩,⟨#[],_,rfl,.nil⟩,List.nodup_nil⟩
 nf:=rfl
 hk:=hk
 hn:=hn
 hfree:=hfree
 hs:=hs
end
end
section
open PySem PySem.Calls
theorem Val.strs {xs:List Str}(h:Vals P F (xs.map V.str) vs):StrsAt xs vs:=by
 induction xs generalizing vs with
 | nil=>refine Vals.i_nil h ?_;exact .nil
 | cons x r ih=>refine Vals.i_cons h fun w ws h1 h2=>?_;refine Val.i_str h1 fun t=>?_;exact .cons (ih h2)
theorem StrsAt.vals {xs:List Str}(h:StrsAt xs vs):Vals P F (xs.map V.str) vs:=by
 induction h with
 | nil=>exact .nil
 | cons _ ih=>exact .cons (.str _ _) ih
theorem Val.strTup {xs:List Str}{v:Value}(h:Val P F (.tup (xs.map V.str)) v):StrTup F xs v:=by
 refine Val.i_tup h fun a ws n h1 h4=>?_;exact ⟨_,_,_,rfl,h1,Val.strs h4⟩
theorem StrTup.val {xs:List Str}{v:Value}(h:StrTup F xs v):Val P F (.tup (xs.map V.str)) v:=by
 (refine el33 h fun a ws n qq3 h1 h2=>?_;try clear h;subst qq3);exact .tup h1 h2.vals
theorem Val.key {k:Key}{v:Value}(h:Val P F k.val v):KeyAt F k v:=by
 cases k with
 | s x=>exact Val.i_str h fun t=>⟨t,rfl⟩
 | t xs=>exact Val.strTup h
 | p xs ys =>
  refine Val.i_tup h fun a ws n h1 h4=>?_;obtain ⟨l⟩:=ws;have h5:Vals P F _ l:=h4;revert h1;clear h4;refine Vals.i_cons h5 fun p ps hp hq=>?_;refine Vals.i_cons hq fun q qs hp2 hq2=>?_;refine Vals.i_nil hq2 ?_;exact fun h1=>⟨_,_,_,_,rfl,h1,Val.strTup hp,Val.strTup hp2⟩
theorem KeyAt.val {k:Key}{v:Value}(h:KeyAt F k v):Val P F k.val v:=by
 cases k with
 | s x=>obtain ⟨t,e⟩:=h;rw [e];exact .str _ _
 | t xs=>exact StrTup.val h
 | p xs ys=>(refine el44 h fun a u w n e h1 x y=>?_;try clear h);rw [e];exact .tup h1 (.cons x.val (.cons y.val .nil))
theorem StrsAt.items {w:World}{xs:List Str}(h:StrsAt xs vs):ItemsAre (strKind prog w) xs vs:=by
 induction h with
 | nil=>exact .nil
 | cons _ ih=>exact .cons (strKind_is _ _ _ _) ih
theorem StrTup.isKey {w:World}{h:Heap}(hF:PIn F h){xs:List Str}{v:Value}(x:StrTup F xs v):∃ a,v=.ref a∧IsTupleKey (strKind prog w) h xs a:=by
 (refine el33 x fun a ws n e h1 h2=>?_;try clear x)
 exact ⟨a,e,_,ws,n,hF _ _ h1,rfl,rfl,h2.items⟩
section
variable {w:World}
theorem hash_key {k:Key}{v:Value}{Q:Int->Shared->Prop}(hA:A.units<cLine)(hF:PIn F s.heap)(hk:KeyAt F k v)(hp:k.kind≠2)(h:∀ t,Q (k.hash w.params) { s with toks:=t }):wpAny (model prog w) A (pyHash v) Q E s:=by
 cases k with
 | s x=>obtain ⟨t,rfl⟩:=hk;exact (strKind prog w).pyHash (strKind_is _ _ _ _) (h _)
 | t xs =>
  (refine el12 (StrTup.isKey (prog:=prog) (w:=w) hF hk) fun a qq1 hx=>?_;subst qq1)
  exact (tupleKind (strKind prog w)).pyHash hA hx (h _)
 | p _ _=>exact absurd rfl hp
theorem EntsW.get {es:List DictEntry}(h:EntsW P F kvs es):∀ {i:Nat}{e:DictEntry},es[i]? = some e->∃ k w,kvs[i]? = some (k,w)∧KeyAt F k e.key∧e.hash=k.hash P∧WAt P F w e.val:=by
 induction h with
 | nil=>intro i e q;cases i<;>cases q
 | cons a b c _ ih =>
  intro i e q
  cases i with
  | zero=>cases q;exact ⟨_,_,rfl,a,b,c⟩
  | succ i=>exact ih q
theorem EntsW.get' {es:List DictEntry}(h:EntsW P F kvs es):∀ {i:Nat}{k:Key}{w:W},kvs[i]? = some (k,w)->∃ e,es[i]? = some e∧KeyAt F k e.key∧e.hash=k.hash P∧WAt P F w e.val:=by
 induction h with
 | nil=>intro i k w q;cases i<;>cases q
 | cons a b c _ ih =>
  intro i k w q
  cases i with
  | zero=>cases q;exact ⟨_,rfl,a,b,c⟩
  | succ i=>exact ih q
theorem EntsW.length {es:List DictEntry}(h:EntsW P F kvs es):es.length=kvs.length:=by
 induction h with
 | nil=>rfl
 | cons _ _ _ _ ih=>simp [ih]
theorem EntsW.tups {es:List DictEntry}(hF:PIn F s.heap)(h:EntsW w.params F kvs es):(∀ p∈kvs,p.1.kind=1)->
  ∃ xs:List (List Str×Addr×Value),es=xs.map (entryOfKey (tupleKind (strKind prog w)))∧(∀ x∈xs,(tupleKind (strKind prog w)).is s.heap x.1 x.2.1)∧kvs.map (·.1)=xs.map fun x=>Key.t x.1:=by
 induction h with
 | nil=>exact fun _=>⟨[],rfl,(fun x hx=>by cases hx),rfl⟩
 | @cons k u e kvs es a b c _ ih =>
  intro hk;refine el13 (ih fun p hp=>hk p (.tail _ hp)) fun xs h1 h2 h3=>?_;have hk1:=hk _ (.head _)
  cases k with
  | s x=>cases hk1
  | p _ _=>cases hk1
  | t ys =>
   refine el12 (StrTup.isKey (prog:=prog) (w:=w) hF a) fun ad he hx=>?_;refine ⟨(ys,ad,e.val)::xs,?_,fun x hm=>?_,?_⟩
   ·rw [List.map_cons,<-h1];obtain ⟨eh,ek,ev⟩:=e
    cases he;cases b;rfl
   ·rcases List.mem_cons.mp hm with q | q
    ·subst q;exact hx
    ·exact h2 x q
   ·simp [h3]
theorem find_key {k:Key}{v:Value}{ob:Obj}{es:Array DictEntry}{Q:Option Nat->Shared->Prop}(hA:A.units<cLine)(hF:PIn F s.heap)(hkd:∀ p∈kvs,p.1.kind=k.kind)(hp:k.kind≠2)(ho:s.heap.get? a=some ob)(hd:ob.data=.dict es n)(he:EntsW w.params F kvs es.toList)(hn:(kvs.map (·.1)).Nodup)(hk:KeyAt F k v)(hnone:k∉kvs.map (·.1)->Q none s)(hsome:∀ j u,kvs[j]? = some (k,u)->Q (some j) s):wpAny (model prog w) A (dictFind a v (k.hash w.params)) Q E s:=by
 cases k with
 | s x =>
  obtain ⟨t,rfl⟩:=hk
  have keyS:∀ (i:Nat) (e:DictEntry),es.toList[i]? = some e->∃ y u,kvs[i]? = some (Key.s y,u)∧(∃ t,e.key=.str y t)∧e.hash=(Key.s y).hash w.params:=fun i e q=>by
   refine el24 (he.get q) fun k' u h1 h2 h3 _=>?_;have hk1:=hkd _ (List.mem_of_getElem? h1)
   cases k' with
   | s y=>exact ⟨y,u,h1,h2,h3⟩
   | t _=>cases hk1
   | p _ _=>cases hk1
  refine wpAny_dictFind_of (knd:=strKind prog w) (strKind_is _ _ _ _) ho hd (fun e hm=>?_) ?_
  ·obtain ⟨i,hi⟩:=List.mem_iff_getElem?.mp (Array.mem_toList_iff.mpr hm)
   (refine el23 (keyS i e hi) fun y u _ qq3 h3=>?_;rcases qq3 with ⟨t',h2⟩)
   exact ⟨y,by rw [h2];exact strKind_is _ _ _ _,h3⟩
  ·cases hi:es.findIdx? fun e=>(strKind prog w).is x e.key with
   | none =>
    refine hnone fun hm=>?_
    (refine el12 (List.mem_map.mp hm) fun qq0 hmem e=>?_;rcases qq0 with ⟨k',u⟩)
    obtain ⟨i,hi'⟩:=List.mem_iff_getElem?.mp hmem;have e:k'=Key.s x:=e;subst e
    (refine el13 (he.get' hi') fun en h1 qq2 _=>?_;rcases qq2 with ⟨t',h2⟩)
    have:=Array.findIdx?_eq_none_iff.mp hi en (Array.mem_toList_iff.mp (List.mem_of_getElem? h1));rw [h2] at this;have q:(strKind prog w).is x (.str x t')=true:=strKind_is _ _ _ _;rw [q] at this;cases this
   | some j =>
    have hj:=Array.findIdx?_eq_some_iff_getElem.mp hi
    (refine el12 hj fun hlt hpj _=>?_;try clear hj)
    (refine el23 (keyS j es[j] (by rw [Array.getElem?_toList];exact Array.getElem?_eq_getElem hlt)) fun y u h1 qq3 _=>?_;rcases qq3 with ⟨t',h2⟩)
    rw [h2] at hpj;have hxy:x=y:=(strKind prog w).inj _ _ _ hpj (strKind_is _ _ _ _);subst hxy;exact hsome j u h1
 | t ks =>
  (refine el12 (StrTup.isKey (prog:=prog) (w:=w) hF hk) fun ad qq1 hx=>?_;subst qq1)
  refine el13 (EntsW.tups (prog:=prog) hF he hkd) fun xs h1 h2 h3=>?_
  have hnx:(xs.map (·.1)).Nodup:=by
   rw [h3] at hn;refine (List.pairwise_map.mp hn |> fun q=>List.pairwise_map.mpr (q.imp fun hne e=>hne (by rw [e])))
  refine wpAny_dictFind_heap (knd:=tupleKind (strKind prog w)) hA hx ho hd h1 h2 hnx (fun hno=>hnone fun hm=>?_) fun j p hj=>?_
  ·rw [h3] at hm;refine el12 (List.mem_map.mp hm) fun y hy e=>?_
   cases e
   obtain ⟨j,hj⟩:=List.mem_iff_getElem?.mp hy;exact hno j y.2 hj
  ·have:(kvs.map (·.1))[j]? = some (Key.t ks):=by rw [h3,List.getElem?_map,hj];rfl
   rw [List.getElem?_map] at this
   cases q:kvs[j]? with
   | none=>rw [q] at this;cases this
   | some p =>
    rw [q] at this;obtain ⟨k',u⟩:=p;have this:k'=Key.t ks:=Option.some.inj this;subst this;exact hsome j u q
 | p _ _=>exact absurd rfl hp
structure DAt (w:World)(F:PMap)(s:Shared)(a:Addr)(kvs:List (Key×W))(ob:Obj)(es:Array DictEntry)(n:Nat):Prop where
 hF:PIn F s.heap
 ho:s.heap.get? a=some ob
 hx:ob.ExactDict
 hd:ob.data=.dict es n
 he:EntsW w.params F kvs es.toList
 hn:(kvs.map (·.1)).Nodup
theorem DAt.typeIs {ob:Obj}{es:Array DictEntry}(D:DAt w F s a kvs ob es n):s.TypeIs (.ref a) "dict" := ⟨ob,D.ho,D.hx.1⟩
theorem get_key {k:Key}{v:Value}{ob:Obj}{es:Array DictEntry}{Q:Option Value->Shared->Prop}(hA:A.units<cLine)(D:DAt w F s a kvs ob es n)(hkd:∀ p∈kvs,p.1.kind=k.kind)(hp:k.kind≠2)(hk:KeyAt F k v)(hnone:k∉kvs.map (·.1)->∀ t,Q none { s with toks:=t })(hsome:∀ u x t,(k,u)∈kvs->WAt w.params F u x->Q (some x) { s with toks:=t }):wpAny (model prog w) A (dictGet a v) Q E s:=by
 unfold dictGet
 try with_reducible refine wpAny_holding ?_
 refine wpAny_bind (hash_key hA D.hF hk hp fun t=>?_);refine wpAny_bind (find_key (s:={ s with toks:=t }) hA D.hF hkd hp D.ho D.hd D.he D.hn hk (fun hm=>wpAny_pure (hnone hm t)) fun j u hj=>?_);refine wpAny_bind (wpAny_dictEntries (s:={ s with toks:=t }) D.ho D.hd ?_);refine el14 (D.he.get' hj) fun e h1 _ _ h4=>?_;rw [<-Array.getElem?_toList,h1];exact wpAny_pure (hsome u e.val t (List.mem_of_getElem? hj) h4)
end
noncomputable def kput:List (Key×W)->Key->W->List (Key×W)
 | [],k,w=>[(k,w)]
 | (k',w')::r,k,w=>if k'=k then (k',w)::r else (k',w')::kput r k w
theorem fst_hd {α β:Type}{p:α×β}{k:α}{r:List (α×β)}(e:p.1=k):k∈(p::r).map (·.1):=by subst e;exact .head _
theorem fst_in {α β:Type}{p q:α×β}{r:List (α×β)}(e:p.1=q.1)(m:q∈r):p.1∈r.map (·.1):=by rw [e];exact List.mem_map_of_mem (f:=(·.1)) m
theorem kput_cons {r:List (Key×W)}{p:Key×W}{k:Key}{w:W}(e:p.1≠k):kput (p::r) k w=p::kput r k w:=if_neg e
theorem kput_hit {r:List (Key×W)}{p:Key×W}{k:Key}{w:W}(e:p.1=k):kput (p::r) k w=(p.1,w)::r:=if_pos e
theorem kput_new {k:Key}{w:W}(h:k∉kvs.map (·.1)):kput kvs k w=kvs++[(k,w)]:=by
 induction kvs with
 | nil=>rfl
 | cons p r ih=>exact (kput_cons fun e=>h (fst_hd e)).trans (congrArg (p::·) (ih fun m=>h (.tail _ m)))
theorem kput_old {k:Key}{u w:W}:∀ {j:Nat},(kvs.map (·.1)).Nodup->kvs[j]? = some (k,u)->kput kvs k w=kvs.modify j fun p=>(p.1,w):=by
 induction kvs with
 | nil=>intro j _ h;cases h
 | cons p r ih =>
  intro j hn h;have hn:=List.nodup_cons.mp hn
  cases j with
  | zero=>cases h;exact kput_hit rfl
  | succ j=>exact (kput_cons fun e=>hn.1 (fst_in (q:=(k,u)) e (List.mem_of_getElem? (l:=r) h))).trans (congrArg (p::·) (ih hn.2 h))
theorem kput_keys {k:Key}{w:W}:(kput kvs k w).map (·.1)=if k∈kvs.map (·.1) then kvs.map (·.1) else kvs.map (·.1)++[k]:=by
 induction kvs with
 | nil=>exact (if_neg (fun h=>nomatch h)).symm
 | cons p r ih =>
  by_cases e:p.1=k
  ·rw [kput_hit e];exact (if_pos (fst_hd e)).symm
  ·rw [kput_cons e,List.map_cons,ih];by_cases m:k∈r.map (·.1)
   ·rw [if_pos m];exact (if_pos (show k∈p.1::r.map (·.1) from .tail _ m)).symm
   ·rw [if_neg m];exact (if_neg (show k∉p.1::r.map (·.1) from fun q=>(List.mem_cons.mp q).elim (fun q=>e q.symm) m)).symm
theorem kput_nodup {k:Key}{w:W}(h:(kvs.map (·.1)).Nodup):((kput kvs k w).map (·.1)).Nodup:=by
 rw [kput_keys];by_cases m:k∈kvs.map (·.1)
 ·rw [if_pos m];exact h
 ·rw [if_neg m,List.nodup_append];exact ⟨h,by simp,fun x hx y hy e=>m (by simp only [List.mem_singleton] at hy;rw [<-hy,<-e];exact hx)⟩
theorem EntsW.push {es:List DictEntry}(h:EntsW P F kvs es){k:Key}{w:W}{e:DictEntry}(a:KeyAt F k e.key)(b:e.hash=k.hash P)(c:WAt P F w e.val):EntsW P F (kvs++[(k,w)]) (es++[e]):=by
 induction h with
 | nil=>exact .cons a b c .nil
 | cons x y z _ ih=>exact .cons x y z ih
theorem EntsW.modify {es:List DictEntry}(h:EntsW P F kvs es){w:W}{v:Value}(c:WAt P F w v):∀ j,EntsW P F (kvs.modify j fun p=>(p.1,w)) (es.modify j fun e=>{ e with val:=v }):=by
 induction h with
 | nil=>intro j;cases j<;>exact .nil
 | cons x y z r ih =>
  intro j
  cases j with
  | zero=>exact .cons x y c r
  | succ j=>exact .cons x y z (ih j)
section
variable {w:World}
theorem set_key {k:Key}{v x:Value}{u:W}{ob:Obj}{es:Array DictEntry}{Q:Unit->Shared->Prop}(hA:A.units<cLine)(D:DAt w F s a kvs ob es n)(hkd:∀ p∈kvs,p.1.kind=k.kind)(hp:k.kind≠2)(hk:KeyAt F k v)(hu:WAt w.params F u x)(hz:kvs.length≤100000)(hQ:∀ h' ob' t,Heap.SameBut a s.heap h'->h'.get? a=some ob'->OAt w.params F (.dict (kput kvs k u)) ob'->Q () { s with heap:=h',toks:=t }):wpAny (model prog w) A (dictSet a v x) Q E s:=by
 have hsz:es.size=kvs.length:=by rw [<-Array.length_toList,D.he.length]
 unfold dictSet
 try with_reducible refine wpAny_holding ?_
 refine wpAny_bind (hash_key hA D.hF hk hp fun t=>?_);unfold dictSetHashed
 try with_reducible refine wpAny_holding ?_
 refine wpAny_bind (find_key (s:={ s with toks:=t }) hA D.hF hkd hp D.ho D.hd D.he D.hn hk (fun hm=>?_) fun j u' hj=>?_)
 ·refine wpAny_bind (wpAny_rule (wpAny_updateDictKeys (f:=fun es=>es.push ⟨k.hash w.params,v,x⟩) (hf:=by rw [Array.size_push];exact Nat.le_refl _) (hz:=by rw [hsz];show _≤2 ^ 24;lia) (s:={ s with toks:=t }) D.ho D.hd (hQ _ _ t (Heap.SameBut.update ..) (Heap.get?_update_self _ D.ho (Obj.isFreed_of_dict (Obj.data_mapDictKeys D.hd _))) ?_)));refine ⟨D.hx.mapDictKeys _,⟨_,_,Obj.data_mapDictKeys D.hd _,?_⟩,kput_nodup D.hn⟩;rw [kput_new hm,Array.toList_push];exact D.he.push hk rfl hu
 ·refine wpAny_bind (wpAny_rule (wpAny_bind (wpAny_updateDict (f:=fun es=>es.modify j fun e=>{ e with val:=x }) (hz:=by rw [Array.size_modify];exact Nat.le_refl _) (s:={ s with toks:=t }) D.ho D.hd (wpAny_point (hQ _ _ t (Heap.SameBut.update ..) (Heap.get?_update_self _ D.ho (Obj.isFreed_of_dict (Obj.data_mapDict D.hd _))) ?_)))));refine ⟨D.hx.mapDict _,⟨_,_,Obj.data_mapDict D.hd _,?_⟩,kput_nodup D.hn⟩;rw [kput_old D.hn hj,Array.toList_modify];exact D.he.modify hu j
end
end
section
open PySem PySem.Calls
section
variable {w:World}
theorem iterD {d:Addr}{od:Obj}{es:Array DictEntry}{ep:Nat}{Q:Value->Shared->Prop}(hd:(d == sysModules)=false)(ho:s.heap.get? d=some od)(hc:od.cls=.type "dict")(hdat:od.data=.dict es ep)(hQ:Q (.ref s.heap.objs.size) { s with heap:=s.heap.push { cls:=.type "dict_keyiterator",data:=.fields #[.ref d,.int 0 0,.int es.size 0,.int ep 0] } }) :
  wpAny (model prog w) A (pyIter (.ref d)) Q E s:=by
 have hT:s.TypeIs (.ref d) "dict" := ⟨od,ho,hc⟩;refine wpAny_pyIter_slot hT PySem.F.slot_dict_iter (wpAny_call_entry PySem.F.slot_dict_iter hT PySem.F.entry_dict_iter ?_ (PySem.F.args_dict_iter_1 _));unfold Builtin.«dict.__iter__»;refine wpAny_bind ?_;unfold Builtin.Dict.dictSlotNone;refine wpAny_bind (wpAny_notOrdered_dict hT ?_);show wpAny _ _ (pure (Value.ref d)) _ _ s;refine wpAny_pure ?_;show wpAny _ _ (Builtin.Dict.showsAll d>>=_) _ _ s;unfold Builtin.Dict.showsAll;rw [if_neg (by rw [hd];exact Bool.false_ne_true)];refine wpAny_bind (wpAny_pure ?_);refine wpAny_bind (wpAny_dictEntries ho hdat ?_);refine wpAny_bind (wpAny_dictEpoch ho hdat ?_);refine wpAny_bind (wpAny_newObj_type (wpAny_pure ⟨_,rfl, "dict_keyiterator",_,⟨_,Heap.get?_push_size _ rfl,rfl⟩,PySem.F.slot_dict_keyiterator_next.lookup,?_⟩))
 simpa [rawInt] using hQ
theorem nextD_item {it d:Addr}{ep:Nat}{od:Obj}{es:Array DictEntry}{e:DictEntry}{Q:Option Value->Shared->Prop}(hit:s.heap.IsKeyIter it d i es.size ep)(hod:s.heap.get? d=some od)(hdd:od.data=.dict es ep)(hx:es[i]? = some e)(hQ:∀ h',h'.IsKeyIter it d (i+1) es.size ep->Heap.SameBut it s.heap h'->Q (some e.key) { s with heap:=h' }):wpAny (model prog w) A (pyNext (.ref it)) Q E s:=by
 refine el13 (id hit) fun o ho hc hd=>?_;unfold pyNext
 refine wpAny_bind (wpAny_attempt (wpAny_callSpecial?_slot (name:=Str.ofString "__next__") hit.typeIs PySem.F.slot_dict_keyiterator_next
  (wpAny_call_entry PySem.F.slot_dict_keyiterator_next hit.typeIs PySem.F.entry_dict_keyiterator_next ?_ (PySem.F.args_dict_keyiterator_next_1 _))))
 refine wpAny_bind (wpAny_pure ?_);refine wpAny_bind ?_;refine wpAny_bind ?_
 first | refine wpAny_bind (wpAny_typeNameOfWhole_keyiter hit.typeIs (wpAny_pure ?_)) | refine wpAny_bind (wpAny_typeNameOf_keyiter hit.typeIs (wpAny_pure ?_))
 refine wpAny_bind (wpAny_fieldsOf ho hd ?_)
 have hown:Builtin.Dict_items.ownsTuple "dict_keyiterator" = false:=by decide
 rw [if_neg (show ¬ (Builtin.Dict_items.ownsTuple "dict_keyiterator" = true) from hown▸Bool.false_ne_true)];show wpAny _ _ (if (Value.ref d == Value.none)=true then _ else _) _ _ s;rw [if_neg (show ¬ ((Value.ref d == Value.none)=true) from Bool.false_ne_true)];refine wpAny_bind (wpAny_pure ?_);refine wpAny_bind (wpAny_dictEntries hod hdd ?_);rw [if_neg (by simp)];refine wpAny_bind (wpAny_pure ?_);refine wpAny_bind (wpAny_dictEpoch hod hdd ?_);rw [if_neg (by simp)];refine wpAny_pure ?_;dsimp only;rw [if_neg (show ¬ ((i:Int)<0) from by lia),Int.toNat_natCast,hx];dsimp only;refine wpAny_bind ?_
 first | refine wpAny_bind (wpAny_typeNameOfWhole_keyiter hit.typeIs (wpAny_pure ?_)) | refine wpAny_bind (wpAny_typeNameOf_keyiter hit.typeIs (wpAny_pure ?_))
 refine wpAny_bind (wpAny_isOneOf_keyiter hit.typeIs ?_);show wpAny _ _ (setField (.ref it) 1 (rawInt ((i:Int)+1))>>=_) _ _ s;refine wpAny_bind (wpAny_setField ho hd (by simp) ?_)
 have hit':(s.heap.update it (Obj.mapFields (·.setIfInBounds 1 (rawInt ((i:Int)+1))))).IsKeyIter it d (i+1) es.size ep :=
  ⟨_,Heap.get?_update_self _ ho (Obj.isFreed_of_fields (Obj.data_mapFields hd _)),(Obj.cls_mapFields ..).trans hc,by rw [Obj.data_mapFields hd];simp [rawInt]⟩
 refine wpAny_bind (wpAny_holding ?_);refine wpAny_bind (wpAny_isOneOf_keyiter (s:={ s with heap:=s.heap.update it (Obj.mapFields (·.setIfInBounds 1 (rawInt ((i:Int)+1)))) }) hit'.typeIs ?_);show wpAny _ _ (pure e.key) _ _ _;exact wpAny_pure (wpAny_pure ⟨_,rfl,wpAny_pure (hQ _ hit' (Heap.SameBut.update ..))⟩)
theorem nextD_end {it d:Addr}{ep:Nat}{od:Obj}{es:Array DictEntry}{Q:Option Value->Shared->Prop}(hh:A.handled=none)(hit:s.heap.IsKeyIter it d i es.size ep)(hod:s.heap.get? d=some od)(hdd:od.data=.dict es ep)(hx:es[i]? = none)(hQ:∀ h',Heap.ExtBut it s.heap h'->Q none { s with heap:=h' }):wpAny (model prog w) A (pyNext (.ref it)) Q E s:=by
 refine el13 (id hit) fun o ho hc hd=>?_;unfold pyNext
 refine wpAny_bind (wpAny_attempt (wpAny_callSpecial?_slot (name:=Str.ofString "__next__") hit.typeIs PySem.F.slot_dict_keyiterator_next
  (wpAny_call_entry PySem.F.slot_dict_keyiterator_next hit.typeIs PySem.F.entry_dict_keyiterator_next ?_ (PySem.F.args_dict_keyiterator_next_1 _))))
 refine wpAny_bind (wpAny_pure ?_);refine wpAny_bind ?_;refine wpAny_bind ?_
 first | refine wpAny_bind (wpAny_typeNameOfWhole_keyiter hit.typeIs (wpAny_pure ?_)) | refine wpAny_bind (wpAny_typeNameOf_keyiter hit.typeIs (wpAny_pure ?_))
 refine wpAny_bind (wpAny_fieldsOf ho hd ?_)
 have hown:Builtin.Dict_items.ownsTuple "dict_keyiterator" = false:=by decide
 rw [if_neg (show ¬ (Builtin.Dict_items.ownsTuple "dict_keyiterator" = true) from hown▸Bool.false_ne_true)];show wpAny _ _ (if (Value.ref d == Value.none)=true then _ else _) _ _ s;rw [if_neg (show ¬ ((Value.ref d == Value.none)=true) from Bool.false_ne_true)];refine wpAny_bind (wpAny_pure ?_);refine wpAny_bind (wpAny_dictEntries hod hdd ?_);rw [if_neg (by simp)];refine wpAny_bind (wpAny_pure ?_);refine wpAny_bind (wpAny_dictEpoch hod hdd ?_);rw [if_neg (by simp)];refine wpAny_pure ?_;dsimp only;rw [if_neg (show ¬ ((i:Int)<0) from by lia),Int.toNat_natCast,hx];dsimp only;refine wpAny_bind ?_
 first | refine wpAny_bind (wpAny_typeNameOfWhole_keyiter hit.typeIs (wpAny_pure ?_)) | refine wpAny_bind (wpAny_typeNameOf_keyiter hit.typeIs (wpAny_pure ?_))
 show wpAny _ _ (setField (.ref it) 0 .none>>=_) _ _ s;refine wpAny_bind (wpAny_setField ho hd (by simp) ?_);show wpAny _ _ (newExc (.type "StopIteration") []>>=_) _ _ _;refine wpAny_bind ?_;unfold newExc newTuple;refine wpAny_bind (wpAny_newObj_type ?_ (by size_fits));refine wpAny_bind (m:=firstArgMember _ _) (wpAny_of_eq (a:=Value.none) (by first | rfl | (unfold firstArgMember;rfl)) ?_);refine wpAny_newObj_type ?_ (by size_fits);unfold raiseNew;refine wpAny_bind (wpAny_handled ?_);rw [show A.in1.handled=none from hh];refine wpAny_bind (wpAny_pure (wpAny_throw ?_));refine wpAny_bind (wpAny_isInstance (T := "StopIteration") (b:=true) ⟨_,Heap.get?_push_size _ rfl,rfl⟩ isSubtype_stop ?_);exact wpAny_pure (hQ _ (((Heap.SameBut.update ..).extBut.push _).push _))
end
end
section
open PySem PySem.Calls
section
variable {w:World}{k:Key}{v:Value}{ob:Obj}{es:Array DictEntry}
theorem containsD (hA:A.units+1<cLine)(lo:(a == sysModules)=false)(D:DAt w F s a kvs ob es n)(hkd:∀ p∈kvs,p.1.kind=k.kind)(hp:k.kind≠2)(hk:KeyAt F k v)(h:∀ t,Q (decide (k∈kvs.map (·.1))) { s with toks:=t }):wpAny (model prog w) A (contains (.ref a) v) Q E s:=by
 unfold contains
 try with_reducible refine wpAny_holding ?_
 refine wpAny_bind (wpAny_specialOf D.typeIs slot_dict_contains.lookup ?_);show wpAny _ _ (if (some (Value.builtin "dict.__contains__") == some Value.none)=true then _ else _) _ E s;rw [if_neg (by rw [beq_builtin_none];exact Bool.false_ne_true)]
 refine wpAny_bind (wpAny_callSpecialUnlessNone?_slot (name:=Str.ofString "__contains__") D.typeIs slot_dict_contains
  (wpAny_call_entry slot_dict_contains D.typeIs entry_dict_contains ?_ (args_dict_contains _ _)))
 show wpAny _ _ (dictGet a v>>=_) _ _ s;refine wpAny_bind (get_key (A:=A.in1) hA D hkd hp hk (fun hm t=>?_) fun u x t hm hw=>?_)
 ·have h':=h t;rw [decide_eq_false hm] at h';show wpAny _ _ (Builtin.Dict.pendingKey? a v>>=_) _ _ _;exact wpAny_bind (wpAny_pendingKey_other lo (wpAny_pure ⟨_,rfl,wpAny_truthy_bool h'⟩))
 ·have h':=h t;rw [decide_eq_true (List.mem_map_of_mem (f:=(·.1)) hm)] at h';exact wpAny_pure ⟨_,rfl,wpAny_truthy_bool h'⟩
theorem getItemD {u:W}{Q:Value->Shared->Prop}(hA:A.units+1<cLine)(D:DAt w F s a kvs ob es n)(hkd:∀ p∈kvs,p.1.kind=k.kind)(hp:k.kind≠2)(hk:KeyAt F k v)(hm:(k,u)∈kvs)(h:∀ x t,WAt w.params F u x->Q x { s with toks:=t }):wpAny (model prog w) A (getItem (.ref a) v) Q E s:=by
 unfold getItem
 try with_reducible refine wpAny_holding ?_
 refine wpAny_bind (wpAny_sequenceKey D.typeIs (by decide) ?_)
 refine wpAny_bind (wpAny_callSpecial?_slot (name:=Str.ofString "__getitem__") D.typeIs slot_dict_getitem
  (wpAny_call_entry slot_dict_getitem D.typeIs entry_dict_getitem ?_ (args_dict_getitem _ _)))
 show wpAny _ _ (dictGet a v>>=_) _ _ s;refine wpAny_bind (get_key (A:=A.in1) hA D hkd hp hk (fun hno t=>?_) fun u' x t hm' hw=>?_)
 ·exact absurd (List.mem_map_of_mem (f:=(·.1)) hm) hno
 ·have e:u'=u:=by
   obtain ⟨i,hi⟩:=List.mem_iff_getElem?.mp hm;obtain ⟨j,hj⟩:=List.mem_iff_getElem?.mp hm'
   have hi':(kvs.map (·.1))[i]? = some k:=by rw [List.getElem?_map,hi];rfl
   have hj':(kvs.map (·.1))[j]? = some k:=by rw [List.getElem?_map,hj];rfl
   have:i=j:=(List.getElem?_inj (List.getElem?_eq_some_iff.mp hi').1 D.hn).mp (hi'.trans hj'.symm);subst this;rw [hi] at hj;cases hj;rfl
  subst e;exact wpAny_pure ⟨x,rfl,wpAny_pure (h x t hw)⟩
theorem setItemD {x:Value}{u:W}{Q:Unit->Shared->Prop}(hA:A.units+1<cLine)(D:DAt w F s a kvs ob es n)(hkd:∀ p∈kvs,p.1.kind=k.kind)(hp:k.kind≠2)(hk:KeyAt F k v)(hu:WAt w.params F u x)(hz:kvs.length≤100000)(hQ:∀ h' ob' t,Heap.SameBut a s.heap h'->h'.get? a=some ob'->OAt w.params F (.dict (kput kvs k u)) ob'->Q () { s with heap:=h',toks:=t }):wpAny (model prog w) A (setItem (.ref a) v x) Q E s:=by
 unfold setItem
 try with_reducible refine wpAny_holding ?_
 refine wpAny_bind (wpAny_sequenceKey D.typeIs (by decide) ?_)
 refine wpAny_bind (wpAny_callSpecial?_slot (name:=Str.ofString "__setitem__") D.typeIs slot_dict_setitem
  (wpAny_call_entry slot_dict_setitem D.typeIs entry_dict_setitem ?_ (args_dict_setitem _ _ _)))
 show wpAny _ _ (Builtin.Dict.notOrdered "__setitem__" ⟨[.ref a,v,x],[]⟩>>=_) _ _ s;refine wpAny_bind (wpAny_notOrdered_dict D.typeIs ?_);show wpAny _ _ (dictSet a v x>>=_) _ _ s;exact wpAny_bind (set_key (A:=A.in1) hA D hkd hp hk hu hz fun h' ob' t a1 a2 a3=>wpAny_pure ⟨.none,rfl,wpAny_pure (hQ h' ob' t a1 a2 a3)⟩)
theorem callGetD {dflt:Value}{Q:Value->Shared->Prop}(hA:A.units+1<cLine)(lo:(a == sysModules)=false)(D:DAt w F s a kvs ob es n)(hkd:∀ p∈kvs,p.1.kind=k.kind)(hp:k.kind≠2)(hk:KeyAt F k v)(hnone:k∉kvs.map (·.1)->∀ t,Q dflt { s with toks:=t })(hsome:∀ u x t,(k,u)∈kvs->WAt w.params F u x->Q x { s with toks:=t }):wpAny (model prog w) A (call (.builtin "dict.get") [.ref a,v,dflt]) Q E s:=by
 refine wpAny_call_entry PySem.F.slot_dict_get D.typeIs PySem.F.entry_dict_get ?_ (PySem.F.args_dict_get_3 _ _ _);show wpAny _ _ (dictGet a v>>=_) _ _ s;refine wpAny_bind (get_key (A:=A.in1) hA D hkd hp hk (fun hno t=>?_) fun u x t hm hw=>?_)
 ·show wpAny _ _ (Builtin.Dict.missed a v>>=_) _ _ _;exact wpAny_bind (wpAny_missed_other lo (wpAny_pure ⟨dflt,rfl,hnone hno t⟩))
 ·exact wpAny_pure ⟨x,rfl,hsome u x t hm hw⟩
theorem callSetDefaultD {x:Value}{u:W}{Q:Value->Shared->Prop}(hA:A.units+1<cLine)(lo:(a == sysModules)=false)(D:DAt w F s a kvs ob es n)(hkd:∀ p∈kvs,p.1.kind=k.kind)(hp:k.kind≠2)(hk:KeyAt F k v)(hu:WAt w.params F u x)(hz:kvs.length≤100000)(hsome:∀ u y t,(k,u)∈kvs->WAt w.params F u y->Q y { s with toks:=t })(hnone:k∉kvs.map (·.1)->∀ h' ob' t,Heap.SameBut a s.heap h'->h'.get? a=some ob'->OAt w.params F (.dict (kput kvs k u)) ob'->Q x { s with heap:=h',toks:=t }):wpAny (model prog w) A (call (.builtin "dict.setdefault") [.ref a,v,x]) Q E s:=by
 have hsz:es.size=kvs.length:=by rw [<-Array.length_toList,D.he.length]
 refine wpAny_call_entry PySem.F.slot_dict_setdefault D.typeIs PySem.F.entry_dict_setdefault ?_ (PySem.F.args_dict_setdefault_3 _ _ _);unfold Builtin.«dict.setdefault»;refine wpAny_bind ?_;unfold Builtin.Dict.keyAndDefault;refine wpAny_bind (wpAny_notOrdered_dict D.typeIs ?_);show wpAny _ _ (pure (a,v,some x)) _ _ s;refine wpAny_pure ?_;show wpAny _ _ (if (a == sysModules)=true then _ else (dictSetDefault a v x>>=_)) _ _ s;rw [if_neg (by rw [lo];exact Bool.false_ne_true)];refine wpAny_bind ?_;unfold dictSetDefault
 try with_reducible refine wpAny_holding ?_
 refine wpAny_bind (hash_key (A:=A.in1) hA D.hF hk hp fun t=>?_);refine wpAny_bind (find_key (A:=A.in1) (s:={ s with toks:=t }) hA D.hF hkd hp D.ho D.hd D.he D.hn hk (fun hm=>?_) fun j u' hj=>?_)
 ·refine wpAny_bind (wpAny_rule (wpAny_bind (wpAny_updateDictKeys (f:=fun es=>es.push ⟨k.hash w.params,v,x⟩) (hf:=by rw [Array.size_push];exact Nat.le_refl _) (hz:=by rw [hsz];show _≤2 ^ 24;lia) (s:={ s with toks:=t }) D.ho D.hd
   (wpAny_pure (wpAny_pure ⟨x,rfl,hnone hm _ _ t (Heap.SameBut.update ..) (Heap.get?_update_self _ D.ho (Obj.isFreed_of_dict (Obj.data_mapDictKeys D.hd _))) ?_⟩)))))
  refine ⟨D.hx.mapDictKeys _,⟨_,_,Obj.data_mapDictKeys D.hd _,?_⟩,kput_nodup D.hn⟩;rw [kput_new hm,Array.toList_push];exact D.he.push hk rfl hu
 ·refine wpAny_bind (wpAny_dictEntries (s:={ s with toks:=t }) D.ho D.hd ?_);refine el14 (D.he.get' hj) fun e h1 _ _ h4=>?_;rw [<-Array.getElem?_toList,h1];exact wpAny_bind (wpAny_rule (wpAny_pure (wpAny_pure ⟨e.val,rfl,hsome u' e.val t (List.mem_of_getElem? hj) h4⟩)))
end
noncomputable def Has (μ:Mem):W->O->Prop
 | .l a,o=>(a,o)∈μ
 | .v (.list vs),o=>o=.list (vs.map .v)
 | .v (.dict kvs),o=>o=.dict (kvs.map fun p=>(p.1,.v p.2))
 | .v (.set ks),o=>o=.set ks
 | _,_=>False
theorem Ents.w {kvs:List (Key×V)}:∀ {es:List DictEntry},Ents P F kvs es->EntsW P F (kvs.map fun p=>(p.1,W.v p.2)) es:=by
 induction kvs with
 | nil=>intro es q;exact q.i_nil .nil
 | cons p r ih =>
  intro es q;obtain ⟨k,v⟩:=p;exact q.i_cons fun e es a b c d=>.cons a b c (ih d)
section
theorem Sim.noSys (S:Sim C F Z μ s){o:O}(hm:(a,o)∈μ):(a == sysModules)=false:=by
 have:mainGlobals<a:=S.nod.2 a (List.mem_map_of_mem (f:=(·.1)) hm);have h1:(3:Nat)<a:=this
 have h2:¬ a=sysModules:=fun q=>by rw [q] at h1;exact absurd h1 (by decide)
 simpa using h2
theorem Has.dict (S:Sim C F Z μ s){x:W}{v:Value}(h:Has μ x (.dict kvs))(hw:WAt C.P F x v):∃ a ob es n,v=.ref a∧(a == sysModules)=false∧DAt C.w F s a kvs ob es n:=by
 cases x with
 | l a =>
  refine WAt.i_l hw ?_;obtain ⟨_,_,ob,h3,hx,⟨es,n,hd,he⟩,hn⟩:=S.own a _ h;exact ⟨a,ob,es,n,rfl,S.noSys h,S.fz,h3,hx,hd,he,hn⟩
 | v y =>
  cases y with
  | dict l =>
   injection (show O.dict kvs=O.dict _ from h) with e;subst e;exact Val.i_dict hw fun a o es n h0 h1 h2 h3 h4 h5=>⟨_,_,_,_,rfl,h0,S.fz,S.fz _ _ h1,h2,h3,h4.w,by rw [List.map_map];exact h5⟩
  | list=>exact nomatch (show O.dict kvs=O.list _ from h)
  | set=>exact nomatch (show O.dict kvs=O.set _ from h)
  | _=>exact False.elim h
theorem v_notInD {x:W}{key:Key}(hH:Has μ x (.dict kvs))(hkd:∀ p∈kvs,p.1.kind=key.kind)(hp:key.kind≠2)(h:k (.v (.bool (!decide (key∈kvs.map (·.1))))) μ):cV2 C d μ (.v key.val) x (compareOp .NotIn) k:=fun A F Z s u v hA S hu hv=>by
 (refine el43 (hH.dict S hv) fun a ob es n qq4 lo D=>?_;subst qq4)
 show wpAny _ _ (do return Value.bool (!(← contains (.ref a) u))) _ _ s;exact wpAny_bind (containsD (by first | exact hA.cl | exact hA.u (by decide)) lo D hkd hp (Val.key hu) fun t=>wpAny_pure ⟨_,F,μ,h,.refl _,S.tok t,.bool _⟩)
theorem v_itemD {x u:W}{key:Key}(hH:Has μ x (.dict kvs))(hkd:∀ p∈kvs,p.1.kind=key.kind)(hp:key.kind≠2)(hm:(key,u)∈kvs)(h:k u μ):cV2 C d μ x (.v key.val) getItem k:=fun A F Z s y v hA S hu hv=>by
 (refine el43 (hH.dict S hu) fun a ob es n qq4 lo D=>?_;subst qq4)
 exact getItemD (by first | exact hA.cl | exact hA.u (by decide)) D hkd hp (Val.key hv) hm fun x t hx=>⟨u,F,μ,h,.refl _,S.tok t,hx⟩
theorem sub_dict {x:W}(hH:Has μ x (.dict kvs)):SubOk C μ x:=⟨"dict",_,slot_dict_getitem.lookup,fun F Z s v S hv=>by
 (refine el43 (hH.dict S hv) fun a ob es n qq4 lo D=>?_;subst qq4);exact ⟨D.typeIs,fun _ e=>by cases e⟩⟩
theorem m_dict {x:W}{name:Str}{id:String}{kk:Value->List W->Mem->Prop}(hH:Has μ x (.dict kvs))(slot:Slot "dict" name id)(hty:typeOf (.builtin id)=pure (.type "method_descriptor"))(h:kk (.builtin id) [x] μ) :
  cMeth C d μ x name kk:=fun A F Z s v pl hA S hv=>by
 (refine el43 (hH.dict S hv) fun a ob es n qq4 lo D=>?_;subst qq4)
 exact getMethod_builtin D.typeIs PySem.F.plainAttrs_dict slot hty (fun b e=>by cases e;exact ⟨_,D.ho,D.hx.2.1⟩) ⟨[x],F,μ,h,.refl _,S,.cons hv .nil⟩
theorem c_getD {x dflt:W}{key:Key}(hH:Has μ x (.dict kvs))(hkd:∀ p∈kvs,p.1.kind=key.kind)(hp:key.kind≠2)(hnone:key∉kvs.map (·.1)->k dflt μ)(hsome:∀ u,(key,u)∈kvs->k u μ) :
  cCall C d μ (.builtin "dict.get") [x,.v key.val,dflt] [] k:=fun A F Z s vs kws hA S hv hkw=>by
 refine KwAt.i_nil hkw ?_;refine WsAt.i3 hv fun v1 v2 v3 h1 h2 h3=>?_
 (refine el43 (hH.dict S h1) fun a ob es n qq4 lo D=>?_;subst qq4)
 exact callGetD (by first | exact hA.cl | exact hA.u (by decide)) lo D hkd hp (Val.key h2) (fun hno t=>⟨dflt,F,μ,hnone hno,.refl _,S.tok t,h3⟩) fun u x t hm hx=>⟨u,F,μ,hsome u hm,.refl _,S.tok t,hx⟩
theorem c_setdefaultD {w:W}{key:Key}(hH:(a,O.dict kvs)∈μ)(hkd:∀ p∈kvs,p.1.kind=key.kind)(hp:key.kind≠2)(hz:kvs.length≤100000)(hnone:key∉kvs.map (·.1)->∃ μ',UpdAt a (.dict kvs) (.dict (kput kvs key w)) μ μ'∧k w μ')(hsome:∀ u,(key,u)∈kvs->k u μ) :
  cCall C d μ (.builtin "dict.setdefault") [.l a,.v key.val,w] [] k:=fun A F Z s vs kws hA S hv hkw=>by
 refine KwAt.i_nil hkw ?_;refine WsAt.i3 hv fun v1 v2 v3 h1 h2 h3=>?_;refine el43 (Has.dict S (x:=.l a) hH h1) fun a' ob es n e lo D=>?_;obtain rfl:a'=a:=Value.ref.inj (e.symm.trans h1);rw [e]
 exact callSetDefaultD (by first | exact hA.cl | exact hA.u (by decide)) lo D hkd hp (Val.key h2) h3 hz (fun u y t hm hy=>⟨u,F,μ,hsome u hm,.refl _,S.tok t,hy⟩) fun hno h' ob' t a1 a2 a3=>by
  refine el12 (hnone hno) fun μ' hU hk=>?_;exact ⟨w,F,μ',hk,.refl _,S.updM hU a1 a2 a3 t,h3⟩
theorem si_dict {key:Key}{w:W}{kk:Mem->Prop}(hU:UpdAt a (.dict kvs) (.dict (kput kvs key w)) μ μ')(hkd:∀ p∈kvs,p.1.kind=key.kind)(hp:key.kind≠2)(hz:kvs.length≤100000)(h:kk μ') :
  cSetI C d μ (.l a) (.v key.val) w kk:=fun A F Z s u b v hA S hu hb hv=>by
 refine WAt.i_l hu ?_;refine el43 (Has.dict S (x:=.l a) hU.mem rfl) fun a' ob es n e lo D=>?_
 cases e
 exact setItemD (by first | exact hA.cl | exact hA.u (by decide)) D hkd hp (Val.key hb) hv hz fun h' ob' t a1 a2 a3=>⟨F,μ',h,.refl _,S.updM hU a1 a2 a3 t⟩
theorem ds_dict {key:Key}{w:W}{kk:Mem->Prop}(hU:UpdAt a (.dict kvs) (.dict (kput kvs key w)) μ μ')(hkd:∀ p∈kvs,p.1.kind=key.kind)(hp:key.kind≠2)(hz:kvs.length≤100000)(h:kk μ') :
  cDSet C d μ a (.v key.val) w kk:=fun A F Z s b v hA S hb hv=>by
 refine el43 (Has.dict S (x:=.l a) hU.mem rfl) fun a' ob es n e lo D=>?_
 cases e
 exact set_key (by first | exact hA.cl | exact hA.u (by decide)) D hkd hp (Val.key hb) hv hz fun h' ob' t a1 a2 a3=>⟨F,μ',h,.refl _,S.updM hU a1 a2 a3 t⟩
theorem it_dict {kvs:List (Key×V)}:cIter C d μ (.v (.dict kvs)) (· = kvs.map fun p=>p.1.val):=fun A F Z s v hA S hv=>by
 refine Val.i_dict hv fun a o es n h0 h1 h2 h3 h4 h5=>?_;have hes:=h4.w
 have hsz:es.size=kvs.length:=by rw [<-Array.length_toList,hes.length,List.length_map]
 refine iterD h0 (S.fz _ _ h1) h2.1 h3 ⟨s.heap.objs.size,_,fun i o=>o.cls=.type "dict_keyiterator" ∧ o.data=.fields #[.ref a,.int i 0,.int es.size 0,.int n 0],F,_,rfl,rfl,.refl _,S.pushZ rfl,(fresh_none S).2.1,⟨rfl,rfl⟩,?_⟩;refine ⟨fun i o h=>⟨_,_,h.1,h.2,by decide⟩,fun i x A s' Q E o hh hF ho hJ hx hQ=>?_,fun i A s' Q E o hh hF ho hJ hx hQ=>?_,fun i A s' Q E o ho hJ h=>wpAny_pyIter_keyiter ⟨o,ho,hJ.1,hJ.2⟩ h⟩
 ·rw [List.getElem?_map] at hx
  cases q:kvs[i]? with
  | none=>rw [q] at hx;cases hx
  | some p =>
   obtain ⟨k',u⟩:=p;rw [q] at hx;cases hx;refine el13 (hes.get' (i:=i) (k:=k') (w:=.v u) (by rw [List.getElem?_map,q];rfl)) fun e g1 g2 _=>?_;refine nextD_item ⟨o,ho,hJ.1,hJ.2⟩ (hF _ _ h1) h3 (e:=e) (by rw [<-Array.getElem?_toList];exact g1) fun h' hit hs=>?_
   (refine el13 hit fun o' ho' hc' hd'=>?_;try clear hit)
   exact hQ e.key h' o' s'.toks g2.val hs ho' ⟨hc',hd'⟩
 ·refine nextD_end hh ⟨o,ho,hJ.1,hJ.2⟩ (hF _ _ h1) h3 ?_ fun h' hs=>hQ h' s'.toks fun b ob ne e=>hs b ob ne e;rw [Array.getElem?_eq_none_iff,hsz];have:=List.getElem?_eq_none_iff.mp hx;rw [List.length_map] at this;exact this
theorem cE_dict0 (h:∀ a,k (.l a) ((a,.dict [])::μ)):cE C d sc ε μ (.Dict [] [] pos) k:=fun A env F Z s hA hs R S=>by
 exact wpAny_Dict_empty ⟨_,F,_,h _,.refl _,S.pushM (x:=.dict []) rfl ⟨⟨rfl,rfl,rfl⟩,⟨#[],_,rfl,.nil⟩,List.nodup_nil⟩,rfl⟩
end
end
section
open PySem PySem.Calls
theorem noClass_str {w:World}{tk:Tok}(h:Q false s):wpAny (model prog w) A (ofAClassStatement d (.str x tk)) Q E s:=by
 cases d<;>exact wpAny_pure h
section
variable {w:World}
inductive ItemsTT (prog:Program) (w:World) (h:Heap):List (List Str)->List Value->Prop
 | nil:ItemsTT prog w h [] []
 | cons {ks:List Str}{b:Addr}{r:List (List Str)}{vs:List Value}:IsTupleKey (strKind prog w) h ks b->ItemsTT prog w h r vs->ItemsTT prog w h (ks::r) (.ref b::vs)
noncomputable def IsTT (prog:Program)(w:World)(h:Heap)(kss:List (List Str))(a:Addr):Prop:=∃ o items n,h.get? a=some o∧o.cls=.type "tuple" ∧ o.data=.seq items n∧ItemsTT prog w h kss items.toList
theorem IsTT.typeIs {kss:List (List Str)}(h:IsTT prog w s.heap kss a):s.TypeIs (.ref a) "tuple" := by
 obtain ⟨o,_,_,ho,hc,_⟩:=h;exact ⟨o,ho,hc⟩
noncomputable def ttHash (prog:Program)(w:World)(kss:List (List Str)):Int:=reduceHash (Builtin.Tuple.tupleHashOf (kss.map (tupleKeyHash (strKind prog w))))
theorem hash_loop {R:Array Int->Shared->Prop}{f:Value->Array Int->Sem (ForInStep (Array Int))}(hf:∀ (ks:List Str) (b:Addr) (acc:Array Int) (t:Nat) (Q:ForInStep (Array Int)->Shared->Prop),IsTupleKey (strKind prog w) s.heap ks b->(∀ t,Q (.yield (acc.push (tupleKeyHash (strKind prog w) ks))) { s with toks:=t })->wpAny (model prog w) A (f (.ref b) acc) Q E { s with toks:=t }){kss:List (List Str)}(hi:ItemsTT prog w s.heap kss vs):∀ {acc:Array Int}{t:Nat},(∀ out t,out.toList=acc.toList++kss.map (tupleKeyHash (strKind prog w))->R out { s with toks:=t })->wpAny (model prog w) A (forIn vs acc f) R E { s with toks:=t }:=by
 induction hi with
 | nil=>exact fun hR=>wpAny_pure (hR _ _ (List.append_nil _).symm)
 | cons h1 _ ih =>
  intro acc t hR;rw [List.forIn_cons];exact wpAny_bind (hf _ _ _ _ _ h1 fun t=>ih fun out t e=>hR out t (by rw [e,Array.toList_push,List.append_assoc];rfl))
theorem pyHash_tt {kss:List (List Str)}{Q:Int->Shared->Prop}(hu:A.units+1<cLine)(hk:IsTT prog w s.heap kss a)(h:∀ t,Q (ttHash prog w kss) { s with toks:=t }) :
  wpAny (model prog w) A (pyHash (.ref a)) Q E s:=by
 have hT:=hk.typeIs;refine el34 hk fun o items n ho _ hd hi=>?_;unfold pyHash
 first | unfold pyHashByItsType | skip
 first | refine wpAny_bind (wpAny_cRoomFor_or (.inr (by omega)) ?_) | skip
 refine wpAny_bind (wpAny_specialOf hT F.slot_tuple_hash.lookup (ifF (by rw [beq_builtin_none];exact Bool.false_ne_true) (wpAny_bind (wpAny_specialOf hT F.slot_tuple_hash.lookup ?_))));refine wpAny_bind (m:=callSpecialIfBoundUnlessNone? (.ref a) "__hash__" _) (wpAny_callSpecialIfBoundUnlessNone?_slot hT F.slot_tuple_hash (wpAny_call_entry F.slot_tuple_hash hT F.entry_tuple_hash ?_ (F.args_tuple_hash_1 _)));refine wpAny_bind (m:=Builtin.Tuple.tupleItemsOf (.ref a)) (wpAny_tupleItemsOf ho hd (wpAny_bind ?_));rw [<-Array.forIn_toList];refine hash_loop (s:=s) (fun ks b acc t Q h1 q=>wpAny_bind (wpAny_pyHash_tuple (s:={ s with toks:=t }) (knd:=strKind prog w) (ks:=ks) (by show A.units+1<cLine;exact hu) h1 ?_)) hi (t:=s.toks) fun out t e=>?_
 ·first
   | exact wpAny_pure (q _)
   | exact wpAny_bind (wpAny_pure (wpAny_pure (q _)))
 ·show wpAny _ _ (retInt (Builtin.Tuple.tupleHashOf out.toList)) _ _ _;rw [show out.toList=kss.map (tupleKeyHash (strKind prog w)) from e];refine wpAny_ret_mkInt ?_;unfold ttHash reduceHash at h;revert h;show _->wpAny _ _ (if (decide (-(2:Int) ^ 63≤Builtin.Tuple.tupleHashOf (kss.map (tupleKeyHash (strKind prog w))))&&decide (Builtin.Tuple.tupleHashOf (kss.map (tupleKeyHash (strKind prog w)))<2 ^ 63))=true then _ else _) Q E _;generalize Builtin.Tuple.tupleHashOf (kss.map (tupleKeyHash (strKind prog w)))=x;intro h;by_cases hr:(decide (-(2:Int) ^ 63≤x)&&decide (x<2 ^ 63))=true
  ·rw [if_pos hr] at h;exact ifT hr (wpAny_pure (h _))
  ·rw [if_neg hr] at h;exact ifF hr (wpAny_bind (wpAny_rule (wpAny_pure (h _))))
theorem ItemsTT.inj {h:Heap}{x y:List (List Str)}(hx:ItemsTT prog w h x vs)(hy:ItemsTT prog w h y vs):x=y:=by
 induction hx generalizing y with
 | nil=>cases hy;rfl
 | cons h1 _ ih=>cases hy with
  | cons h2 t2=>rw [h1.inj h2,ih t2]
theorem ItemsTT.length {h:Heap}{x:List (List Str)}(hx:ItemsTT prog w h x vs):vs.length=x.length:=by
 induction hx with
 | nil=>rfl
 | cons _ _ ih=>rw [List.length_cons,List.length_cons,ih]
theorem IsTT.inj {h:Heap}{x y:List (List Str)}(hx:IsTT prog w h x a)(hy:IsTT prog w h y a):x=y :=
 el34 hx fun o xs n h1 _ h2 h3=>el34 hy fun o' ys n' k1 _ k2 k3=>by
  have e:=h2.symm.trans ((congrArg Obj.data (Option.some.inj (h1.symm.trans k1))).trans k2);injection e with e;exact h3.inj (e▸k3)
theorem zip_loop {β:Type}{b₀ b₁:β}{R:β->Shared->Prop}{f:Value×Value->β->Sem (ForInStep β)}(hf:∀ (k₁ k₂:List Str) (a b:Addr) (Q:ForInStep β->Shared->Prop),IsTupleKey (strKind prog w) s.heap k₁ a->IsTupleKey (strKind prog w) s.heap k₂ b->(k₁=k₂->Q (.yield b₀) s)->(k₁≠k₂->Q (.done b₁) s)->wpAny (model prog w) A (f (.ref a,.ref b) b₀) Q E s){x:List (List Str)}{xs:List Value}(hx:ItemsTT prog w s.heap x xs):∀ {y:List (List Str)}{ys:List Value},ItemsTT prog w s.heap y ys->((x.length=y.length->x=y)->R b₀ s)->(x≠y->R b₁ s)->wpAny (model prog w) A (forIn (List.zip xs ys) b₀ f) R E s:=by
 induction hx with
 | nil=>exact fun hy h0 h1=>wpAny_pure (h0 fun e=>(List.eq_nil_of_length_eq_zero e.symm).symm)
 | cons k1 _ ih =>
  intro y ys hy h0 h1
  cases hy with
  | nil=>exact wpAny_pure (h0 fun e=>nomatch e)
  | cons k2 hy =>
   show wpAny _ _ (forIn (_::_) b₀ f) _ _ _;rw [List.forIn_cons];refine wpAny_bind (hf _ _ _ _ _ k1 k2 (fun e=>ih hy (fun g=>h0 fun hl=>?_) fun ne=>h1 fun q=>ne (List.cons.inj q).2) fun ne=>wpAny_pure (h1 fun q=>ne (List.cons.inj q).1));rw [e,g (Nat.succ.inj hl)]
theorem tt_eq_tree {x y:List (List Str)}{P:PySem.Fin->Shared->Prop}(hu:A.units<cLine)(hx:IsTT prog w s.heap x a)(hy:IsTT prog w s.heap y b)(h:P (.done (.ret (.bool (decide (x=y))))) s) :
  wpAny (model prog w) A (Builtin.«tuple.__eq__» ⟨[.ref a,.ref b],[]⟩) P E s:=by
 have hTb:=hy.typeIs;refine el34 hx fun oa xs na hoa _ hda hia=>el34 hy fun ob ys nb hob _ hdb hib=>?_;refine wpAny_bind (m:=isInstance (.ref b) (.type "tuple")) (wpAny_isInstance hTb isSubtype_tuple_tuple (ifF Bool.false_ne_true ?_));refine wpAny_bind (wpAny_tupleItemsOf hoa hda (wpAny_bind (wpAny_tupleItemsOf hob hdb (wpAny_bind ?_))));refine zip_loop (b₁:=(some (PySem.Fin.done (.ret (.bool false))),())) (fun k₁ k₂ a b Q h1 h2 q0 q1=>wpAny_bind (wpAny_eqBool_tuple (knd:=strKind prog w) hu h1 h2 ?_)) hia hib (fun e=>wpAny_pure ?_) fun ne=>?_
 ·by_cases hk:k₁=k₂
  ·rw [decide_eq_true hk];exact ifF Bool.false_ne_true (wpAny_pure (q0 hk))
  ·rw [decide_eq_false hk];exact ifT rfl (wpAny_bind (wpAny_pure (wpAny_pure (q1 hk))))
 ·have hfin:(xs.size == ys.size)=decide (x=y):=by
   rw [<-Array.length_toList,<-Array.length_toList,hia.length,hib.length];exact Bool.eq_iff_iff.mpr ⟨fun q=>decide_eq_true (e (eq_of_beq q)),fun q=>by rw [of_decide_eq_true q];exact beq_self_eq_true _⟩
  show P (.done (.ret (.bool (xs.size == ys.size)))) s;rw [hfin];exact h
 ·rw [decide_eq_false ne] at h;exact wpAny_pure h
theorem eqBool_tt {x y:List (List Str)}(hu:A.units+1<cLine)(hx:IsTT prog w s.heap x a)(hy:IsTT prog w s.heap y b)(h:Q (decide (x=y)) s) :
  wpAny (model prog w) A (eqBool (.ref a) (.ref b)) Q E s:=by
 unfold eqBool
 try with_reducible refine wpAny_holding ?_
 show wpAny _ _ (if (Value.ref a == Value.ref b)=true then _ else _) Q E s;by_cases hab:(Value.ref a == Value.ref b)=true
 ·rw [if_pos hab]
  have e:a=b:=by have:=eq_of_beq hab;injection this
  subst e;have e:=hx.inj hy;subst e;exact wpAny_bind (wpAny_rule (wpAny_pure (by rwa [decide_eq_true rfl] at h)))
 ·rw [if_neg hab]
  exact wpAny_bind (wpAny_richCompare_same_room (op:=.Eq) hx.typeIs hy.typeIs F.slot_tuple_eq
   (wpAny_call_entry F.slot_tuple_eq hx.typeIs F.entry_tuple_eq (tt_eq_tree (by show A.units+1<cLine;exact hu) hx hy ⟨_,rfl,(fun e=>nomatch e),wpAny_truthy_bool h⟩) (F.args_tuple_eq_2 _ _)) (by omega))
theorem itemsStrs {ks:List Str}(h:ItemsAre (strKind prog w) ks vs):∀ v∈vs,∃ x tk,v=Value.str x tk:=by
 induction h with
 | nil=>intro v hv;cases hv
 | cons h1 _ ih =>
  intro v hv
  rcases List.mem_cons.mp hv with rfl | q
  ·obtain ⟨x,tk,e⟩:=(show ∃ x tk,v=Value.str x tk by
    cases v with
    | str x tk=>exact ⟨x,tk,rfl⟩
    | _=>exact absurd (show false=true from h1) Bool.false_ne_true)
   exact ⟨x,tk,e⟩
  ·exact ih v q
theorem ItemsTT.refs {h:Heap}{kss:List (List Str)}(hh:ItemsTT prog w h kss vs):∀ v∈vs,∃ ks b,v=Value.ref b∧IsTupleKey (strKind prog w) h ks b:=by
 induction hh with
 | nil=>intro v hv;cases hv
 | cons h1 _ ih =>
  intro v hv
  rcases List.mem_cons.mp hv with rfl | q
  ·exact ⟨_,_,rfl,h1⟩
  ·exact ih v q
theorem noClass_of {items:Array Value}(ho:s.heap.get? b=some o)(hc:o.cls=.type "tuple")(hd:o.data=.seq items n)(hi:∀ v∈items.toList,∀ Q:Bool->Shared->Prop,Q false s->wpAny (model prog w) A (ofAClassStatement d v) Q E s)(h:Q false s):wpAny (model prog w) A (ofAClassStatement (d+1) (.ref b)) Q E s:=by
 rw [ofAClassStatement];refine wpAny_bind (m:=typeOf (.ref b)) (wpAny_typeOf (T := "tuple") ⟨o,ho,hc⟩ ?_);refine ifT (by decide) (wpAny_bind (wpAny_pure ?_));refine ifF (by decide) (wpAny_bind (wpAny_seqItems ho hd (wpAny_bind ?_)));rw [<-Array.forIn_toList];exact all_pass (fun v hv Q q=>wpAny_bind (hi v hv _ (ifF Bool.false_ne_true (wpAny_pure q)))) (wpAny_pure h)
theorem noClass_t {ks:List Str}(hk:IsTupleKey (strKind prog w) s.heap ks b)(h:Q false s):wpAny (model prog w) A (ofAClassStatement (d+1) (.ref b)) Q E s :=
 el34 hk fun o items n ho hc hd hi=>noClass_of ho hc hd (fun v hv Q q=>el21 (itemsStrs hi v hv) fun x tk e=>by rw [e];exact noClass_str q) h
theorem noClass_tt {kss:List (List Str)}(hk:IsTT prog w s.heap kss b)(h:Q false s):wpAny (model prog w) A (ofAClassStatement 8 (.ref b)) Q E s :=
 el34 hk fun o items n ho hc hd hi=>noClass_of ho hc hd (fun v hv Q q=>el22 (hi.refs v hv) fun ks c e hc=>by rw [e];exact noClass_t (d:=6) hc q) h
theorem quiet_of {items:Array Value}(ho:s.heap.get? b=some o)(hc:o.cls=.type "tuple")(hd:o.data=.seq items n)(hi:∀ v∈items.toList,∀ Q:Bool->Shared->Prop,Q true s->wpAny (model prog w) A (eqIsQuiet d v) Q E s)(h:Q true s):wpAny (model prog w) A (eqIsQuiet (d+1) (.ref b)) Q E s:=by
 have hT:s.TypeIs (.ref b) "tuple" := ⟨o,ho,hc⟩;unfold eqIsQuiet;refine wpAny_bind (wpAny_specialOf hT F.slot_tuple_eq.lookup ?_);refine wpAny_bind (m:=isInstance (.ref b) (.type "tuple")) (wpAny_isInstance hT isSubtype_tuple_tuple (ifF Bool.false_ne_true (wpAny_bind (wpAny_seqItems ho hd (wpAny_bind ?_)))));show wpAny _ _ (forIn items _ _) _ _ s;rw [<-Array.forIn_toList];exact all_pass (fun v hv Q q=>wpAny_bind (hi v hv _ (ifF Bool.false_ne_true (wpAny_pure q)))) (wpAny_pure h)
theorem quiet_t {ks:List Str}(hk:IsTupleKey (strKind prog w) s.heap ks b)(h:Q true s):wpAny (model prog w) A (eqIsQuiet (d+1) (.ref b)) Q E s :=
 el34 hk fun o items n ho hc hd hi=>quiet_of ho hc hd (fun v hv Q q=>el21 (itemsStrs hi v hv) fun x tk e=>by rw [e,eqIsQuiet_byValue _ rfl];exact wpAny_pure q) h
theorem quiet_tt {kss:List (List Str)}(hk:IsTT prog w s.heap kss b)(h:Q true s):wpAny (model prog w) A (eqIsQuiet 8 (.ref b)) Q E s :=
 el34 hk fun o items n ho hc hd hi=>quiet_of ho hc hd (fun v hv Q q=>el22 (hi.refs v hv) fun ks c e hc=>by rw [e];exact quiet_t (d:=6) hc q) h
theorem byValue_of {items:Array Value}(ho:s.heap.get? b=some o)(hc:o.cls=.type "tuple")(hd:o.data=.seq items n)(hi:∀ v∈items.toList,∀ Q:Bool->Shared->Prop,(∀ b,Q b s)->wpAny (model prog w) A (hashByValue d v) Q E s)(h:∀ b,Q b s):wpAny (model prog w) A (hashByValue (d+1) (.ref b)) Q E s:=by
 refine wpAny_bind (m:=specialOf (.ref b) "__hash__") (wpAny_specialOf ⟨o,ho,hc⟩ PySem.F.slot_tuple_hash.lookup (wpAny_bind (m:=seqItems? (.ref b)) (wpAny_seqItems ho hd (wpAny_bind ?_))));dsimp only [Option.getD];rw [<-Array.forIn_toList];refine any_pass (c:=(some false,())) (fun v hv Q q0 q1=>wpAny_bind (hi v hv _ fun x=>?_)) (wpAny_pure (h _)) (wpAny_pure (h _))
 cases x with
 | true=>exact ifF Bool.false_ne_true (wpAny_pure q0)
 | false=>exact ifT rfl (wpAny_bind (wpAny_pure (wpAny_pure q1)))
theorem byValue_t {ks:List Str}(hk:IsTupleKey (strKind prog w) s.heap ks b)(h:∀ b,Q b s):wpAny (model prog w) A (hashByValue (d+1) (.ref b)) Q E s :=
 el34 hk fun o items n ho hc hd hi=>byValue_of ho hc hd (fun v hv Q q=>el21 (itemsStrs hi v hv) fun x tk e=>by
  rw [e,show hashByValue d (.str x tk)=pure false by cases d<;>rfl];exact wpAny_pure (q _)) h
theorem byValue_tt {kss:List (List Str)}(hk:IsTT prog w s.heap kss b)(h:∀ b,Q b s):wpAny (model prog w) A (hashByValue 8 (.ref b)) Q E s :=
 el34 hk fun o items n ho hc hd hi=>byValue_of ho hc hd (fun v hv Q q=>el22 (hi.refs v hv) fun ks c e hc=>by rw [e];exact byValue_t (d:=6) hc q) h
end
end
section
open PySem PySem.Calls
theorem prb_mask (h:t'.mask=t.mask)(x:Int):∀ n,prb t' x n=prb t x n
 | 0=>by show t'.probeStart x=t.probeStart x;unfold SetTable.probeStart;rw [h]
 | n+1=>by
  show t'.advance (prb t' x n)=t.advance (prb t x n);rw [prb_mask h x n];unfold SetTable.advance;rw [h]
noncomputable def ins {α:Type}(l:List α)(p:Nat)(x:α):List α:=l.take p++x::l.drop p
theorem ins_lo {α:Type}{l:List α}{p:Nat}{x:α}(hp:p≤l.length)(h:i<p):(ins l p x)[i]? = l[i]? := by
 unfold ins;rw [List.getElem?_append_left (by rw [List.length_take_of_le hp];exact h),List.getElem?_take_of_lt h]
theorem ins_eq {α:Type}{l:List α}{p:Nat}{x:α}(hp:p≤l.length):(ins l p x)[p]? = some x:=by
 unfold ins;rw [List.getElem?_append_right (List.length_take_le ..),List.length_take_of_le hp,Nat.sub_self];rfl
theorem ins_hi {α:Type}{l:List α}{p:Nat}{x:α}(hp:p≤l.length):(ins l p x)[p+1+m]? = l[p+m]? := by
 unfold ins;rw [List.getElem?_append_right (show (l.take p).length≤p+1+m from Nat.le_trans (List.length_take_le ..) (Nat.le_trans (Nat.le_succ p) (Nat.le_add_right ..))),List.length_take_of_le hp,show p+1+m-p=m+1 by rw [Nat.add_assoc,Nat.add_sub_cancel_left,Nat.add_comm],List.getElem?_cons_succ,List.getElem?_drop]
theorem ins_two {α β:Type}{l:List α}{r:List β}{p:Nat}{x:α}{y:β}(hp:p≤l.length)(hq:p≤r.length)(i:Nat):((ins l p x)[i]? = some x∧(ins r p y)[i]? = some y)∨∃ i₀:Nat,(ins l p x)[i]? = l[i₀]?∧(ins r p y)[i]? = r[i₀]? := by
 rcases Nat.lt_trichotomy i p with q | q | q
 ·exact .inr ⟨i,ins_lo hp q,ins_lo hq q⟩
 ·exact .inl (by rw [q];exact ⟨ins_eq hp,ins_eq hq⟩)
 ·exact (Nat.exists_eq_add_of_le q).elim fun m e=>.inr ⟨p+m,by rw [e];exact ⟨ins_hi hp,ins_hi hq⟩⟩
theorem ins_pair {α β:Type}{l:List α}{r:List β}{p:Nat}{x:α}{y:β}(hp:p≤l.length)(hq:p≤r.length){u:α}{v:β}(h1:(ins l p x)[i]? = some u)(h2:(ins r p y)[i]? = some v) :
  (u=x∧v=y)∨∃ i₀:Nat,l[i₀]? = some u∧r[i₀]? = some v:=(ins_two (x:=x) (y:=y) hp hq i).elim (fun q=>.inl ⟨Option.some.inj (h1.symm.trans q.1),Option.some.inj (h2.symm.trans q.2)⟩) fun q=>.inr (el12 q fun i₀ a b=>⟨i₀,a.symm.trans h1,b.symm.trans h2⟩)
theorem ins_map {α β:Type}(f:α->β)(l:List α)(p:Nat)(x:α):(ins l p x).map f=ins (l.map f) p (f x):=by unfold ins;simp
theorem ins_perm {α:Type}(l:List α)(p:Nat)(x:α):(ins l p x).Perm (x::l):=by
 unfold ins;refine List.perm_middle.trans ?_;rw [List.take_append_drop]
theorem ins_length {α:Type}(l:List α)(p:Nat)(x:α):(ins l p x).length=l.length+1:=(ins_perm l p x).length_eq
theorem ins_mem {α:Type}{l:List α}{p:Nat}{x y:α}:y∈ins l p x↔y=x∨y∈l:=by rw [(ins_perm l p x).mem_iff,List.mem_cons]
theorem ins_asc {l:List Nat}{p:Nat}(hl:l.Pairwise (· < ·))(h1:∀ (i x:Nat),i<p->l[i]? = some x->x<j)(h2:∀ (i x:Nat),p≤i->l[i]? = some x->j<x):(ins l p j).Pairwise (· < ·):=by
 have tk:∀ x∈l.take p,x<j:=fun x hx=>(List.mem_take_iff_getElem.mp hx).elim fun i q=>q.elim fun hm e=>h1 i x (Nat.lt_of_lt_of_le hm (Nat.min_le_left ..)) (by rw [<-e];exact List.getElem?_eq_getElem _);have dr:∀ y∈l.drop p,j<y:=fun x hx=>(List.mem_drop_iff_getElem.mp hx).elim fun i q=>q.elim fun hm e=>h2 (p+i) x (Nat.le_add_right ..) (by rw [<-e];exact List.getElem?_eq_getElem _);exact List.pairwise_append.mpr ⟨hl.sublist (List.take_sublist ..),List.pairwise_cons.mpr ⟨dr,hl.sublist (List.drop_sublist ..)⟩,fun x hx y hy=>(List.mem_cons.mp hy).elim (fun e=>e▸tk x hx) fun q=>Nat.lt_trans (tk x hx) (dr y q)⟩
theorem TabOk.ins {hs:List Int}(T:TabOk hs t){h:Int}(hm:m<10*SetTable.turns t.mask)(hj:(prb t h m).j∉t.place.toList)(hb:∀ x,x<m->(prb t h x).j∈t.place.toList)(hroom:(hs.length+1)*5<t.mask*3) :
  (t.put (prb t h m).j).2≤hs.length∧TabOk (ins hs (t.put (prb t h m).j).2 h) (t.put (prb t h m).j).1∧(t.put (prb t h m).j).1.mask=t.mask∧(t.put (prb t h m).j).1.led=t.led∧(t.put (prb t h m).j).1.dummies=#[]:=by
 generalize hjj:(prb t h m).j=j at hj;have hle:j≤t.mask:=hjj▸Nat.le_trans (Nat.le_add_right ..) (prb_le (t:=t) (h:=h) m).1;refine el03 (below_spec (j:=j) T.asc) fun b1 b2 b3=>?_;have e2:(t.put j).2=SetTable.below t.place j:=rfl;generalize hp:SetTable.below t.place j=p at b1 b2 b3
 have epl:(t.put j).1.place.toList=Mine.ins t.place.toList p j:=by
  show (SetTable.insertAt t.place (SetTable.below t.place j) j).toList=_;rw [hp,SetTable.toList_insertAt];rfl
 have edu:(t.put j).1.dummies=#[]:=by
  show (if SetTable.has t.dummies j then _ else t.dummies)=#[];rw [T.dum];rfl
 have hlen:t.place.toList.length=hs.length:=by rw [Array.length_toList];exact T.size
 have hpl:p≤hs.length:=by rw [<-T.size];exact b1
 rw [e2,hp];refine ⟨hpl,⟨edu,T.mask,T.cap,?_,?_,?_,fun x hx=>?_,fun i h' j' h1 h2=>?_⟩,rfl,rfl,edu⟩
 ·rw [<-Array.length_toList,epl,ins_length,ins_length,hlen]
 ·show (t.put j).1.place.size*5<t.mask*3;rw [<-Array.length_toList,epl,ins_length,hlen];exact hroom
 ·rw [epl];exact ins_asc T.asc (fun i x q e=>b2 i x q (by rw [<-Array.getElem?_toList];exact e)) fun i x q e=>Nat.lt_of_le_of_ne (b3 i x q (by rw [<-Array.getElem?_toList];exact e)) fun r=>hj (r▸List.mem_of_getElem? e)
 ·rw [epl] at hx
  rcases ins_mem.mp hx with q | q
  ·subst q;exact hle
  ·exact T.le x q
 ·rw [epl] at h2;have km:(t.put j).1.mask=t.mask:=rfl
  rcases ins_pair hpl (by rw [hlen];exact hpl) h1 h2 with ⟨q1,q2⟩ | ⟨i₀,q1,q2⟩
  ·subst q1;subst q2;refine ⟨m,hm,by rw [prb_mask km];exact hjj,fun x hx=>?_⟩;rw [prb_mask km,epl];exact ins_mem.mpr (.inr (hb x hx))
  ·refine el13 (T.path i₀ h' j' q1 q2) fun n a1 a2 a3=>?_;refine ⟨n,a1,by rw [prb_mask km];exact a2,fun x hx=>?_⟩;rw [prb_mask km,epl];exact ins_mem.mpr (.inr (a3 x hx))
structure SAt (w:World)(F:PMap)(s:Shared)(a:Addr)(ks:List Key)(ob:Obj)(es:Array (Int×Value))(n:Nat)(t:SetTable):Prop where
 hF:PIn F s.heap
 ho:s.heap.get? a=some ob
 hx:ob.ExactSet
 hd:ob.data=.set es n t
 hl:es.toList.length=ks.length
 he:∀ (i:Nat) (k:Key),ks[i]? = some k->∃ v,es.toList[i]? = some (k.hash w.params,v)∧KeyAt F k v
 ok:SetOk w.params ks t
section
variable {w:World}{k:Key}{v:Value}{ob:Obj}
theorem SAt.tok (D:SAt w F s a ks ob es n t)(x:Nat):SAt w F { s with toks:=x } a ks ob es n t:=⟨D.hF,D.ho,D.hx,D.hd,D.hl,D.he,D.ok⟩
theorem SAt.typeIs (D:SAt w F s a ks ob es n t):s.TypeIs (.ref a) "set" := ⟨ob,D.ho,D.hx.1⟩
theorem SAt.size (D:SAt w F s a ks ob es n t):es.size=ks.length:=by rw [<-Array.length_toList,D.hl]
theorem SAt.fits (D:SAt w F s a ks ob es n t):t.fits es.size=true:=by rw [D.size];exact D.ok.fits
theorem SAt.state (D:SAt w F s a ks ob es n t){Q:(Array (Int×Value)×Nat×SetTable)->Shared->Prop}(h:Q (es,n,t) s):wpAny (model prog w) A (setState a) Q E s:=wpAny_setState_of D.ho D.hd D.fits h
theorem SAt.plen (D:SAt w F s a ks ob es n t):t.place.toList.length=ks.length:=by rw [Array.length_toList,D.ok.tab.size,List.length_map]
theorem SAt.at (D:SAt w F s a ks ob es n t)(h:t.place.toList[i]? = some j):∃ k v,ks[i]? = some k∧es.toList[i]? = some (k.hash w.params,v)∧KeyAt F k v:=by
 have hi:i<ks.length:=by rw [<-D.plen];exact (List.getElem?_eq_some_iff.mp h).1
 have hk:ks[i]? = some ks[i]:=List.getElem?_eq_getElem hi;refine el12 (D.he i _ hk) fun v h1 h2=>?_;exact ⟨_,v,hk,h1,h2⟩
theorem pair_tt {w:World}{h:Heap}(hF:PIn F h){xs ys:List Str}{v:Value}(hk:KeyAt F (.p xs ys) v):∃ a,v=.ref a∧IsTT prog w h [xs,ys] a:=by
 obtain ⟨a,u,u',n,rfl,h1,h2,h3⟩:=hk
 (refine el12 (StrTup.isKey (prog:=prog) (w:=w) hF h2) fun b qq1 hx=>?_;subst qq1)
 (refine el12 (StrTup.isKey (prog:=prog) (w:=w) hF h3) fun c qq1 hy=>?_;subst qq1)
 exact ⟨a,rfl,_,_,n,hF _ _ h1,rfl,rfl,.cons hx (.cons hy .nil)⟩
theorem hash_keyS {Q:Int->Shared->Prop}(hA:A.units+1<cLine)(hF:PIn F s.heap)(hk:KeyAt F k v)(h:∀ t,Q (k.hash w.params) { s with toks:=t }):wpAny (model prog w) A (pyHash v) Q E s:=by
 cases k with
 | p xs ys=>(refine el12 (pair_tt (prog:=prog) (w:=w) hF hk) fun b qq1 hx=>?_;subst qq1);exact pyHash_tt hA hx h
 | s x=>exact hash_key (by lia) hF hk (by show (0:Nat)≠2;decide) h
 | t xs=>exact hash_key (by lia) hF hk (by show (1:Nat)≠2;decide) h
theorem eq_key {k':Key}{u:Value}(hA:A.units+1<cLine)(hF:PIn F s.heap)(hu:KeyAt F k' u)(hk:KeyAt F k v)(hkd:k'.kind=k.kind)(h:Q (decide (k'=k)) s):wpAny (model prog w) A (eqBool u v) Q E s:=by
 cases k with
 | s x =>
  cases k' with
  | s y =>
   obtain ⟨t,rfl⟩:=hk;obtain ⟨t',rfl⟩:=hu;refine (strKind prog w).eqBool (strKind_is _ _ _ _) (strKind_is _ _ _ _) ?_;rw [show decide (y=x)=decide (Key.s y=Key.s x) from decide_eq_decide.mpr ⟨congrArg Key.s,fun q=>by injection q⟩];exact h
  | _=>cases hkd
 | t xs =>
  cases k' with
  | t ys =>
   (refine el12 (StrTup.isKey (prog:=prog) (w:=w) hF hk) fun b qq1 hx=>?_;subst qq1)
   (refine el12 (StrTup.isKey (prog:=prog) (w:=w) hF hu) fun c qq1 hy=>?_;subst qq1)
   refine (tupleKind (strKind prog w)).eqBool (show A.units<cLine by lia) hy hx ?_;rw [show decide (ys=xs)=decide (Key.t ys=Key.t xs) from decide_eq_decide.mpr ⟨congrArg Key.t,fun q=>by injection q⟩];exact h
  | _=>cases hkd
 | p xs ys =>
  cases k' with
  | p xs' ys' =>
   (refine el12 (pair_tt (prog:=prog) (w:=w) hF hk) fun b qq1 hx=>?_;subst qq1)
   (refine el12 (pair_tt (prog:=prog) (w:=w) hF hu) fun c qq1 hy=>?_;subst qq1)
   refine eqBool_tt hA hy hx ?_;rw [show decide ([xs',ys']=[xs,ys])=decide (Key.p xs' ys'=Key.p xs ys) from decide_eq_decide.mpr ⟨fun q=>by injection q with q1 q2;injection q2 with q2 _;rw [q1,q2],fun q=>by injection q with q1 q2;rw [q1,q2]⟩];exact h
  | _=>cases hkd
theorem quiet_key (hF:PIn F s.heap)(hk:KeyAt F k v)(h1:k.kind≠0)(h:Q true s):wpAny (model prog w) A (eqIsQuiet 8 v) Q E s:=by
 cases k with
 | t xs=>(refine el12 (StrTup.isKey (prog:=prog) (w:=w) hF hk) fun b qq1 hx=>?_;subst qq1);exact (tupleKind (strKind prog w)).quiet hx h
 | p xs ys=>(refine el12 (pair_tt (prog:=prog) (w:=w) hF hk) fun b qq1 hx=>?_;subst qq1);exact quiet_tt hx h
 | s _=>exact absurd rfl h1
theorem noClass_key (hF:PIn F s.heap)(hk:KeyAt F k v)(h1:k.kind≠0)(h:Q false s):wpAny (model prog w) A (ofAClassStatement 8 v) Q E s:=by
 cases k with
 | t xs=>(refine el12 (StrTup.isKey (prog:=prog) (w:=w) hF hk) fun b qq1 hx=>?_;subst qq1);exact noClass_t (d:=7) hx h
 | p xs ys=>(refine el12 (pair_tt (prog:=prog) (w:=w) hF hk) fun b qq1 hx=>?_;subst qq1);exact noClass_tt hx h
 | s _=>exact absurd rfl h1
theorem ref_key (hk:KeyAt F k v)(h1:k.kind≠0):∃ b,v=.ref b:=by
 cases k with
 | t xs=>(refine el32 hk fun b _ _ e _=>?_;try clear hk);exact ⟨b,e⟩
 | p xs ys=>obtain ⟨b,_,_,_,e,_⟩:=hk;exact ⟨b,e⟩
 | s _=>exact absurd rfl h1
theorem unseen_key {ys:List Value}(hF:PIn F s.heap)(hk:KeyAt F k v)(h1:k.kind≠0)(hy:∀ y∈ys,∃ k',KeyAt F k' y∧k'.kind≠0)(h:Q false s):wpAny (model prog w) A (searchCouldBeSeen v ys) Q E s:=by
 unfold searchCouldBeSeen;refine wpAny_bind ?_;refine wpAny_forIn_list _ (fun rest r s'=>r.1=none∧s'=s∧∀ y∈rest,∃ k',KeyAt F k' y∧k'.kind≠0) _ ?_ ?_ _ _ ⟨rfl,rfl,hy⟩
 ·rintro y rest r s' ⟨hr,rfl,hall⟩;refine el12 (hall y (.head _)) fun k' hk' h1'=>?_;have hrest:∀ z∈rest,∃ k',KeyAt F k' z∧k'.kind≠0:=fun z hz=>hall z (.tail _ hz);obtain ⟨b,rfl⟩:=ref_key hk h1;obtain ⟨c,rfl⟩:=ref_key hk' h1';dsimp only;by_cases hbc:((b == c)||(carriedByValue (.ref b)&&carriedByValue (.ref c)))=true
  ·rw [if_pos hbc];exact wpAny_pure ⟨rfl,rfl,hrest⟩
  ·rw [if_neg hbc];refine wpAny_bind (quiet_key hF hk h1 ?_)
   (first | rw [if_neg (show ¬ ((!true)=true) from Bool.false_ne_true)] | simp only [Bool.not_true,Bool.false_eq_true,if_false])
   refine wpAny_bind (quiet_key hF hk' h1' ?_)
   (first | rw [if_neg (show ¬ ((!true)=true) from Bool.false_ne_true)] | simp only [Bool.not_true,Bool.false_eq_true,if_false])
   refine wpAny_bind (noClass_key hF hk h1 ?_)
   (first | rw [if_neg Bool.false_ne_true] | simp only [Bool.false_eq_true,if_false])
   refine wpAny_bind (noClass_key hF hk' h1' ?_)
   (first | rw [if_neg Bool.false_ne_true] | simp only [Bool.false_eq_true,if_false])
   exact wpAny_pure ⟨rfl,rfl,hrest⟩
 ·rintro ⟨r1,r2⟩ s' ⟨hr,rfl,_⟩;simp only at hr;subst hr;exact wpAny_pure h
theorem notGave (D:SAt w F s a ks ob es n t):t.gaveWay=false:=by
 refine el12 (D.ok.tab.mask) fun k hk hm=>?_
 have e:(t.mask+1) % 2=0:=by rw [hm,<-Nat.sub_add_cancel (Nat.le_trans (by decide:1≤3) hk),Nat.pow_succ,Nat.mul_mod_left]
 show (t.mask % 2 == 0)=false
 rcases Nat.mod_two_eq_zero_or_one t.mask with q | q
 ·rw [Nat.add_mod,q] at e;cases e
 ·rw [q];rfl
noncomputable def stH (es:Array (Int×Value))(i:Nat):Int:=(es[i]?.map (·.1)).getD 0
noncomputable def candK (a:Addr)(v:Value)(h:Int)(adding:Bool)(fuel:Nat)(t:SetTable)(es:Array (Int×Value))(j i:Nat)(next:SetTable.Probe):Sem SetFound:=do
 let some (_,y):=es[i]? | unsupported "internal:set-entry"
 let equal ← holding [y] (eqBool y v)
 let (es',_,t') ← setState a
 if adding&&equal then return .there none
 let some same:=t'.sameMemory t.moves t.mask | unsupported "set.changed-during-lookup:is-the-new-block-at-the-old-address"
 let still ← match (if same then t'.slot j else .empty) with
  | .live i'=>match es'[i']? with
   | some (_,y')=>do pure (if ← isSame y' y then some i' else none)
   | none=>pure none
  | _=>pure none
 match still with
 | none=>rule "set.search.anew";setSearchFrom a v h adding fuel none
 | some i'=>if equal then return .there (some i') else setSearchFrom a v h adding fuel (some next)
theorem cand_ok {adding:Bool}{Q:SetFound->Shared->Prop}{h:Int}{fuel:Nat}{next:SetTable.Probe}{k':Key}{u:Value}(hA:A.units+1<cLine)(D:SAt w F s a ks ob es n t)(hk:KeyAt F k v)(hk1:k'.kind≠0)(hkd:k'.kind=k.kind)(ge:es[i]? = some (k'.hash w.params,u))(g3:KeyAt F k' u)(hs:t.slot j=.live i)(hT:k'=k->∀ r,(adding=false->r.isSome=true)->Q (.there r) s)(hN:k'≠k->wpAny (model prog w) A (setSearchFrom a v h adding fuel (some next)) Q E s):wpAny (model prog w) A (candK a v h adding fuel t es j i next) Q E s:=by
 refine (ref_key g3 hk1).elim fun b e=>?_;subst e;unfold candK;rw [ge];refine wpAny_bind (wpAny_holding (eq_key hA D.hF g3 hk hkd ?_));refine wpAny_bind (D.state ?_);dsimp only;by_cases hb:(adding&&decide (k'=k))=true
 ·rw [if_pos hb];have hb:=Bool.and_eq_true_iff.mp hb;exact wpAny_pure (hT (of_decide_eq_true hb.2) none fun e=>by rw [e] at hb;cases hb.1)
 ·rw [if_neg hb,show t.sameMemory t.moves t.mask=some true from if_pos (beq_self_eq_true _)];dsimp only;rw [if_pos (rfl:true=true),hs];dsimp only;rw [ge];refine wpAny_bind (wpAny_isSame_ref_self (wpAny_bind (wpAny_pure ?_)));rw [if_pos (rfl:true=true)];by_cases heq:k'=k
  ·exact ifT (decide_eq_true heq) (wpAny_pure (hT heq (some i) fun _=>rfl))
  ·exact ifF (fun q=>heq (of_decide_eq_true q)) (hN heq)
noncomputable def seekK (a:Addr)(v:Value)(h:Int)(adding:Bool)(fuel:Nat)(stand:Option SetTable.Probe)(es:Array (Int×Value))(t:SetTable):Sem SetFound:=do
 if t.gaveWay then unsupported "set:on-a-table-that-gave-way"
 let some met:=t.probe (stH es) h (stand.getD (t.probeStart h)) | unsupported "internal:set-table-without-an-empty-slot"
 match met with
 | .empty j dummy =>
  match dummy with
  | none=>return .free j false
  | some d =>
   if adding&&t.slot d != .dummy then rule "set.search.the-dummy-was-taken";return ← setSearchFrom a v h adding fuel none
   return .free d true
 | .candidate j i next =>
  if !t.led then
   if ← searchCouldBeSeen v ((es.filter (·.1 == h)).toList.map (·.2)) then unsupported "set:the-search-would-show-the-table"
  candK a v h adding fuel t es j i next
section
variable {h:Int}{adding:Bool}{fuel:Nat}{stand:Option SetTable.Probe}{next:SetTable.Probe}{Q:SetFound->Shared->Prop}
theorem seek_step (D:SAt w F s a ks ob es n t)(q:wpAny (model prog w) A (seekK a v h adding fuel stand es t) Q E s):wpAny (model prog w) A (setSearchFrom a v h adding (fuel+1) stand) Q E s:=wpAny_bind (D.state q)
theorem seek_empty (hg:t.gaveWay=false)(e:t.probe (stH es) h (stand.getD (t.probeStart h))=some (.empty j none)):seekK a v h adding fuel stand es t=pure (.free j false):=by unfold seekK;rw [hg,e];rfl
theorem seek_cand (hg:t.gaveWay=false)(e:t.probe (stH es) h (stand.getD (t.probeStart h))=some (.candidate j i next)):seekK a v h adding fuel stand es t=(if (!t.led)=true then searchCouldBeSeen v ((es.filter (·.1 == h)).toList.map (·.2))>>=fun b=>if b=true then (do let x ← (unsupported "set:the-search-would-show-the-table" : Sem PUnit);candK a v h adding fuel t es j i next) else candK a v h adding fuel t es j i next else candK a v h adding fuel t es j i next):=by unfold seekK;rw [hg,e];rfl
end
abbrev Seen (ks:List Key)(k:Key)(t:SetTable)(h:Int)(m:Nat):Prop:=∀ x,x<m->∃ (i:Nat) (k':Key),t.place.toList[i]? = some (prb t h x).j∧ks[i]? = some k'∧k'≠k
theorem SAt.hashAt (D:SAt w F s a ks ob es n t){k':Key}(e:ks[i]? = some k'):stH es i=k'.hash w.params:=by
 refine el12 (D.he i k' e) fun u g1 _=>?_;show (es[i]?.map (·.1)).getD 0=_;rw [<-Array.getElem?_toList,g1];rfl
theorem Seen.more (D:SAt w F s a ks ob es n t){m₁:Nat}(hb:Seen ks k t (k.hash w.params) m)(ht:Took t (stH es) (k.hash w.params) m m₁):Seen ks k t (k.hash w.params) m₁:=fun x hx=>(Nat.lt_or_ge x m).elim (hb x) fun q =>
 el12 (ht x q hx) fun i e1 e2=>el23 (D.at e1) fun k' u g1 _ _=>⟨i,k',e1,g1,fun e=>e2 (by rw [D.hashAt g1,e])⟩
theorem Seen.none (D:SAt w F s a ks ob es n t)(hb:Seen ks k t (k.hash w.params) m)(hf:(prb t (k.hash w.params) m).j∉t.place.toList):k∉ks:=fun hm=>by
 refine (List.mem_iff_getElem?.mp hm).elim fun i hi=>?_;refine Exists.elim (show ∃ j,t.place.toList[i]? = some j from ⟨_,List.getElem?_eq_getElem (by rw [D.plen];exact (List.getElem?_eq_some_iff.mp hi).1)⟩) fun j hj=>?_;refine el13 (D.ok.tab.path i _ j (by rw [List.getElem?_map,hi];rfl) hj) fun nn b1 b2 b3=>?_
 rcases Nat.lt_trichotomy nn m with q | q | q
 ·refine el23 (hb nn q) fun i' k' e1 e2 e3=>?_;rw [b2] at e1;have:i'=i:=(List.getElem?_inj (List.getElem?_eq_some_iff.mp e1).1 (D.ok.tab.asc.imp fun hlt e=>Nat.ne_of_lt hlt e)).mp (e1.trans hj.symm);rw [this,hi] at e2;exact e3 (Option.some.inj e2).symm
 ·exact hf (by rw [<-q,b2];exact List.mem_of_getElem? hj)
 ·exact hf (b3 m q)
theorem search_key {adding:Bool}{Q:SetFound->Shared->Prop}{h:Int}(hh:k.hash w.params=h)(hA:A.units+1<cLine)(D:SAt w F s a ks ob es n t)(hk:KeyAt F k v)(h1:k.kind≠0)(hkd:∀ k'∈ks,k'.kind=k.kind)(hthere:k∈ks->∀ r,(adding=false->r.isSome=true)->Q (.there r) s)(hfree:k∉ks->∀ m,m<10*SetTable.turns t.mask->(prb t h m).j∉t.place.toList->(∀ x,x<m->(prb t h x).j∈t.place.toList)->Q (.free (prb t h m).j false) s){fuel:Nat} :
  ∀ {m:Nat}{stand:Option SetTable.Probe},stand.getD (t.probeStart h)=prb t h m->Seen ks k t h m->m≤10*SetTable.turns t.mask->10*SetTable.turns t.mask<m+fuel->wpAny (model prog w) A (setSearchFrom a v h adding fuel stand) Q E s:=by
 subst hh;have T:=D.ok.tab
 induction fuel with
 | zero=>exact fun _ _ hle hf=>absurd hf (Nat.not_lt_of_le hle)
 | succ fuel ih =>
  intro m stand hst hb hle hf;refine el12 (T.free (k.hash w.params)) fun m₀ hm₀ hfr=>?_;have hm0:m≤m₀:=Nat.le_of_not_lt fun q=>el23 (hb m₀ q) fun i k' e _ _=>hfr (List.mem_of_getElem? e);refine seek_step D ?_;refine Or.elim (probe_go (hashAt:=stH es) (h:=k.hash w.params) T.dum T.asc hfr hm0 (Nat.lt_of_lt_of_le hm₀ (Nat.le_add_left _ _))) (fun q=>el15 q fun m₁ a1 a2 a3 a4 a5=>?_) fun q=>el26 q fun m₁ i a1 a2 a3 a4 a5 a6=>?_
  ·rw [seek_empty (notGave D) (show t.probe (stH es) _ _=_ from hst.symm▸a5)];have hs:=hb.more D a3;exact wpAny_pure (hfree (hs.none D a4) m₁ (Nat.lt_of_le_of_lt a2 hm₀) a4 fun x hx=>el23 (hs x hx) fun i _ e _ _=>List.mem_of_getElem? e)
  ·rw [seek_cand (notGave D) (show t.probe (stH es) _ _=_ from hst.symm▸a6)];refine el23 (D.at a4) fun k' u g1 g2 g3=>?_;have hkd':=hkd k' (List.mem_of_getElem? g1)
   have rest:wpAny (model prog w) A (candK a v (k.hash w.params) adding fuel t es (prb t (k.hash w.params) m₁).j i (prb t (k.hash w.params) (m₁+1))) Q E s :=
    cand_ok hA D hk (hkd'▸h1) hkd' (by rw [<-Array.getElem?_toList];exact g2) g3 (slot_live T.asc a4) (fun e=>hthere (e▸List.mem_of_getElem? g1)) fun heq =>
     ih rfl (fun x hx=>(Nat.lt_or_eq_of_le (Nat.le_of_lt_succ hx)).elim (hb.more D a3 x) fun q=>q▸⟨i,k',a4,g1,heq⟩) (Nat.le_trans (Nat.succ_le_of_lt a2) (Nat.le_of_lt hm₀)) (Nat.lt_of_lt_of_le hf (by rw [Nat.add_right_comm m₁];exact Nat.succ_le_succ (Nat.add_le_add_right a1 _)))
   by_cases hled:(!t.led)=true
   ·refine ifT hled (wpAny_bind (unseen_key D.hF hk h1 (fun y hy=>?_) (ifF Bool.false_ne_true rest)));refine el12 (List.mem_map.mp hy) fun q hm e=>?_;refine (List.mem_iff_getElem?.mp (Array.mem_toList_iff.mpr (Array.mem_filter.mp (Array.mem_toList_iff.mp hm)).1)).elim fun i' hi'=>?_
    have hlt:i'<ks.length:=by rw [<-D.hl];exact (List.getElem?_eq_some_iff.mp hi').1
    refine el12 (D.he i' _ (List.getElem?_eq_getElem hlt)) fun v' e1 e2=>?_;rw [hi'] at e1;exact ⟨_,(show y=v' from e.symm.trans (congrArg Prod.snd (Option.some.inj e1)))▸e2,by rw [hkd _ (List.getElem_mem hlt)];exact h1⟩
   ·exact ifF hled rest
theorem SAt.elems (D:SAt w F s a ks ob es n t)(h0:∀ k'∈ks,k'.kind=0):ElemsOf (strKind prog w) es.toList:=fun e he=>by
 obtain ⟨i,hi⟩:=List.mem_iff_getElem?.mp he
 have hlt:i<ks.length:=by rw [<-D.hl];exact (List.getElem?_eq_some_iff.mp hi).1
 refine el12 (D.he i _ (List.getElem?_eq_getElem hlt)) fun v' e1 e2=>?_;have h0:=h0 _ (List.getElem_mem hlt);rw [hi] at e1;cases e1;generalize ks[i]=kk at *
 cases kk with
 | s x=>obtain ⟨tk,rfl⟩:=e2;exact ⟨⟨x,strKind_is _ _ _ _,rfl⟩,rfl⟩
 | _=>cases h0
theorem SAt.scan (D:SAt w F s a ks ob es n t)(h0:∀ k'∈ks,k'.kind=0):(∃ j,es.toList.findIdx? (fun e=>(strKind prog w).is x e.2)=some j∧Key.s x∈ks)∨(es.toList.findIdx? (fun e=>(strKind prog w).is x e.2)=none∧Key.s x∉ks):=by
 cases hr:es.toList.findIdx? (fun e=>(strKind prog w).is x e.2) with
 | some j =>
  refine el12 (List.findIdx?_eq_some_iff_getElem.mp hr) fun hj hpj _=>?_;refine .inl ⟨j,rfl,?_⟩
  have hlt:j<ks.length:=by rw [<-D.hl];exact hj
  refine el12 (D.he j _ (List.getElem?_eq_getElem hlt)) fun v' e1 e2=>?_;rw [List.getElem?_eq_getElem hj] at e1;have e1:=Option.some.inj e1;rw [e1] at hpj;have h0:=h0 _ (List.getElem_mem hlt);have hin:=List.getElem_mem hlt;generalize ks[j]=kk at *
  cases kk with
  | s y =>
   obtain ⟨tk,rfl⟩:=e2;have:x=y:=(strKind prog w).inj _ _ _ hpj (strKind_is _ _ _ _);subst this;exact hin
  | _=>cases h0
 | none =>
  refine .inr ⟨rfl,fun hm=>?_⟩;obtain ⟨i,hi⟩:=List.mem_iff_getElem?.mp hm;obtain ⟨v',e1,tk,rfl⟩:=D.he i _ hi;have:=List.findIdx?_eq_none_iff.mp hr _ (List.mem_of_getElem? e1);have q:(strKind prog w).is x (.str x tk)=true:=strKind_is _ _ _ _;rw [q] at this;cases this
theorem turns_lt (h:m<5000):10*SetTable.turns m<0+100000:=by unfold SetTable.turns;lia
theorem find_set {Q:Option Nat->Shared->Prop}(hA:A.units+1<cLine)(D:SAt w F s a ks ob es n t)(hk:KeyAt F k v)(hkd:∀ k'∈ks,k'.kind=k.kind)(h:∀ r:Option Nat,r.isSome=decide (k∈ks)->Q r s) :
  wpAny (model prog w) A (setFind a v (k.hash w.params)) Q E s:=by
 have hb:es.size<scanBound:=by rw [D.size];exact D.ok.small
 unfold setFind setFindIn;refine wpAny_bind (D.state ?_);dsimp only;by_cases h0:k.kind=0
 ·cases k with
  | s x =>
   refine Exists.elim (show ∃ tk,v=.str x tk from hk) fun tk e=>?_;subst e;have hel:=SAt.elems (prog:=prog) D hkd;rw [byScan_of (knd:=strKind prog w) rfl hb hel];refine ifT rfl (wpAny_bind (wpAny_rule (wpAny_bind (wpAny_setScan_of (knd:=strKind prog w) (k:=x) (strKind_is _ _ _ _) D.ho D.hd D.fits hel ?_))));refine (SAt.scan (prog:=prog) D (x:=x) hkd).elim (fun q=>el12 q fun j e1 e2=>?_) fun q=>?_
   ·rw [e1];exact wpAny_pure (h _ (decide_eq_true e2).symm)
   ·rw [q.1];exact wpAny_pure (h _ (decide_eq_false q.2).symm)
  | t _=>cases h0
  | p _ _=>cases h0
 ·refine (ref_key hk h0).elim fun b e=>?_;subst e;exact ifF Bool.false_ne_true (wpAny_bind (search_key (adding:=false) rfl hA D hk h0 hkd (fun hin r hr=>wpAny_pure (h r ((hr rfl).trans (decide_eq_true hin).symm))) (fun hno m _ _ _=>wpAny_pure (h none (decide_eq_false hno).symm)) (stand:=none) (m:=0) rfl (fun x hx=>absurd hx (Nat.not_lt_zero _)) (Nat.zero_le _) (turns_lt D.ok.tab.cap)))
theorem contains_set (hA:A.units+1<cLine)(D:SAt w F s a ks ob es n t)(hk:KeyAt F k v)(hkd:∀ k'∈ks,k'.kind=k.kind)(h:∀ x,Q (decide (k∈ks)) { s with toks:=x }) :
  wpAny (model prog w) A (setContains a v) Q E s:=by
 unfold setContains;refine wpAny_holding (wpAny_bind (hash_keyS hA D.hF hk fun x=>?_));exact wpAny_bind (find_set hA (D.tok x) hk hkd fun r hr=>wpAny_pure (by rw [hr];exact h x))
theorem byValue_key (hF:PIn F s.heap)(hk:KeyAt F k v)(h1:k.kind≠0)(h:∀ b,Q b s):wpAny (model prog w) A (hashByValue 8 v) Q E s:=by
 cases k with
 | t xs=>(refine el12 (StrTup.isKey (prog:=prog) (w:=w) hF hk) fun b qq1 hx=>?_;subst qq1);exact byValue_t (d:=7) hx h
 | p xs ys=>(refine el12 (pair_tt (prog:=prog) (w:=w) hF hk) fun b qq1 hx=>?_;subst qq1);exact byValue_tt hx h
 | s _=>exact absurd rfl h1
end
end
section
open PySem PySem.Calls
theorem slot_si_next:Slot "set_iterator" "__next__" "set_iterator.__next__" :=
 .of (owner := "set_iterator") (n := "__next__") (by rw [typeLookup_type,builtinLookup_eq_fast];kernel_rfl) (by decide +kernel) (by decide +kernel) (by decide +kernel)
  (by first | exact .inl (by decide +kernel) | exact .inr (by decide +kernel)) (by rw [isSubtype_type];kernel_rfl)
theorem entry_si_next:entryFor table "set_iterator.__next__" = some Builtin.«set_iterator.__next__» := entryFor_of_tree (by kernel_rfl)
theorem args_si_next (a:Value):argsOk "set_iterator.__next__" ⟨[a],[]⟩:=by unfold argsOk;kernel_rfl
theorem slot_si_iter:Slot "set_iterator" "__iter__" "set_iterator.__iter__" :=
 .of (owner := "set_iterator") (n := "__iter__") (by rw [typeLookup_type,builtinLookup_eq_fast];kernel_rfl) (by decide +kernel) (by decide +kernel) (by decide +kernel)
  (by first | exact .inl (by decide +kernel) | exact .inr (by decide +kernel)) (by rw [isSubtype_type];kernel_rfl)
theorem entry_si_iter:entryFor table "set_iterator.__iter__" = some Builtin.«dict_keyiterator.__iter__» :=
 entryFor_alias (id' := "dict_keyiterator.__iter__") (by kernel_rfl) rfl (by decide +kernel) (by kernel_rfl)
theorem args_si_iter (a:Value):argsOk "set_iterator.__iter__" ⟨[a],[]⟩:=by unfold argsOk;kernel_rfl
theorem entry_set_iter:entryFor table "set.__iter__" = some Builtin.«frozenset.__iter__» :=
 entryFor_alias (id' := "frozenset.__iter__") (by kernel_rfl) rfl (by decide +kernel) (by kernel_rfl)
end
section
open PySem PySem.Calls
open Sem (wp)
theorem erase_perm {α:Type}{l:List α}:∀ {i:Nat}(h:i<l.length),(l[i]::l.eraseIdx i).Perm l:=by
 induction l with
 | nil=>intro i h;cases h
 | cons x r ih =>
  intro i h
  cases i with
  | zero=>exact List.Perm.refl _
  | succ i=>exact (List.Perm.swap _ _ _).trans ((ih (Nat.lt_of_succ_lt_succ h)).cons x)
theorem erase_len {α:Type}{l:List α}(h:i<l.length)(hl:l.length≤n+1):(l.eraseIdx i).length≤n:=by
 rw [List.length_eraseIdx_of_lt h];exact Nat.sub_le_of_le_add hl
section
variable {M:Model}
theorem wpAny_choose {src:Source}{Q:Nat->Shared->Prop}(hn:n≠0)(h:∀ i,i<n->Q i { s with drawn:=s.drawn.bump src }):wpAny M A (choose src n) Q E s:=fun Γ p _=>by
 show wp M Γ (.choose src n .pure) _ _ p s;rw [wp];refine ⟨hn,?_⟩;rw [wp];exact h _ (Nat.mod_lt _ (Nat.pos_of_ne_zero hn))
theorem wpAny_drawOrder {α:Type}(n:Nat):∀ (xs:List α) (s:Shared) {Q:List α->Shared->Prop},xs.length≤n->(∀ ys dr,ys.Perm xs->Q ys { s with drawn:=dr })->wpAny M A (drawOrder n xs) Q E s:=by
 induction n with
 | zero =>
  intro xs s Q hl h;have:=List.length_eq_zero_iff.mp (Nat.le_zero.mp hl);subst this;exact wpAny_pure (h [] s.drawn (.refl _))
 | succ n ih =>
  intro xs s Q hl h
  cases xs with
  | nil=>exact wpAny_pure (h [] s.drawn (.refl _))
  | cons x xs =>
   refine wpAny_bind (m:=choose .order (x::xs).length) (wpAny_choose (Nat.succ_ne_zero _) fun i hi=>?_);rw [List.getElem?_eq_getElem hi];exact wpAny_bind (ih _ _ (erase_len hi hl) fun ys dr hp=>wpAny_pure (h _ dr ((List.Perm.cons _ hp).trans (erase_perm hi))))
end
theorem eraseIdx_map' {α β:Type}(f:α->β)(l:List α):∀ (i:Nat),(l.map f).eraseIdx i=(l.eraseIdx i).map f:=by
 induction l with
 | nil=>intro i;rfl
 | cons x r ih =>
  intro i
  cases i with
  | zero=>rfl
  | succ i=>exact congrArg (f x::·) (ih i)
theorem pick_none {α:Type}{next:Nat->Nat}{fuel k:Nat}{left:List α}{out:Array α}(e:left[next k % left.length]? = none):pickOrder.go next (fuel+1) k left out=out:=by rw [pickOrder.go,e]
theorem pick_some {α:Type}{next:Nat->Nat}{fuel k:Nat}{left:List α}{out:Array α}{x:α}(e:left[next k % left.length]? = some x):pickOrder.go next (fuel+1) k left out=pickOrder.go next fuel (k+1) (left.eraseIdx (next k % left.length)) (out.push x):=by rw [pickOrder.go,e]
theorem pickOrder_go {α:Type}(next:Nat->Nat){fuel:Nat}:∀ {k:Nat}{left:List α}{out:Array α},left.length≤fuel->(pickOrder.go next fuel k left out).toList.Perm (out.toList++left):=by
 induction fuel with
 | zero =>
  intro k left out h;have:=List.length_eq_zero_iff.mp (Nat.le_zero.mp h);subst this;exact (List.append_nil out.toList).symm▸.refl _
 | succ fuel ih =>
  intro k left out h
  cases e:left[next k % left.length]? with
  | none =>
   rw [pick_none e]
   cases left with
   | nil=>exact (List.append_nil out.toList).symm▸.refl _
   | cons x r=>exact absurd (List.getElem?_eq_none_iff.mp e) (Nat.not_le_of_lt (Nat.mod_lt _ (Nat.succ_pos _)))
  | some x =>
   rw [pick_some e];refine (List.getElem?_eq_some_iff.mp e).elim fun hi hx=>?_;refine (ih (erase_len hi h)).trans ?_;rw [Array.toList_push,List.append_assoc];exact List.Perm.append_left _ (show (x::left.eraseIdx _).Perm left from hx▸erase_perm hi)
theorem pickOrder_go_map {α β:Type}(f:α->β)(next:Nat->Nat){fuel:Nat}:∀ {k:Nat}{left:List α}{out:Array α},pickOrder.go next fuel k (left.map f) (out.map f)=(pickOrder.go next fuel k left out).map f:=by
 induction fuel with
 | zero=>intros;rfl
 | succ fuel ih =>
  intro k left out
  cases e:left[next k % left.length]? with
  | none=>rw [pick_none e,pick_none (by rw [List.length_map,List.getElem?_map,e];rfl)]
  | some x=>rw [pick_some e,pick_some (x:=f x) (by rw [List.length_map,List.getElem?_map,e];rfl),<-Array.map_push,List.length_map,eraseIdx_map'];exact ih
theorem pickOrder_idx (next:Nat->Nat)(es:Array (Int×Value)):∃ ord:List Nat,ord.Perm (List.range es.size)∧∀ j:Nat,(pickOrder next es)[j]? = (ord[j]?).bind fun x=>es[x]? := by
 let f:Nat->Int×Value:=fun i=>es.getD i (0,.none)
 have e1:es.toList=(List.range es.size).map f:=by
  apply List.ext_getElem
  ·simp
  ·intro i h1 h2
   have:i<es.size:=by simpa using h1
   simp [f,Array.getD,this]
 have e2:pickOrder next es=(pickOrder.go next es.size 0 (List.range es.size) #[]).map f:=by
  unfold pickOrder;rw [e1]
  have:=pickOrder_go_map f next (fuel:=es.size) (k:=0) (left:=List.range es.size) (out:=#[])
  simpa using this
 have hp:=pickOrder_go next (fuel:=es.size) (k:=0) (left:=List.range es.size) (out:=#[]) (by rw [List.length_range];exact Nat.le_refl _)
 refine ⟨(pickOrder.go next es.size 0 (List.range es.size) #[]).toList,by simpa using hp,fun j=>?_⟩;rw [e2,Array.getElem?_map,<-Array.getElem?_toList]
 cases q:(pickOrder.go next es.size 0 (List.range es.size) #[]).toList[j]? with
 | none=>rfl
 | some x =>
  have hx:x<es.size:=by
   have hm:=hp.mem_iff.mp (List.mem_of_getElem? q)
   simpa using hm
  show some (f x)=es[x]?;simp [f,Array.getD,hx]
theorem pickOrder_perm {α:Type}(next:Nat->Nat)(xs:Array α):(pickOrder next xs).toList.Perm xs.toList:=by
 unfold pickOrder
 have:=pickOrder_go next (fuel:=xs.size) (k:=0) (left:=xs.toList) (out:=#[]) (Nat.le_refl _)
 simpa using this
theorem wpAny_bind_assoc2 {α:Type}{M:Model}{m₁ m₂:Sem Unit}{f:Sem α}{Q:α->Shared->Prop}(h:wpAny M A (do m₁;m₂) (fun _ s'=>wpAny M A f Q E s') E s):wpAny M A (do m₁;m₂;f) Q E s:=by
 have e:(do m₁;m₂;f:Sem α)=((do m₁;m₂:Sem Unit)>>=fun _=>f):=by rw [bind_assoc]
 rw [e];exact wpAny_bind h
section
variable {w:World}{k:Key}{v:Value}{ob:Obj}
theorem SAt.entries (D:SAt w F s a ks ob es n t){Q:Array (Int×Value)->Shared->Prop}(h:Q es s):wpAny (model prog w) A (setEntries a) Q E s:=by
 unfold setEntries;exact wpAny_bind (D.state (wpAny_pure h))
theorem SAt.epoch (D:SAt w F s a ks ob es n t){Q:Nat->Shared->Prop}(h:Q n s):wpAny (model prog w) A (setEpoch a) Q E s:=by
 unfold setEpoch;exact wpAny_bind (D.state (wpAny_pure h))
theorem wpAny_byText (h:Q (w.params.followText "set-order") s):wpAny (model prog w) A setsByText Q E s:=by
 show wpAny (model prog w) A (ask>>=_) _ _ s
 exact wpAny_bind (fun Γ p _=>by
  show wp _ Γ (.ask .pure) _ _ p s;rw [wp,wp]
  exact wpAny_pure h)
inductive SIter (w:World) (a:Addr) (F:PMap) (es:Array (Int×Value)) (n:Nat) (t:SetTable) (ord:List Nat) (i:Nat) (o:Obj):Prop
 | text (f:Nat):w.params.followText "set-order" = true->(∀ j:Nat,(pickOrder (w.params.setOrder a n) es)[j]? = (ord[j]?).bind fun x=>es[x]?)->o.cls=.type "set_iterator"->o.data=.fields #[.int f 0,.int i 0,.ref a,.int es.size 0,.int n 0]->SIter w a F es n t ord i o
 | slot (f:Nat):ord=List.range es.size->w.params.followText "set-order" = false->(!t.plain&&es.size > 1)=false->SetTable.below t.place f=i->o.cls=.type "set_iterator"->o.data=.fields #[.int f 0,.int i 0,.ref a,.int es.size 0,.int n 0]->SIter w a F es n t ord i o
 | drawn {b:Addr}{m:Nat}:w.params.followText "set-order" = false->F b=some { cls:=.type "tuple",data:=.seq (ord.map fun i:Nat=>rawInt i).toArray m }->o.cls=.type "set_iterator"->o.data=.fields #[.ref b,.int i 0,.ref a,.int es.size 0,.int n 0]->SIter w a F es n t ord i o
theorem si_type {it:Addr}(ho:s.heap.get? it=some o)(hc:o.cls=.type "set_iterator"):s.TypeIs (.ref it) "set_iterator" := ⟨o,ho,hc⟩
theorem SIter.cls {ord:List Nat}(J:SIter w a F es n t ord i o):o.cls=.type "set_iterator" := by cases J<;>assumption
theorem SIter.fields {ord:List Nat}(J:SIter w a F es n t ord i o):∃ x,o.data=.fields #[x,.int i 0,.ref a,.int es.size 0,.int n 0]∧((∃ f:Nat,x=.int f 0)∨∃ b,x=.ref b):=by
 cases J with
 | text f _ _ _ h=>exact ⟨_,h,.inl ⟨f,rfl⟩⟩
 | slot f _ _ _ _ _ h=>exact ⟨_,h,.inl ⟨f,rfl⟩⟩
 | drawn _ _ _ h=>exact ⟨_,h,.inr ⟨_,rfl⟩⟩
theorem setField2 {it:Addr}{y:Value}{sz:Nat}{Q:Unit->Shared->Prop}{u v:Value}(ho:s.heap.get? it=some o)(hc:o.cls=.type "set_iterator")(hd:o.data=.fields #[y,.int i 0,.ref a,.int sz 0,.int n 0])(hQ:∀ h' o',h'.get? it=some o'->o'.cls=.type "set_iterator"->o'.data=.fields #[u,v,.ref a,.int sz 0,.int n 0]->Heap.SameBut it s.heap h'->Q () { s with heap:=h' }) :
  wpAny (model prog w) A (do setField (.ref it) 0 u;setField (.ref it) 1 v) Q E s:=by
 refine wpAny_bind (wpAny_setField ho hd (by simp) ?_);have h1:(s.heap.update it (Obj.mapFields (·.setIfInBounds 0 u))).get? it=some _:=Heap.get?_update_self _ ho (Obj.isFreed_of_fields (Obj.data_mapFields hd _))
 have d1:(Obj.mapFields (·.setIfInBounds 0 u) o).data=.fields #[u,.int i 0,.ref a,.int sz 0,.int n 0]:=by rw [Obj.data_mapFields hd];simp
 refine wpAny_setField (s:={ s with heap:=s.heap.update it (Obj.mapFields (·.setIfInBounds 0 u)) }) h1 d1 (by simp) ?_;refine hQ _ _ (Heap.get?_update_self _ h1 (Obj.isFreed_of_fields (Obj.data_mapFields d1 _))) ((Obj.cls_mapFields ..).trans ((Obj.cls_mapFields ..).trans hc)) (by rw [Obj.data_mapFields d1];simp) ((Heap.SameBut.update ..).trans (Heap.SameBut.update ..))
theorem setField1 {it:Addr}{y:Value}{sz:Nat}{Q:Unit->Shared->Prop}{v:Value}(ho:s.heap.get? it=some o)(hc:o.cls=.type "set_iterator")(hd:o.data=.fields #[y,.int i 0,.ref a,.int sz 0,.int n 0])(hQ:∀ h' o',h'.get? it=some o'->o'.cls=.type "set_iterator"->o'.data=.fields #[y,v,.ref a,.int sz 0,.int n 0]->Heap.SameBut it s.heap h'->Q () { s with heap:=h' }) :
  wpAny (model prog w) A (setField (.ref it) 1 v) Q E s:=by
 refine wpAny_setField ho hd (by simp) ?_;exact hQ _ _ (Heap.get?_update_self _ ho (Obj.isFreed_of_fields (Obj.data_mapFields hd _))) ((Obj.cls_mapFields ..).trans hc) (by rw [Obj.data_mapFields hd];simp) (Heap.SameBut.update ..)
theorem below_next {xs:Array Nat}{x:Nat}(hs:xs.toList.Pairwise (· < ·))(hj:xs[x]? = some j):SetTable.below xs (j+1)=x+1:=by
 refine el03 (below_spec (j:=j+1) hs) fun b1 b2 b3=>?_
 rcases Nat.lt_trichotomy (SetTable.below xs (j+1)) (x+1) with q | q | q
 ·exact absurd (b3 x j (Nat.le_of_lt_succ q) hj) (Nat.not_succ_le_self j)
 ·exact q
 ·exact (get_in (Nat.lt_of_lt_of_le q b1)).elim fun y hy=>absurd (asc_lt hs (Nat.lt_succ_self x) hj hy) (Nat.not_lt_of_le (Nat.le_of_lt_succ (b2 _ y q hy)))
noncomputable def nxM (it:Value)(i:Int):Option (Value×Nat)->Sem PySem.Fin
 | some (x,next)=>do setField it 0 (rawInt next);setField it 1 (rawInt (i+1));ret x
 | none=>do setField it 2 .none;raiseNew (← newExc (.type "StopIteration") [])
noncomputable def nxP (it:Value)(a:Addr)(i:Int)(epoch x:Nat):Sem PySem.Fin:=do
 let x ← setNextDrawn a x epoch
 setField it 1 (rawInt (i+1))
 ret x
noncomputable def nxZ (it:Value):Sem PySem.Fin:=do setField it 0 (rawInt 0);setField it 2 .none;raiseNew (← newExc (.type "StopIteration") [])
@[reducible] noncomputable def nxQ (prog:Program)(w:World)(A:Around)(Q:Option Value->Shared->Prop)(E:Value->Shared->Prop):PySem.Fin->Shared->Prop:=fun fin s'=>∃ v,fin=.done (.ret v)∧wpAny (model prog w) A (pure (some v)) Q E s'
@[reducible] noncomputable def nxE (prog:Program)(w:World)(A:Around)(Q:Option Value->Shared->Prop)(E:Value->Shared->Prop):Value->Shared->Prop:=fun e s'=>wpAny (model prog w) A (do if ← isInstance e (.type "StopIteration") then pure none else throw e) Q E s'
theorem setNext_text {K:Option (Value×Nat)->Shared->Prop}{f:Nat}(D:SAt w F s a ks ob es n t)(h1:w.params.followText "set-order" = true)(h:K (((pickOrder (w.params.setOrder a n) es)[i]?).map fun e=>(e.2,f)) s):wpAny (model prog w) A (setNext a f i n) K E s :=
 wpAny_bind (D.state (wpAny_bind (wpAny_byText (ifT h1 (ifF (by rw [bne_self_eq_false];exact Bool.false_ne_true) (wpAny_bind (wpAny_bind (D.state (wpAny_bind (wpAny_byText (ifT h1 (wpAny_bind (wpAny_askSetting (wpAny_pure (wpAny_pure h)))))))))))))))
noncomputable def slotK (es:Array (Int×Value))(t:SetTable)(i:Nat):Option (Value×Nat):=match es[i]?,t.place[i]? with
 | some (_,x),some j=>some (x,j+1)
 | _,_=>none
theorem setNext_slot {K:Option (Value×Nat)->Shared->Prop}{f:Nat}(D:SAt w F s a ks ob es n t)(h1:w.params.followText "set-order" = false)(h2:(!t.plain&&decide (es.size > 1))=false)(h:K (slotK es t (SetTable.below t.place f)) s):wpAny (model prog w) A (setNext a f i n) K E s :=
 wpAny_bind (D.state (wpAny_bind (wpAny_byText (ifF (by rw [h1];exact Bool.false_ne_true) (ifF (show ¬ ((!t.plain&&decide (es.size > 1))=true) by rw [h2];exact Bool.false_ne_true)
  (wpAny_bind (ifF (show ¬ ((!t.led&&!es.isEmpty)=true) by rw [D.ok.led h1];exact Bool.false_ne_true) (wpAny_pure (wpAny_pure h)))))))))
theorem setNext_drawn {K:Value->Shared->Prop}{x:Nat}{e:Int×Value}(D:SAt w F s a ks ob es n t)(he:es[x]? = some e)(h:K e.2 s):wpAny (model prog w) A (setNextDrawn a x n) K E s:=by
 refine wpAny_bind (D.state (ifF (by rw [bne_self_eq_false];exact Bool.false_ne_true) ?_));dsimp only;rw [he];exact wpAny_pure h
theorem nextS_go {it:Addr}{y:Value}{Q:Option Value->Shared->Prop}(D:SAt w F s a ks ob es n t)(ho:s.heap.get? it=some o)(hc:o.cls=.type "set_iterator")(hd:o.data=.fields #[y,.int i 0,.ref a,.int es.size 0,.int n 0])(hi:∀ f:Nat,y=.int f 0->wpAny (model prog w) A.in1 (setNext a f i n>>=nxM (.ref it) i) (nxQ prog w A Q E) (nxE prog w A Q E) s)(hr:∀ b,y=.ref b->∃ o' places m,s.heap.get? b=some o'∧o'.data=.seq places m∧((∃ x:Nat,places[i]? = some (.int x 0)∧wpAny (model prog w) A.in1 (nxP (.ref it) a i n x) (nxQ prog w A Q E) (nxE prog w A Q E) s)∨(places[i]? = none∧wpAny (model prog w) A.in1 (nxZ (.ref it)) (nxQ prog w A Q E) (nxE prog w A Q E) s)))(hy:(∃ f:Nat,y=.int f 0)∨∃ b,y=.ref b):wpAny (model prog w) A (pyNext (.ref it)) Q E s:=by
 have hT:=si_type ho hc;unfold pyNext;refine wpAny_bind (wpAny_attempt (wpAny_callSpecial?_slot (name:=Str.ofString "__next__") hT slot_si_next (wpAny_call_entry slot_si_next hT entry_si_next ?_ (args_si_next _))));unfold Builtin.«set_iterator.__next__»;refine wpAny_bind (m:=slotArgs "__next__" 0 _) (wpAny_pure ?_);refine wpAny_bind (wpAny_fieldsOf ho hd ?_);dsimp only;refine wpAny_bind (D.entries (ifF (by rw [bne_self_eq_false];exact Bool.false_ne_true) ?_));refine hy.elim (fun q=>q.elim fun f e=>?_) fun q=>q.elim fun b e=>?_
 ·have g:=hi f e;subst e;exact g
 ·have g:=hr b e;subst e;refine el33 g fun o' places m g1 g2 g3=>wpAny_bind (wpAny_seqItems g1 g2 ?_);rw [show ((i:Int)).toNat=i from rfl];dsimp only;refine g3.elim (fun q=>el12 q fun x q1 q2=>?_) fun q=>?_
  ·rw [q1];exact q2
  ·rw [q.1];exact q.2
theorem nextS_item {it:Addr}{ord:List Nat}{x:Nat}{e:Int×Value}{Q:Option Value->Shared->Prop}(D:SAt w F s a ks ob es n t)(ho:s.heap.get? it=some o)(J:SIter w a F es n t ord i o)(hx:ord[i]? = some x)(he:es[x]? = some e)(hQ:∀ h' o',h'.get? it=some o'->SIter w a F es n t ord (i+1) o'->Heap.SameBut it s.heap h'->Q (some e.2) { s with heap:=h' }):wpAny (model prog w) A (pyNext (.ref it)) Q E s:=by
 have step:∀ {f f':Nat},o.cls=.type "set_iterator"->o.data=.fields #[.int f 0,.int i 0,.ref a,.int es.size 0,.int n 0]->(∀ o',o'.cls=.type "set_iterator"->o'.data=.fields #[.int f' 0,.int (i+1:Nat) 0,.ref a,.int es.size 0,.int n 0]->SIter w a F es n t ord (i+1) o')->
   wpAny (model prog w) A.in1 (nxM (.ref it) i (some (e.2,f'))) (nxQ prog w A Q E) (nxE prog w A Q E) s:=fun hc hd hJ =>
  wpAny_bind_assoc2 (setField2 ho hc hd fun h' o' g1 g2 g3 g4=>wpAny_pure ⟨_,rfl,wpAny_pure (hQ h' o' g1 (hJ o' g2 g3) g4)⟩)
 cases J with
 | text f h1 h2 h3 h4 =>
  refine nextS_go D ho h3 h4 (fun f' q=>?_) (fun b q=>nomatch q) (.inl ⟨f,rfl⟩)
  cases q
  refine wpAny_bind (setNext_text D h1 ?_);rw [h2,hx,show (some x).bind (fun x=>es[x]?)=some e from he];exact step h3 h4 fun o' g2 g3=>.text f h1 h2 g2 g3
 | slot f h0 h1 h2 h3 h4 h5 =>
  refine nextS_go D ho h4 h5 (fun f' q=>?_) (fun b q=>nomatch q) (.inl ⟨f,rfl⟩)
  cases q
  refine wpAny_bind (setNext_slot D h1 h2 ?_);rw [h0] at hx;have hxi:i=x:=(List.getElem?_eq_some_iff.mp hx).elim fun h q=>(List.getElem_range h).symm.trans q;subst hxi;refine (get_in (show i<t.place.size by rw [D.ok.tab.size,List.length_map,<-D.size];exact (Array.getElem?_eq_some_iff.mp he).1)).elim fun j hj=>?_;rw [h3,show slotK es t i=some (e.2,j+1) by unfold slotK;rw [he,hj]];exact step h4 h5 fun o' g2 g3=>.slot (j+1) h0 h1 h2 (below_next D.ok.tab.asc hj) g2 g3
 | drawn h1 h2 h3 h4 =>
  refine nextS_go D ho h3 h4 (fun f' q=>nomatch q) (fun b q=>?_) (.inr ⟨_,rfl⟩)
  cases q
  exact ⟨_,_,_,D.hF _ _ h2,rfl,.inl ⟨x,by rw [List.getElem?_toArray,List.getElem?_map,hx];rfl,wpAny_bind (setNext_drawn D he (wpAny_bind (setField1 ho h3 h4 fun h' o' g1 g2 g3 g4=>wpAny_pure ⟨_,rfl,wpAny_pure (hQ h' o' g1 (.drawn h1 h2 g2 g3) g4)⟩)))⟩⟩
theorem stop_tail {Q:Option Value->Shared->Prop}(hh:A.handled=none)(h:∀ h',(∀ b o,s.heap.get? b=some o->h'.get? b=some o)->Q none { s with heap:=h' }) :
  wpAny (model prog w) A.in1 (do let e ← newExc (.type "StopIteration") [];raiseNew (α:=Fin) e) (fun fin s'=>∃ v,fin=.done (.ret v)∧wpAny (model prog w) A (pure (some v)) Q E s')
   (fun e s'=>wpAny (model prog w) A (do if ← isInstance e (.type "StopIteration") then pure none else throw e) Q E s') s:=by
 refine wpAny_bind ?_;unfold newExc newTuple;refine wpAny_bind (wpAny_newObj_type ?_ (by size_fits));refine wpAny_bind (m:=firstArgMember _ _) (wpAny_of_eq (a:=Value.none) (by first | rfl | (unfold firstArgMember;rfl)) ?_);refine wpAny_newObj_type ?_ (by size_fits);unfold raiseNew;refine wpAny_bind (wpAny_handled ?_);rw [show A.in1.handled=none from hh];refine wpAny_bind (wpAny_pure (wpAny_throw ?_));refine wpAny_bind (wpAny_isInstance (T := "StopIteration") (b:=true) ⟨_,Heap.get?_push_size _ rfl,rfl⟩ isSubtype_stop ?_);exact wpAny_pure (h _ fun b o e=>Heap.get?_push_of_some _ (Heap.get?_push_of_some _ e))
theorem nextS_end {it:Addr}{ord:List Nat}{Q:Option Value->Shared->Prop}(hh:A.handled=none)(D:SAt w F s a ks ob es n t)(ho:s.heap.get? it=some o)(J:SIter w a F es n t ord i o)(hx:ord[i]? = none)(hQ:∀ h',(∀ b o,b≠it->s.heap.get? b=some o->h'.get? b=some o)->Q none { s with heap:=h' }):wpAny (model prog w) A (pyNext (.ref it)) Q E s:=by
 have keep1:∀ {k:Nat}{u:Value}(b:Addr) (p:Obj),b≠it->s.heap.get? b=some p->(s.heap.update it (Obj.mapFields (·.setIfInBounds k u))).get? b=some p:=fun b p ne e=>(Heap.get?_update_other _ _ (Ne.symm ne)).trans e
 have last:∀ {y:Value},o.data=.fields #[y,.int i 0,.ref a,.int es.size 0,.int n 0]->wpAny (model prog w) A.in1 (nxM (.ref it) i none) (nxQ prog w A Q E) (nxE prog w A Q E) s:=fun hd =>
  wpAny_bind (wpAny_setField ho hd (by show 2<5;decide) (stop_tail (s:={ s with heap:=s.heap.update it (Obj.mapFields (·.setIfInBounds 2 Value.none)) }) hh fun h' hk=>hQ h' fun b p ne e=>hk b p (keep1 b p ne e)))
 cases J with
 | text f h1 h2 h3 h4 =>
  refine nextS_go D ho h3 h4 (fun f' q=>?_) (fun b q=>nomatch q) (.inl ⟨f,rfl⟩)
  cases q
  refine wpAny_bind (setNext_text D h1 ?_);rw [h2,hx];exact last h4
 | slot f h0 h1 h2 h3 h4 h5 =>
  refine nextS_go D ho h4 h5 (fun f' q=>?_) (fun b q=>nomatch q) (.inl ⟨f,rfl⟩)
  cases q
  refine wpAny_bind (setNext_slot D h1 h2 ?_);have hei:es[i]? = none:=Array.getElem?_eq_none (by have:=List.getElem?_eq_none_iff.mp hx;rw [h0,List.length_range] at this;exact this);rw [h3,show slotK es t i=none by unfold slotK;rw [hei]];exact last h5
 | drawn h1 h2 h3 h4 =>
  refine nextS_go D ho h3 h4 (fun f' q=>nomatch q) (fun b q=>?_) (.inr ⟨_,rfl⟩)
  cases q
  refine ⟨_,_,_,D.hF _ _ h2,rfl,.inr ⟨by rw [List.getElem?_toArray,List.getElem?_map,hx];rfl,?_⟩⟩;refine wpAny_bind (wpAny_setField ho h4 (by show 0<5;decide) ?_);have h1':(s.heap.update it (Obj.mapFields (·.setIfInBounds 0 (rawInt 0)))).get? it=some _:=Heap.get?_update_self _ ho (Obj.isFreed_of_fields (Obj.data_mapFields h4 _));refine wpAny_bind (wpAny_setField (s:={ s with heap:=s.heap.update it (Obj.mapFields (·.setIfInBounds 0 (rawInt 0))) }) h1' (Obj.data_mapFields h4 _) (by show 2<5;decide) ?_);exact stop_tail (s:={ s with heap:=(s.heap.update it (Obj.mapFields (·.setIfInBounds 0 (rawInt 0)))).update it (Obj.mapFields (·.setIfInBounds 2 Value.none)) }) hh fun h' hk=>hQ h' fun b p ne e=>hk b p ((Heap.get?_update_other _ _ (Ne.symm ne)).trans (keep1 b p ne e))
theorem below_zero {xs:Array Nat}(hs:xs.toList.Pairwise (· < ·)):SetTable.below xs 0=0:=by
 refine el03 (below_spec (j:=0) hs) fun b1 b2 b3=>?_
 rcases Nat.eq_zero_or_pos (SetTable.below xs 0) with q | q
 ·exact q
 ·have:=b2 0 _ q (Array.getElem?_eq_getElem (by lia));lia
theorem iterS {Q:Value->Shared->Prop}(hnot:s.heap.objs.size≠a)(D:SAt w F s a ks ob es n t)(hQ:∀ (ord:List Nat) (dr:_) (o:Obj) (F':PMap) (h':Heap),ord.Perm (List.range es.size)->PLe F F'->(F'=F∧h'=s.heap∨(∃ ot,ot.isFreed=false∧h'=s.heap.push ot∧F'=PSet F s.heap.objs.size ot))->SIter w a F' es n t ord 0 o->o.isFreed=false->
   Q (.ref h'.objs.size) { s with heap:=h'.push o,drawn:=dr }):wpAny (model prog w) A (pyIter (.ref a)) Q E s:=by
 have hT:=D.typeIs
 have nF:F s.heap.objs.size=none:=by
  cases e:F s.heap.objs.size with
  | none=>rfl
  | some ob=>exact absurd (Heap.lt_size (D.hF _ _ e)) (Nat.lt_irrefl _)
 refine wpAny_pyIter_slot hT PySem.F.slot_set_iter (wpAny_call_entry PySem.F.slot_set_iter hT entry_set_iter ?_ (PySem.F.args_set_iter_1 _));unfold Builtin.«frozenset.__iter__»;refine wpAny_bind ?_;unfold Builtin.Frozenset.slot0;refine wpAny_bind (m:=slotArgs "__iter__" 0 _) (wpAny_pure ?_);show wpAny _ _ (pure a) _ _ s;refine wpAny_pure ?_;refine wpAny_bind ?_;unfold Builtin.Frozenset.sizeOf;refine wpAny_bind (D.entries (wpAny_pure ?_));refine wpAny_bind ?_;unfold setDrawn;refine wpAny_bind (D.state ?_);refine wpAny_bind (wpAny_byText (wpAny_pure ?_));show wpAny _ _ (if (!w.params.followText "set-order" && (!t.plain&&decide (es.size > 1)))=true then _ else _) _ _ _
 have mk:∀ (x:Value) (o:Obj) (h':Heap) (dr:_) (b:Addr) (hb:b=a),o={ cls:=.type "set_iterator",data:=.fields [x,rawInt 0,.ref a,rawInt es.size,rawInt n].toArray }->(∀ q p,s.heap.get? q=some p->h'.get? q=some p)->
   Q (.ref h'.objs.size) { s with heap:=h'.push o,drawn:=dr }->
   wpAny (model prog w) A.in1 (do ret (← newFields "set_iterator" [x,rawInt 0,.ref a,rawInt es.size,rawInt (← setEpoch a)])) (fun fin s'=>∃ v,fin=.done (.ret v)∧∃ T' r,s'.TypeIs v T'∧typeLookup (.type T') (Str.ofString "__next__")=pure (some r)∧Q v s') E { s with heap:=h',drawn:=dr }:=fun x o h' dr b hb ho hk hq=>by
  have D':SAt w F { s with heap:=h',drawn:=dr } a ks ob es n t:=⟨fun q p e=>hk q p (D.hF q p e),hk _ _ D.ho,D.hx,D.hd,D.hl,D.he,D.ok⟩;refine wpAny_bind (D'.epoch ?_);refine wpAny_bind (wpAny_newObj_type (wpAny_pure ⟨_,rfl, "set_iterator",_,⟨_,Heap.get?_push_size _ rfl,rfl⟩,slot_si_next.lookup,?_⟩));rw [ho] at hq;exact hq
 cases hbt:w.params.followText "set-order" with
 | true =>
  simp only [Bool.not_true,Bool.false_and,Bool.false_eq_true,if_false];refine wpAny_bind (wpAny_pure ?_);refine el12 (pickOrder_idx (w.params.setOrder a n) es) fun ord hperm hget=>?_;exact mk _ _ s.heap s.drawn a rfl rfl (fun _ _ e=>e) (hQ ord s.drawn _ F s.heap hperm (.refl _) (.inl ⟨rfl,rfl⟩) (.text 0 hbt hget rfl (by simp [rawInt])) rfl)
 | false =>
  simp only [Bool.not_false,Bool.true_and];by_cases hdr:(!t.plain&&decide (es.size > 1))=true
  ·rw [if_pos hdr];refine wpAny_bind (wpAny_drawOrder es.size (List.range es.size) s (Nat.le_of_eq (List.length_range ..)) fun ys dr hp=>?_);refine wpAny_bind (wpAny_newObj_type (s:={ s with drawn:=dr }) ?_ ?_)
   ·have hne:a≠s.heap.objs.size:=fun e=>hnot e.symm;refine mk _ _ _ dr a rfl rfl (fun q p e=>Heap.get?_push_of_some _ e) (hQ ys dr _ (PSet F s.heap.objs.size _) _ hp (PSet.le nF) (.inr ⟨_,rfl,rfl,rfl⟩) (.drawn hbt (PSet.self ..) rfl (by simp [rawInt])) rfl)
   ·show (List.map (fun i:Nat=>rawInt i) ys).toArray.size≤sizeLine;rw [List.size_toArray,List.length_map,hp.length_eq,List.length_range,D.size];have:=D.ok.small;have h4:scanBound=4096:=rfl;show _≤2 ^ 24;lia
  ·rw [if_neg hdr];refine wpAny_bind (wpAny_pure ?_);exact mk _ _ s.heap s.drawn a rfl rfl (fun _ _ e=>e) (hQ (List.range es.size) s.drawn _ F s.heap (.refl _) (.refl _) (.inl ⟨rfl,rfl⟩) (.slot 0 rfl hbt (by simpa using hdr) (below_zero D.ok.tab.asc) rfl (by simp [rawInt])) rfl)
end
end
section
open PySem PySem.Calls
noncomputable def tb (mask:Nat):SetTable:={ mask:=mask,place:=#[],dummies:=#[],finger:=0,led:=true,moves:=0,plain:=true }
noncomputable def OwnerAt (mask:Nat)(ps:List Nat)(owner:Array (Option Nat)):Prop:=owner.size=mask+1∧∀ j,j≤mask->owner[j]? = some (ps.idxOf? j)
theorem idxOf?_none {ps:List Nat}:ps.idxOf? j=none↔j∉ps:=List.idxOf?_eq_none_iff
theorem idxOf?_some {ps:List Nat}(hn:ps.Nodup){k:Nat}:ps.idxOf? j=some k↔ps[k]? = some j:=by
 constructor
 ·intro h;refine el12 (List.findIdx?_eq_some_iff_getElem.mp h) fun hk e _=>?_;rw [List.getElem?_eq_getElem hk]
  simpa using e
 ·intro h
  cases e:ps.idxOf? j with
  | none=>exact absurd (List.mem_of_getElem? h) (idxOf?_none.mp e)
  | some k' =>
   refine el12 (List.findIdx?_eq_some_iff_getElem.mp e) fun hk e' _=>?_
   have e':ps[k']? = some j:=by rw [List.getElem?_eq_getElem hk];simpa using e'
   have:k'=k:=(List.getElem?_inj hk hn).mp (e'.trans h.symm);rw [this]
abbrev Upto (mask:Nat)(ps:List Nat)(h:Int)(n:Nat):Prop:=∀ m,m<n->(prb (tb mask) h m).j∈ps
theorem Upto.more {mask:Nat}{ps:List Nat}{h:Int}{r c:Nat}{x:Nat×Nat}(hu:Upto mask ps h n)(hp:prb (tb mask) h n=blk mask x)(hr:SetTable.runEnd mask x.1=x.1+r)(hc:c≤r+1)(ha:∀ k,k<c->x.1+k∈ps):Upto mask ps h (n+c):=fun m hm=>by
 rcases Nat.lt_or_ge m n with q | q
 ·exact hu m q
 ·refine (Nat.exists_eq_add_of_le q).elim fun k e=>?_;subst e;have hk:=Nat.lt_of_add_lt_add_left hm;unfold blk at hp;rw [hr,Nat.add_sub_cancel_left] at hp;rw [prb_run hp (Nat.le_of_lt_succ (Nat.lt_of_lt_of_le hk hc))];exact ha k hk
theorem own_at {mask:Nat}{ps:List Nat}{owner:Array (Option Nat)}(hO:OwnerAt mask ps owner)(hj:j≤mask)(z:Option Nat):owner.getD j z=ps.idxOf? j:=by
 rw [Array.getD_eq_getD_getElem?,hO.2 j hj];rfl
theorem free_lt {L k fuel T:Nat}(h:n≤10*L)(hk:k≤9)(hT:L+(fuel+1)≤T):n+k<10*T:=Nat.lt_of_lt_of_le (Nat.lt_of_lt_of_le (Nat.lt_succ_self _) (ten_le h hk)) (Nat.mul_le_mul_left 10 (Nat.le_trans (Nat.add_le_add_left (Nat.succ_le_succ (Nat.zero_le fuel)) L) hT))
theorem free_some {mask:Nat}{owner:Array (Option Nat)}{fuel r k:Nat}{x:Nat×Nat}(hr:SetTable.runEnd mask x.1=x.1+r)(e:((List.range (r+1)).find? fun k=>(owner.getD (x.1+k) (some 0)).isNone)=some k):SetTable.layClean.free mask owner (fuel+1) x.1 x.2=some (x.1+k):=by
 rw [SetTable.layClean.free,hr,Nat.add_assoc,Nat.add_sub_cancel_left,e]
theorem free_none {mask:Nat}{owner:Array (Option Nat)}{fuel r:Nat}{x:Nat×Nat}(hr:SetTable.runEnd mask x.1=x.1+r)(e:((List.range (r+1)).find? fun k=>(owner.getD (x.1+k) (some 0)).isNone)=none):SetTable.layClean.free mask owner (fuel+1) x.1 x.2=SetTable.layClean.free mask owner fuel (SetTable.leap mask x.1 x.2).1 (SetTable.leap mask x.1 x.2).2:=by
 rw [SetTable.layClean.free,hr,Nat.add_assoc,Nat.add_sub_cancel_left,e]
noncomputable def lpS (mask:Nat)(h:Int)(L:Nat):Nat×Nat:=lpN mask (SetTable.bits h % (mask+1),SetTable.bits h) L
theorem lpS_le {mask:Nat}{h:Int}{L:Nat}:(lpS mask h L).1≤mask:=lpN_fst_lt (Nat.le_of_lt_succ (Nat.mod_lt _ (Nat.succ_pos _))) L
theorem free_go {mask:Nat}{ps:List Nat}{owner:Array (Option Nat)}{h:Int}(hO:OwnerAt mask ps owner){fuel:Nat}:∀ {L n:Nat},n≤10*L->prb (tb mask) h n=blk mask (lpS mask h L)->Upto mask ps h n->
  (∃ L',L≤L'∧L'<L+fuel∧(lpS mask h L').1∉ps)->L+fuel≤SetTable.turns mask->
  ∃ j n,SetTable.layClean.free mask owner fuel (lpS mask h L).1 (lpS mask h L).2=some j∧j≤mask∧j∉ps∧n<10*SetTable.turns mask∧(prb (tb mask) h n).j=j∧Upto mask ps h n:=by
 induction fuel with
 | zero=>exact fun _ _ _ hex _=>el13 hex fun L' h1 h2 _=>absurd h2 (Nat.not_lt_of_le h1)
 | succ fuel ih =>
  intro L n hn hp hb hex hle;have ile:=lpS_le (mask:=mask) (h:=h) (L:=L);have hnx:lpS mask h (L+1)=SetTable.leap mask (lpS mask h L).1 (lpS mask h L).2:=rfl;have hex:(lpS mask h L).1∈ps->∃ L',L+1≤L'∧L'<L+1+fuel∧(lpS mask h L').1∉ps:=fun q=>el13 hex fun L' h1 h2 h3=>⟨L',Nat.lt_of_le_of_ne h1 fun e=>h3 (e▸q),(Nat.add_right_comm L 1 fuel).symm▸h2,h3⟩;generalize lpS mask h L=x at *;refine el13 (run_end mask x.1) fun r h9 hrm hr=>?_;have hrm:=hrm ile
  have look:∀ k,k<r+1->((owner.getD (x.1+k) (some 0)).isNone=true↔x.1+k∉ps):=fun k hk=>by
   rw [own_at hO (Nat.le_trans (Nat.add_le_add_left (Nat.le_of_lt_succ hk) _) hrm),Option.isNone_iff_eq_none];exact idxOf?_none
  cases e:(List.range (r+1)).find? fun k=>(owner.getD (x.1+k) (some 0)).isNone with
  | some k =>
   have hk2:=List.mem_range.mp (List.mem_of_find?_eq_some e);have hk:=Nat.le_of_lt_succ hk2
   have hfirst:∀ k',k'<k->x.1+k'∈ps:=fun k' hk'=>Classical.byContradiction fun hc=>by
    have hz:=(look k' (Nat.lt_trans hk' hk2)).mpr hc;refine (List.find?_eq_some_iff_getElem.mp e).2.elim fun i q=>q.elim fun hi q=>e2 q fun hik hbef=>?_;rw [List.getElem_range] at hik;subst hik;have:=hbef k' hk';rw [List.getElem_range,hz] at this
    cases this
   have hp':=hp;unfold blk at hp';rw [hr,Nat.add_sub_cancel_left] at hp';exact ⟨x.1+k,n+k,free_some hr e,Nat.le_trans (Nat.add_le_add_left hk _) hrm,(look k hk2).mp (List.find?_some (p:=fun k=>(owner.getD (x.1+k) (some 0)).isNone) e),free_lt hn (Nat.le_trans hk h9) hle,by rw [prb_run hp' hk],hb.more hp hr (Nat.le_of_lt hk2) hfirst⟩
  | none =>
   have hall:∀ k,k<r+1->x.1+k∈ps:=fun k hk=>Classical.byContradiction fun hc=>List.find?_eq_none.mp e k (List.mem_range.mpr hk) ((look k hk).mpr hc);rw [free_none hr e,<-hnx];exact ih (ten_le hn h9) (hnx▸prb_next hp hr) (hb.more hp hr (Nat.le_refl _) hall) (hex (hall 0 (Nat.succ_pos _))) ((Nat.add_right_comm L 1 fuel).symm▸hle)
structure Laid (mask:Nat)(hs:List Int)(ps:List Nat):Prop where
 len:ps.length=hs.length
 nd:ps.Nodup
 le:∀ j∈ps,j≤mask
 path:∀ (k:Nat) (h:Int) (j:Nat),hs[k]? = some h->ps[k]? = some j->∃ n,n<10*SetTable.turns mask∧(prb (tb mask) h n).j=j∧∀ m,m<n->(prb (tb mask) h m).j∈ps
theorem get_snoc {α:Type}{l:List α}{x u:α}{k:Nat}(h:(l++[x])[k]? = some u):(k<l.length∧l[k]? = some u)∨(k=l.length∧u=x):=by
 rcases Nat.lt_trichotomy k l.length with q | q | q
 ·rw [List.getElem?_append_left q] at h;exact .inl ⟨q,h⟩
 ·rw [q,List.getElem?_concat_length] at h;exact .inr ⟨q,(Option.some.inj h).symm⟩
 ·rw [List.getElem?_eq_none (by rw [List.length_append];exact q)] at h;cases h
theorem Laid.snoc {mask:Nat}{hs:List Int}{ps:List Nat}(L:Laid mask hs ps){h:Int}(hj:j∉ps)(hle:j≤mask)(hn:n<10*SetTable.turns mask)(e:(prb (tb mask) h n).j=j)(hu:Upto mask ps h n):Laid mask (hs++[h]) (ps++[j]):=by
 refine ⟨by rw [List.length_append,List.length_append,L.len];rfl,List.nodup_append.mpr ⟨L.nd,List.pairwise_singleton _ _,fun x hx y hy e=>hj (by rw [<-List.mem_singleton.mp hy,<-e];exact hx)⟩,fun x hx=>(List.mem_append.mp hx).elim (L.le x) fun q=>by rw [List.mem_singleton.mp q];exact hle,fun k h' j' e1 e2=>?_⟩;refine (get_snoc e1).elim (fun q=>(get_snoc e2).elim (fun r=>el13 (L.path k h' j' q.2 r.2) fun n' a b c=>⟨n',a,b,fun m hm=>List.mem_append_left _ (c m hm)⟩) fun r=>absurd q.1 (by rw [r.1,L.len];exact Nat.lt_irrefl _)) fun q=>(get_snoc e2).elim (fun r=>absurd r.1 (by rw [q.1,L.len];exact Nat.lt_irrefl _)) fun r=>?_;rw [q.2,r.2];exact ⟨n,hn,e,fun m hm=>List.mem_append_left _ (hu m hm)⟩
theorem OwnerAt.snoc {mask:Nat}{ps:List Nat}{owner:Array (Option Nat)}(hO:OwnerAt mask ps owner)(hj:j∉ps)(hle:j≤mask):OwnerAt mask (ps++[j]) (owner.setIfInBounds j (some ps.length)):=by
 refine ⟨(Array.size_setIfInBounds ..).trans hO.1,fun x hx=>?_⟩;rw [Array.getElem?_setIfInBounds,show (ps++[j]).idxOf? x=(ps.idxOf? x).or (([j].idxOf? x).map (· + ps.length)) from List.findIdx?_append];by_cases q:j=x
 ·rw [if_pos q,if_pos (by rw [hO.1];exact Nat.lt_succ_of_le hle),<-q,idxOf?_none.mpr hj,show [j].idxOf? j=some 0 by simp [List.idxOf?]];exact congrArg (fun z=>some (some z)) (Nat.zero_add _).symm
 ·rw [if_neg q,hO.2 x hx,show [j].idxOf? x=none from idxOf?_none.mpr fun m=>q (List.mem_singleton.mp m).symm,Option.map_none,Option.or_none]
noncomputable def layStep (mask:Nat)(acc:Option (Array (Option Nat)×Nat))(h:Int):Option (Array (Option Nat)×Nat):=do
 let (owner,k) ← acc
 let j ← SetTable.layClean.free mask owner (SetTable.turns mask) (SetTable.bits h % (mask+1)) (SetTable.bits h)
 pure (owner.setIfInBounds j (some k),k+1)
theorem layStep_eq {mask k:Nat}{owner:Array (Option Nat)}{h:Int}(f:SetTable.layClean.free mask owner (SetTable.turns mask) (SetTable.bits h % (mask+1)) (SetTable.bits h)=some j):layStep mask (some (owner,k)) h=some (owner.setIfInBounds j (some k),k+1):=by
 show (SetTable.layClean.free mask owner (SetTable.turns mask) (SetTable.bits h % (mask+1)) (SetTable.bits h)>>=fun j=>_)=_;rw [f];rfl
theorem layFold {mask k₀:Nat}(hm:mask+1=2 ^ k₀){rest:List Int}:∀ {hs:List Int}{ps:List Nat}{owner:Array (Option Nat)},Laid mask hs ps->OwnerAt mask ps owner->hs.length+rest.length≤mask->
  ∃ ps' owner',((rest.foldl (layStep mask) (some (owner,ps.length))).map (·.1)=some owner')∧Laid mask (hs++rest) ps'∧OwnerAt mask ps' owner':=by
 induction rest with
 | nil=>exact fun hL hO _=>⟨_,_,rfl,(List.append_nil _).symm▸hL,hO⟩
 | cons h rest ih =>
  intro hs ps owner hL hO hle;refine el12 (exists_free (mask+1) ps (by rw [hL.len];exact Nat.lt_succ_of_le (Nat.le_trans (Nat.le_add_right ..) hle))) fun jf hj1 hj2=>?_;refine el12 (lpN_cover (i:=SetTable.bits h % (mask+1)) (q:=SetTable.bits h) hm (bits_lt h) (Nat.le_of_lt_succ (Nat.mod_lt _ (Nat.succ_pos _))) (Nat.le_of_lt_succ hj1)) fun L' hl1 hl2=>?_;refine el26 (free_go (h:=h) hO (Nat.zero_le _) rfl (fun m hm=>absurd hm (Nat.not_lt_zero _)) ⟨L',Nat.zero_le _,by rw [Nat.zero_add];exact hl1,fun q=>hj2 (hl2▸q)⟩ (Nat.le_of_eq (Nat.zero_add _))) fun j n f1 f2 f3 f4 f5 f6=>?_;have ih:=ih (hL.snoc f3 f2 f4 f5 f6) (hO.snoc f3 f2) (by rw [List.length_append,Nat.add_assoc,Nat.add_comm _ rest.length];exact hle);rw [List.append_cons,List.foldl_cons,layStep_eq f1];rw [List.length_append] at ih;exact ih
theorem layClean_ok {mask k₀:Nat}(hm:mask+1=2 ^ k₀){hs:Array Int}(hle:hs.size≤mask):∃ ps owner,SetTable.layClean mask hs=some owner∧Laid mask hs.toList ps∧OwnerAt mask ps owner:=by
 refine el23 (layFold hm (rest:=hs.toList) (hs:=[]) (ps:=[]) (owner:=Array.replicate (mask+1) none) ⟨rfl,List.nodup_nil,(fun _ h=>by cases h),(fun k h j e _=>by cases e)⟩
  ⟨Array.size_replicate,fun j hj=>by rw [Array.getElem?_replicate,if_pos (Nat.lt_succ_of_le hj)];rfl⟩ (by show 0+hs.toList.length≤mask;rw [Array.length_toList,Nat.zero_add];exact hle)) fun ps owner h1 h2 h3=>?_
 refine ⟨ps,owner,?_,h2,h3⟩;unfold SetTable.layClean;rw [<-Array.foldl_toList];exact h1
theorem live_eq {mask:Nat}{ps:List Nat}{owner:Array (Option Nat)}(hO:OwnerAt mask ps owner){l:List Nat}(h:∀ j∈l,j≤mask):l.filterMap (fun j=>(owner.getD j none).map (j,·))=(l.filter fun j=>decide (j∈ps)).map fun j=>(j,(ps.idxOf? j).getD 0):=by
 induction l with
 | nil=>rfl
 | cons j r ih =>
  have ih:=ih fun x hx=>h x (.tail _ hx);rw [List.filterMap_cons,own_at hO (h j (.head _))];by_cases q:j∈ps
  ·rw [List.filter_cons_of_pos (p:=fun j=>decide (j∈ps)) (decide_eq_true q),List.map_cons,<-ih]
   cases e2:ps.idxOf? j with
   | none=>exact absurd q (idxOf?_none.mp e2)
   | some k=>rfl
  ·rw [idxOf?_none.mpr q,List.filter_cons_of_neg (p:=fun j=>decide (j∈ps)) (by rw [decide_eq_false q];exact Bool.false_ne_true)];exact ih
theorem perm_of_nodup {l r:List Nat}(hl:l.Nodup)(hr:r.Nodup)(h:∀ x,x∈l↔x∈r):l.Perm r:=(List.perm_ext_iff_of_nodup hl hr).mpr h
theorem laid_ok {mask k₀:Nat}(hm:mask+1=2 ^ k₀)(h3:3≤k₀)(cap:mask<5000){hs:Array Int}(room:hs.size*5<mask*3)(finger moves:Nat)(led plain:Bool) :
  ∃ t order,SetTable.laid mask finger moves led plain hs=some (t,order)∧order.toList.Perm (List.range hs.size)∧TabOk (order.toList.map fun i=>hs.getD i 0) t∧t.led=led∧t.mask=mask∧t.plain=plain:=by
 refine el23 (layClean_ok hm (hs:=hs) (by lia)) fun ps owner h1 hL hO=>?_;have hlive:=live_eq hO (l:=List.range (mask+1)) fun j hj=>Nat.le_of_lt_succ (List.mem_range.mp hj);generalize hpl:(List.range (mask+1)).filter (fun j=>decide (j∈ps))=pl at hlive
 have plmem:∀ x,x∈pl↔x∈ps:=fun x=>by
  rw [<-hpl,List.mem_filter,List.mem_range,decide_eq_true_eq];exact ⟨fun h=>h.2,fun h=>⟨by have:=hL.le x h;lia,h⟩⟩
 have plsort:pl.Pairwise (· < ·):=by rw [<-hpl];exact (List.pairwise_lt_range (n:=mask+1)).sublist List.filter_sublist
 have plnd:pl.Nodup:=plsort.imp fun h e=>by lia
 have plp:pl.Perm ps:=perm_of_nodup plnd hL.nd plmem
 have hlen:pl.length=hs.size:=by rw [plp.length_eq,hL.len,Array.length_toList]
 have idx:∀ j∈ps,∃ k,ps.idxOf? j=some k∧ps[k]? = some j:=fun j hj=>by
  cases e:ps.idxOf? j with
  | none=>exact absurd hj (idxOf?_none.mp e)
  | some k=>exact ⟨k,rfl,(idxOf?_some hL.nd).mp e⟩
 have e1:(pl.map fun j=>(j,(ps.idxOf? j).getD 0)).map (·.1)=pl:=by rw [List.map_map];exact (List.map_congr_left (g:=id) fun x _=>rfl).trans (List.map_id _)
 have e2:(pl.map fun j=>(j,(ps.idxOf? j).getD 0)).map (·.2)=pl.map fun j=>(ps.idxOf? j).getD 0:=by rw [List.map_map];rfl
 refine ⟨{ mask,place:=pl.toArray,dummies:=#[],finger,led,moves,plain },(pl.map fun j=>(ps.idxOf? j).getD 0).toArray,?_,?_,⟨rfl,⟨k₀,h3,hm⟩,cap,?_,?_,plsort,fun j hj=>hL.le j ((plmem j).mp hj),fun i h j g1 g2=>?_⟩,rfl,rfl,rfl⟩
 ·unfold SetTable.laid;simp only [Option.bind_eq_bind,h1,Option.bind_some,hlive,e1,e2];rfl
 ·show (pl.map fun j=>(ps.idxOf? j).getD 0).Perm _;refine (plp.map _).trans ?_
  have:(ps.map fun j=>(ps.idxOf? j).getD 0)=List.range hs.size:=by
   apply List.ext_getElem
   ·rw [List.length_map,List.length_range,hL.len,Array.length_toList]
   ·intro i q1 q2;rw [List.getElem_map,List.getElem_range]
    have hi:i<ps.length:=by simpa using q1
    rw [(idxOf?_some hL.nd).mpr (List.getElem?_eq_getElem hi)];rfl
  rw [this]
 ·show pl.toArray.size=_;rw [List.size_toArray,hlen];show _=((pl.map fun j=>(ps.idxOf? j).getD 0).map fun i=>hs.getD i 0).length;rw [List.length_map,List.length_map,hlen]
 ·show pl.toArray.size*5<mask*3;rw [List.size_toArray,hlen];exact room
 ·have g2:pl[i]? = some j:=g2;have g1:((pl.map fun j=>(ps.idxOf? j).getD 0).map fun i=>hs.getD i 0)[i]? = some h:=g1;rw [List.getElem?_map,List.getElem?_map,g2] at g1;refine el12 (idx j ((plmem j).mp (List.mem_of_getElem? g2))) fun k k1 k2=>?_;simp only [Option.map_some,k1,Option.getD_some] at g1
  have hk:k<hs.size:=by rw [<-Array.length_toList,<-hL.len];exact (List.getElem?_eq_some_iff.mp k2).1
  have g1:hs.toList[k]? = some h:=by
   rw [Array.getElem?_toList,Array.getElem?_eq_getElem hk]
   simpa [Array.getD,hk] using g1
  refine el13 (hL.path k h j g1 k2) fun n a b c=>?_;have km:({ mask,place:=pl.toArray,dummies:=#[],finger,led,moves,plain }:SetTable).mask=(tb mask).mask:=rfl;refine ⟨n,a,by rw [prb_mask km];exact b,fun m hm'=>?_⟩;rw [prb_mask km];exact (plmem _).mpr (c m hm')
theorem sizeAbove_ok (n:Nat)(hn:n<2000):∃ k,3≤k∧SetTable.sizeAbove n=2 ^ k∧n<SetTable.sizeAbove n∧SetTable.sizeAbove n≤4000:=by
 unfold SetTable.sizeAbove
 have go:∀ (fuel k:Nat),3≤k->2 ^ k≤2*n+8->n<2 ^ (k+fuel)->∃ k',3≤k'∧SetTable.sizeAbove.go n fuel (2 ^ k)=2 ^ k'∧n<2 ^ k'∧2 ^ k'≤2*n+8:=by
  intro fuel
  induction fuel with
  | zero=>intro k h3 h1 h2;exact ⟨k,h3,rfl,h2,h1⟩
  | succ f ih =>
   intro k h3 h1 h2;unfold SetTable.sizeAbove.go;split
   ·rename_i hle
    have e:2 ^ k*2=2 ^ (k+1):=by rw [Nat.pow_succ]
    rw [e];exact ih (k+1) (by lia) (by rw [<-e];lia) (by rw [show k+1+f=k+(f+1) by lia];exact h2)
   ·rename_i hle;exact ⟨k,h3,rfl,by lia,h1⟩
 refine el14 (go 64 3 (by lia) (by lia) (by
  have:(2:Nat) ^ 67 > 2000:=by decide
  show n<2 ^ 67
  lia)) fun k a b c d=>?_
 have b':SetTable.sizeAbove.go n 64 8=2 ^ k:=b;rw [b'];refine ⟨k,a,rfl,c,?_⟩
 have hk:k≤11:=by
  rcases Nat.lt_or_ge 11 k with q | q
  ·have:2 ^ 12≤2 ^ k:=Nat.pow_le_pow_right (by decide) q;lia
  ·exact q
 have:2 ^ k≤2 ^ 11:=Nat.pow_le_pow_right (by decide) hk;lia
end
section
open PySem PySem.Calls
theorem fm_get {α:Type}{l:List α}{ord:List Nat}:(∀ x∈ord,x<l.length)->∀ i:Nat,(ord.filterMap (l[·]?))[i]? = (ord[i]?).bind (l[·]?):=by
 induction ord with
 | nil=>intro _ i;rfl
 | cons x r ih =>
  intro h i;have hx:=List.getElem?_eq_getElem (h x (.head _));rw [List.filterMap_cons,hx]
  cases i with
  | zero=>exact hx.symm
  | succ i=>exact ih (fun y hy=>h y (.tail _ hy)) i
theorem fm_perm {α:Type}(l:List α){ord:List Nat}(h:ord.Perm (List.range l.length)):(ord.filterMap (l[·]?)).Perm l:=by
 refine (h.filterMap _).trans ?_;rw [List.filterMap_getElem?_range_length]
structure SRaw (w:World)(F:PMap)(s:Shared)(a:Addr)(ks:List Key)(ob:Obj)(es:Array (Int×Value))(n:Nat)(t:SetTable):Prop where
 ho:s.heap.get? a=some ob
 hx:ob.ExactSet
 hd:ob.data=.set es n t
 hl:es.toList.length=ks.length
 he:∀ (i:Nat) (k:Key),ks[i]? = some k->∃ v,es.toList[i]? = some (k.hash w.params,v)∧KeyAt F k v
 nd:ks.Nodup
 fits:t.fits ks.length=true
 small:ks.length<400
 led:w.params.followText "set-order" = false->t.led=true
 one:∀ k∈ks,∀ k'∈ks,k.kind=k'.kind
section
variable {w:World}{k:Key}{v:Value}{ob:Obj}
theorem SRaw.size (D:SRaw w F s a ks ob es n t):es.size=ks.length:=by rw [<-Array.length_toList,D.hl]
theorem SRaw.state (D:SRaw w F s a ks ob es n t){Q:(Array (Int×Value)×Nat×SetTable)->Shared->Prop}(h:Q (es,n,t) s):wpAny (model prog w) A (setState a) Q E s:=wpAny_setState_of D.ho D.hd (by rw [D.size];exact D.fits) h
theorem SAt.raw (D:SAt w F s a ks ob es n t)(h:ks.length<400):SRaw w F s a ks ob es n t:=⟨D.ho,D.hx,D.hd,D.hl,D.he,D.ok.nodup,D.ok.fits,h,D.ok.led,D.ok.one⟩
theorem SRaw.laid (D:SRaw w F s a ks ob es n t){mask:Nat}(hm:∃ k₀,3≤k₀∧mask+1=2 ^ k₀)(cap:mask<5000)(room:ks.length*5<mask*3)(finger moves:Nat)(led plain:Bool)(hled:w.params.followText "set-order" = false->led=true)(m:Nat)(ob':Obj)(hx':ob'.ExactSet) :
  ∃ t' order ks',t'.mask=mask∧SetTable.laid mask finger moves led plain (es.map (·.1))=some (t',order)∧(order.filterMap (es[·]?)).size=es.size∧ks'.Perm ks∧coversAll order es.size=true∧t'.fits es.size=true ∧
   OAt w.params F (.set ks') { ob' with data:=.set (order.filterMap (es[·]?)) m t' }:=by
 refine el12 hm fun k₀ h3 hm=>?_;have hes:=D.size;refine el26 (laid_ok hm h3 cap (hs:=es.map (·.1)) (by rw [Array.size_map,hes];exact room) finger moves led plain) fun t' order h1 h2 h4 h5 h6 h7=>?_;rw [Array.size_map,hes] at h2
 have hlt:∀ x∈order.toList,x<ks.length:=fun x hx=>by have:=h2.mem_iff.mp hx;simpa using this
 have hlt':∀ x∈order.toList,x<es.toList.length:=fun x hx=>by rw [D.hl];exact hlt x hx
 have eE:(order.filterMap (es[·]?)).toList=order.toList.filterMap (es.toList[·]?):=by
  rw [Array.toList_filterMap]
  congr 1
  funext i
  rw [Array.getElem?_toList]
 have pE:(order.filterMap (es[·]?)).toList.Perm es.toList:=by rw [eE];exact fm_perm _ (by rw [D.hl];exact h2)
 have pK:(order.toList.filterMap (ks[·]?)).Perm ks:=fm_perm _ h2
 have szE:(order.filterMap (es[·]?)).size=es.size:=by rw [<-Array.length_toList,pE.length_eq,Array.length_toList]
 have hash:(order.toList.map fun i=>(es.map (·.1)).getD i 0)=(order.toList.filterMap (ks[·]?)).map (Key.hash w.params):=by
  apply List.ext_getElem?;intro i;rw [List.getElem?_map,List.getElem?_map,fm_get hlt]
  cases q:order.toList[i]? with
  | none=>rfl
  | some x =>
   have hx:=hlt x (List.mem_of_getElem? q);refine el12 (D.he x _ (List.getElem?_eq_getElem hx)) fun v' g1 _=>?_
   have hx2:x<es.size:=by rw [hes];exact hx
   rw [Array.getElem?_toList,Array.getElem?_eq_getElem hx2] at g1;have g1:=Option.some.inj g1;simp [List.getElem?_eq_getElem hx,Array.getD,hx2,g1]
 have hfit:t'.fits es.size=true:=by
  unfold SetTable.fits SetTable.fill;rw [h4.dum,h4.size,List.length_map,Array.length_toList]
  have e1:order.size=es.size:=by rw [<-Array.length_toList,h2.length_eq,List.length_range,hes]
  rw [e1];have:=h4.room;rw [h4.size,List.length_map,Array.length_toList,e1] at this;simp only [beq_self_eq_true,Bool.true_and,decide_eq_true_eq];show es.size+0≤t'.mask;lia
 refine ⟨t',order,order.toList.filterMap (ks[·]?),h6,h1,szE,pK,?_,hfit,hx',_,_,_,rfl,?_,fun i k' hi=>?_,⟨pK.nodup_iff.mpr D.nd,?_,?_,fun e=>by rw [h5];exact hled e,by rw [<-hash];exact h4,fun x hx y hy=>D.one x (pK.mem_iff.mp hx) y (pK.mem_iff.mp hy)⟩⟩
 ·unfold coversAll;rw [hes];exact List.isPerm_iff.mpr h2
 ·rw [eE,(fm_perm _ (by rw [D.hl];exact h2)).length_eq,pK.length_eq,D.hl]
 ·rw [fm_get hlt] at hi;rw [eE,fm_get hlt']
  cases q:order.toList[i]? with
  | none=>rw [q] at hi;cases hi
  | some x =>
   rw [q] at hi;exact D.he x k' hi
 ·rw [pK.length_eq,<-hes];exact hfit
 ·rw [pK.length_eq];have:=D.small;show _<4096;lia
abbrev Grew (w:World)(F:PMap)(s:Shared)(a:Addr)(ks:List Key)(h':Heap)(r:SetTable->Prop):Prop:=∃ ks' ob',ks'.Perm ks∧Heap.SameBut a s.heap h'∧h'.get? a=some ob'∧OAt w.params F (.set ks') ob'∧∃ es' n' t',ob'.data=.set es' n' t'∧r t'
theorem wanted_ok {k:Nat}(h3:3≤k)(e1:SetTable.sizeAbove n=2 ^ k)(e2:n<SetTable.sizeAbove n)(e3:SetTable.sizeAbove n≤4000):SetTable.sizeAbove n-1+1=2 ^ k∧SetTable.sizeAbove n-1<5000∧n≤SetTable.sizeAbove n-1 :=
 ⟨by rw [Nat.sub_add_cancel (Nat.lt_of_le_of_lt (Nat.zero_le _) e2)];exact e1,Nat.lt_of_le_of_lt (Nat.le_trans (Nat.sub_le ..) e3) (by decide),Nat.le_sub_of_add_le e2⟩
theorem SRaw.again {wanted:Nat}{Q:Unit->Shared->Prop}(D:SRaw w F s a ks ob es n t)(hw:wanted<2000)(hr:ks.length*5<wanted*3)(hQ:∀ h',Grew w F s a ks h' (fun t'=>wanted≤t'.mask)->Q () { s with heap:=h' }) :
  ∃ t' order,t.relaid (es.map (·.1)) wanted=some (t',order)∧(order.filterMap (es[·]?)).size=es.size∧coversAll order es.size=true∧t'.fits es.size=true∧wpAny (model prog w) A (storeSet a (order.filterMap (es[·]?)) t') Q E s:=by
 refine el14 (sizeAbove_ok wanted hw) fun k₀ h3 e1 e2 e3=>?_;refine el03 (wanted_ok h3 e1 e2 e3) fun m1 m2 m3=>?_;refine el37 (D.laid (mask:=SetTable.sizeAbove wanted-1) ⟨k₀,h3,m1⟩ m2 (Nat.lt_of_lt_of_le hr (Nat.mul_le_mul_right 3 m3)) t.finger (t.movedTo (SetTable.sizeAbove wanted-1)) t.led t.plain D.led (n+1) ob D.hx) fun t' order ks' g0 g1 g2 g3 g5 g6 g4=>⟨t',order,g1,g2,g5,g6,wpAny_storeSet_of D.ho D.hd ?_ ?_⟩
 ·have hg:(s.heap.update a (Obj.putSet (order.filterMap (es[·]?)) t')).get? a=some _:=Heap.get?_update_self _ D.ho (by rw [putSet_of _ _ D.hd];rfl);rw [putSet_of _ _ D.hd] at hg;exact hQ _ ⟨ks',_,g3,Heap.SameBut.update ..,hg,g4,_,_,_,rfl,(show wanted≤t'.mask by rw [g0];exact m3)⟩
 ·rw [g2,D.size,sizeLine_eq];exact Nat.le_trans (Nat.le_of_lt D.small) (by decide)
theorem SRaw.relay {wanted:Nat}{Q:Unit->Shared->Prop}(D:SRaw w F s a ks ob es n t)(hw:wanted<2000)(hr:ks.length*5<wanted*3)(hQ:∀ h',Grew w F s a ks h' (fun t'=>wanted≤t'.mask)->Q () { s with heap:=h' }) :
  wpAny (model prog w) A (setRelay a wanted) Q E s:=by
 refine wpAny_bind (D.state (ifF ?_ ?_))
 ·rw [sizeLine_eq];exact Nat.not_lt_of_le (el14 (sizeAbove_ok wanted hw) fun _ _ _ _ e=>Nat.le_trans e (by decide))
 refine el25 (D.again (prog:=prog) (A:=A) (E:=E) hw hr hQ) fun t' order g1 g2 _ _ g3=>?_;refine wpAny_bind ?_;show wpAny _ _ (match t.relaid (es.map (·.1)) wanted with | some (t,order)=>_ | _=>_) _ _ _;rw [g1];dsimp only;exact ifF (by rw [g2,bne_self_eq_false];exact Bool.false_ne_true) (wpAny_pure g3)
theorem SRaw.relaidAll {wanted:Nat}{Q:Unit->Shared->Prop}(D:SRaw w F s a ks ob es n t)(hw:wanted<2000)(hr:ks.length*5<wanted*3)(hQ:∀ h',Grew w F s a ks h' (fun t'=>wanted≤t'.mask)->Q () { s with heap:=h' }) :
  ∃ es' t',relayAll t es wanted=(es',t',false)∧wpAny (model prog w) A (storeSet a es' t') Q E s:=by
 refine el25 (D.again (prog:=prog) (A:=A) (E:=E) hw hr hQ) fun t' order g1 g2 g3 g4 g5=>⟨_,t',?_,g5⟩;unfold relayAll;rw [g1];dsimp only;rw [g2,g3,g4];rfl
end
end
section
open PySem PySem.Calls
section
variable {w:World}{k:Key}{v:Value}{ob:Obj}
theorem put_facts {p:Nat}(hd:t.dummies=#[])(h:t.put j=(t',p)):p=SetTable.below t.place j∧t'.mask=t.mask∧t'.led=t.led∧t'.dummies=#[]∧t'.place.size=t.place.size+1:=by
 have htt:(t.put j).1=t':=congrArg Prod.fst h;subst htt;refine ⟨(congrArg Prod.snd h).symm,rfl,rfl,?_,?_⟩
 ·show (if SetTable.has t.dummies j then _ else t.dummies)=#[];rw [hd];rfl
 ·show (SetTable.insertAt t.place _ _).size=_;rw [<-Array.length_toList,(SetTable.insertAt_perm _ _ _).length_eq,Array.toList_push,List.length_append,Array.length_toList];rfl
theorem TabOk.wide {hs:List Int}(T:TabOk hs t):hs.length+1≤t.mask:=by
 refine el12 T.mask fun k₀ h3 hm=>?_;have h8:2 ^ 3≤2 ^ k₀:=Nat.pow_le_pow_right (by decide) h3;have hroom:=T.room;rw [T.size] at hroom;lia
theorem SetTable.pl {hs:List Int}(T:TabOk hs t)(pl:Bool):TabOk hs { t with plain:=pl } :=
 have km:({ t with plain:=pl }:SetTable).mask=t.mask:=rfl
 ⟨T.dum,T.mask,T.cap,T.size,T.room,T.asc,T.le,fun i h j h1 h2=>el13 (T.path i h j h1 h2) fun n c1 c2 c3=>⟨n,c1,by rw [prb_mask km];exact c2,fun x hx=>by rw [prb_mask km];exact c3 x hx⟩⟩
structure Free (t:SetTable)(h:Int)(m:Nat):Prop where
 lt:m<10*SetTable.turns t.mask
 no:(prb t h m).j∉t.place.toList
 bef:∀ x,x<m->(prb t h x).j∈t.place.toList
theorem SAt.lay (D:SAt w F s a ks ob es n t)(hk:KeyAt F k v)(hno:k∉ks)(hkd:∀ k'∈ks,k'.kind=k.kind)(hz:ks.length+1<400)(hm:Free t (k.hash w.params) m)(pl:Bool){p:Nat}(hput:t.put (prb t (k.hash w.params) m).j=(t',p))(hg:h'.get? a=some { ob with data:=.set (SetTable.insertAt es p (k.hash w.params,v)) (n+1) { t' with plain:=pl } }) :
  SRaw w F { s with heap:=h' } a (ins ks p k) { ob with data:=.set (SetTable.insertAt es p (k.hash w.params,v)) (n+1) { t' with plain:=pl } } (SetTable.insertAt es p (k.hash w.params,v)) (n+1) { t' with plain:=pl } ∧
  (({ t' with plain:=pl }:SetTable).tooFull=false->OAt w.params F (.set (ins ks p k)) { ob with data:=.set (SetTable.insertAt es p (k.hash w.params,v)) (n+1) { t' with plain:=pl } }):=by
 have T:=D.ok.tab;refine el05 (put_facts T.dum hput) fun hpp e1 e2 e3 e4=>?_
 have hlen:t.place.size=ks.length:=by rw [T.size,List.length_map]
 have b1:p≤ks.length:=by rw [hpp,<-hlen];exact (below_spec T.asc).1
 rw [hlen] at e4;have eL:(SetTable.insertAt es p (k.hash w.params,v)).toList=ins es.toList p (k.hash w.params,v):=SetTable.toList_insertAt ..
 have hfit:t'.fits (ins ks p k).length=true:=by
  have hw:=T.wide;rw [List.length_map] at hw;unfold SetTable.fits SetTable.fill;rw [ins_length,e4,e3,e1,beq_self_eq_true];exact decide_eq_true hw
 have hel:(SetTable.insertAt es p (k.hash w.params,v)).toList.length=(ins ks p k).length:=by rw [eL,ins_length,ins_length,D.hl]
 have hent:∀ (i:Nat) (k':Key),(ins ks p k)[i]? = some k'->∃ v',(SetTable.insertAt es p (k.hash w.params,v)).toList[i]? = some (k'.hash w.params,v')∧KeyAt F k' v':=fun i k' hi=>by
  rw [eL]
  exact (ins_two (x:=k) (y:=(k.hash w.params,v)) b1 (by rw [D.hl];exact b1) i).elim (fun q=>by rw [q.1] at hi;cases hi;exact ⟨v,q.2,hk⟩) fun q=>el12 q fun i₀ q1 q2=>by rw [q1] at hi;rw [q2];exact D.he i₀ k' hi
 have hnd:(ins ks p k).Nodup:=(ins_perm ks p k).nodup_iff.mpr (List.nodup_cons.mpr ⟨hno,D.ok.nodup⟩);have all:∀ z∈ins ks p k,z.kind=k.kind:=fun z hz=>(ins_mem.mp hz).elim (fun q=>congrArg Key.kind q) (hkd z);have hone:∀ x∈ins ks p k,∀ y∈ins ks p k,x.kind=y.kind:=fun x hx y hy=>(all x hx).trans (all y hy).symm;have hsm:(ins ks p k).length<400:=(ins_length ..).symm▸hz;have hled:w.params.followText "set-order" = false->t'.led=true:=fun e=>e2.trans (D.ok.led e);refine ⟨⟨hg,D.hx,rfl,hel,hent,hnd,hfit,hsm,hled,hone⟩,fun htf=>⟨D.hx,_,_,_,rfl,hel,hent,⟨hnd,hfit,Nat.lt_trans hsm (by show 400<4096;decide),hled,SetTable.pl ?_ pl,hone⟩⟩⟩
 have hr:(ks.length+1)*5<t.mask*3:=by
  have:¬ ((t'.place.size+t'.dummies.size)*5 ≥ t'.mask*3):=of_decide_eq_false htf;rw [e4,e3,e1] at this;exact Nat.lt_of_not_le this
 have T':=(T.ins hm.lt hm.no hm.bef (by rw [List.length_map];exact hr)).2.1;rw [hput,<-ins_map] at T';exact T'
theorem grown_ok (hm:m<400)(h0:0<m):SetTable.grown m<2000∧m*5<SetTable.grown m*3:=by
 unfold SetTable.grown;rw [if_neg (by lia)];lia
theorem add_store {β:Type}{Q:β->Shared->Prop}{p:Nat}{pl:Bool}{R Y:Sem β}(D:SAt w F s a ks ob es n t)(hk:KeyAt F k v)(hno:k∉ks)(hkd:∀ k'∈ks,k'.kind=k.kind)(hz:ks.length+1<400)(hm:Free t (k.hash w.params) m)(hput:t.put (prb t (k.hash w.params) m).j=(t',p))(hY:∀ h',Grew w F s a (k::ks) h' (fun _=>True)->wpAny (model prog w) A Y Q E { s with heap:=h' })(hR:∀ h' ob',Heap.SameBut a s.heap h'->(SetTable.insertAt es p (k.hash w.params,v)).size=ks.length+1->SRaw w F { s with heap:=h' } a (ins ks p k) ob' (SetTable.insertAt es p (k.hash w.params,v)) (n+1) { t' with plain:=pl }->wpAny (model prog w) A R Q E { s with heap:=h' }) :
  wpAny (model prog w) A (do storeSet a (SetTable.insertAt es p (k.hash w.params,v)) { t' with plain:=pl };if (!false&&({ t' with plain:=pl }:SetTable).tooFull)=true then R else Y) Q E s:=by
 have eS:(SetTable.insertAt es p (k.hash w.params,v)).size=ks.length+1:=by rw [<-Array.length_toList,SetTable.toList_insertAt];exact (ins_length es.toList p _).trans (by rw [D.hl])
 refine wpAny_bind (wpAny_storeSet_of D.ho D.hd ?_ (by rw [eS,sizeLine_eq];exact Nat.le_trans (Nat.le_of_lt hz) (by decide)));have hg:(s.heap.update a (Obj.putSet (SetTable.insertAt es p (k.hash w.params,v)) { t' with plain:=pl })).get? a=some _:=Heap.get?_update_self _ D.ho (by rw [putSet_of _ _ D.hd];rfl);rw [putSet_of _ _ D.hd] at hg;have L:=D.lay hk hno hkd hz hm pl hput hg;by_cases htf:({ t' with plain:=pl }:SetTable).tooFull=true
 ·exact ifT htf (hR _ _ (Heap.SameBut.update ..) eS L.1)
 ·exact ifF htf (hY _ ⟨_,_,ins_perm ..,Heap.SameBut.update ..,hg,L.2 (Bool.eq_false_iff.mpr htf),_,_,_,rfl,trivial⟩)
theorem Grew.step {h'':Heap}{ks':List Key}{r r':SetTable->Prop}(hs:Heap.SameBut a s.heap h')(hp:ks'.Perm ks)(h:Grew w F { s with heap:=h' } a ks' h'' r):Grew w F s a ks h'' (fun _=>True) :=
 h.elim fun ks₁ h=>h.elim fun ob₁ h=>⟨ks₁,ob₁,h.1.trans hp,hs.trans h.2.1,h.2.2.1,h.2.2.2.1,h.2.2.2.2.elim fun e h=>h.elim fun n h=>h.elim fun t h=>⟨e,n,t,h.1,trivial⟩⟩
noncomputable def keyK (a:Addr)(x:Value)(h:Int)(slot:Nat)(es:Array (Int×Value))(t:SetTable):Sem Bool:=do
 let (t,p):=t.put slot
 let byValue ← if t.plain then hashByValue 8 x else pure true
 let t:=if byValue then t else { t with plain:=false }
 storeSet a (SetTable.insertAt es p (h,x)) t
 if !false&&t.tooFull then setRelay a (SetTable.grown (es.size+1))
 return true
theorem plain_is (t:SetTable)(b:Bool):∃ pl,(if b=true then t else { t with plain:=false })={ t with plain:=pl }:=by cases b;exact ⟨false,rfl⟩;exact ⟨t.plain,rfl⟩
theorem key_ok (D:SAt w F s a ks ob es n t)(hk:KeyAt F k v)(h0:k.kind≠0)(hno:k∉ks)(hkd:∀ k'∈ks,k'.kind=k.kind)(hz:ks.length+1<400)(hm:Free t (k.hash w.params) m)(hout:∀ h',Grew w F s a (k::ks) h' (fun _=>True)->Q true { s with heap:=h' }):wpAny (model prog w) A (keyK a v (k.hash w.params) (prb t (k.hash w.params) m).j es t) Q E s:=by
 unfold keyK;generalize hput:t.put (prb t (k.hash w.params) m).j=tp;obtain ⟨t',p⟩:=tp;dsimp only
 have tail:∀ b:Bool,wpAny (model prog w) A (do storeSet a (SetTable.insertAt es p (k.hash w.params,v)) (if b=true then t' else { t' with plain:=false });if (!false&&((if b=true then t' else { t' with plain:=false }):SetTable).tooFull)=true then (do setRelay a (SetTable.grown (es.size+1));pure true) else pure true) Q E s:=fun b=>by
  refine (plain_is t' b).elim fun pl e=>?_;rw [e];refine add_store D hk hno hkd hz hm hput (fun h' g=>wpAny_pure (hout h' g)) fun h' ob' hs _ D'=>wpAny_bind ?_;have hgr:=grown_ok hz (Nat.succ_pos _);rw [D.size];exact D'.relay hgr.1 (by rw [ins_length];exact hgr.2) fun h'' g=>wpAny_pure (hout h'' (Grew.step (r':=fun _=>True) hs (ins_perm ..) g))
 by_cases hp:t'.plain=true
 ·exact ifT hp (wpAny_bind (byValue_key D.hF hk h0 tail))
 ·exact ifF hp (wpAny_bind (wpAny_pure (tail true)))
theorem free_slot (D:SAt w F s a ks ob es n t)(h:Int):∃ m,Free t h m∧t.freeSlot h=some ((prb t h m).j,false):=by
 have T:=D.ok.tab;refine el12 (T.free h) fun m₀ hm₀ hfr=>?_;refine Or.elim (probe_go (hashAt:=fun _=>h+1) (h:=h) T.dum T.asc hfr (Nat.zero_le _) (Nat.lt_of_lt_of_le hm₀ (Nat.le_add_left _ _))) (fun q=>el15 q fun m₁ a1 a2 a3 a4 a5=>?_) fun q=>el26 q fun m₁ i a1 a2 a3 a4 a5 a6=>absurd a5 (Int.ne_of_gt (Int.lt_succ h));refine ⟨m₁,⟨Nat.lt_of_le_of_lt a2 hm₀,a4,fun z hz=>el12 (a3 z (Nat.zero_le _) hz) fun i e _=>List.mem_of_getElem? e⟩,?_⟩;unfold SetTable.freeSlot;rw [show t.probe (fun _=>h+1) h (t.probeStart h)=_ from a5];rfl
noncomputable def scanK (g:Bool->Sem Unit)(a:Addr)(x:Value)(h:Int)(es:Array (Int×Value))(t:SetTable):Sem (Option Bool):=do
 let (es,t,wasDummy,gave):=layNew t es h x
 g gave
 let byValue ← if t.plain then hashByValue 8 x else pure true
 let t:=if byValue then t else { t with plain:=false }
 storeSet a es t
 if !wasDummy&&t.tooFull then
  let (es,t,gave):=relayAll t es (SetTable.grown es.size)
  g gave
  storeSet a es t
 return some true
theorem scan_ok {Q:Option Bool->Shared->Prop}{g:Bool->Sem Unit}{tk:Tok}(hg:∀ (s₁:Shared) (Q':Unit->Shared->Prop),Q' () s₁->wpAny (model prog w) A (g false) Q' E s₁)(D:SAt w F s a ks ob es n t)(hno:Key.s x∉ks)(hkd:∀ k'∈ks,k'.kind=0)(hz:ks.length+1<400)(hout:∀ h',Grew w F s a (.s x::ks) h' (fun _=>True)->Q (some true) { s with heap:=h' }):wpAny (model prog w) A (scanK g a (.str x tk) ((Key.s x).hash w.params) es t) Q E s:=by
 have hk:KeyAt F (.s x) (.str x tk):=⟨tk,rfl⟩;generalize hv:Value.str x tk=v at hk;have hbv:hashByValue 8 v=pure (plainKind v):=hv▸hashByValue_scannable 8 (x:=.str x tk) rfl;have hkd:∀ k'∈ks,k'.kind=(Key.s x).kind:=hkd;generalize Key.s x=k at *;refine el12 (free_slot D (k.hash w.params)) fun m hm hfs=>?_;generalize hput:t.put (prb t (k.hash w.params) m).j=tp;obtain ⟨t',p⟩:=tp
 have eS:(SetTable.insertAt es p (k.hash w.params,v)).size=ks.length+1:=by rw [<-Array.length_toList,SetTable.toList_insertAt];exact (ins_length es.toList p _).trans (by rw [D.hl])
 have hfit:t'.fits (ks.length+1)=true:=by
  have hw:=D.ok.tab.wide;rw [List.length_map] at hw;refine el05 (put_facts D.ok.tab.dum hput) fun _ e1 _ e3 e4=>?_;unfold SetTable.fits SetTable.fill;rw [e4,e3,e1,D.ok.tab.size,List.length_map,beq_self_eq_true];exact decide_eq_true hw
 have hln:layNew t es (k.hash w.params) v=(SetTable.insertAt es p (k.hash w.params,v),t',false,false):=by
  unfold layNew;rw [hfs];dsimp only;rw [hput];dsimp only;unfold SetTable.orStandIn;rw [eS,hfit];rfl
 unfold scanK;rw [hln];refine wpAny_bind (hg _ _ ?_)
 have tail:∀ b:Bool,wpAny (model prog w) A (do
   storeSet a (SetTable.insertAt es p (k.hash w.params,v)) (if b=true then t' else { t' with plain:=false })
   if (!false&&((if b=true then t' else { t' with plain:=false }):SetTable).tooFull)=true then (do
    g (relayAll (if b=true then t' else { t' with plain:=false }) (SetTable.insertAt es p (k.hash w.params,v)) (SetTable.grown (SetTable.insertAt es p (k.hash w.params,v)).size)).2.2
    storeSet a (relayAll (if b=true then t' else { t' with plain:=false }) (SetTable.insertAt es p (k.hash w.params,v)) (SetTable.grown (SetTable.insertAt es p (k.hash w.params,v)).size)).1 (relayAll (if b=true then t' else { t' with plain:=false }) (SetTable.insertAt es p (k.hash w.params,v)) (SetTable.grown (SetTable.insertAt es p (k.hash w.params,v)).size)).2.1
    pure (some true)) else pure (some true)) Q E s:=fun b=>by
  refine (plain_is t' b).elim fun pl e=>?_;rw [e];refine add_store D hk hno hkd hz hm hput (fun h' q=>wpAny_pure (hout h' q)) fun h' ob' hs _ D'=>?_;have hgr:=grown_ok hz (Nat.succ_pos _);refine el22 (D'.relaidAll (wanted:=SetTable.grown (ks.length+1)) (prog:=prog) (A:=A) (E:=E) (Q:=fun _ s'=>wpAny (model prog w) A (pure (some true)) Q E s') hgr.1 (by rw [ins_length];exact hgr.2) fun h'' q=>wpAny_pure (hout h'' (Grew.step (r':=fun _=>True) hs (ins_perm ..) q))) fun es' t'' r1 r2=>?_;rw [eS,r1];exact wpAny_bind (hg _ _ (wpAny_bind r2))
 by_cases hp:t'.plain=true
 ·exact ifT hp (wpAny_bind (hbv.symm▸wpAny_pure (tail _)))
 ·exact ifF hp (wpAny_bind (wpAny_pure (tail true)))
theorem add_any (hA:A.units+1<cLine)(D:SAt w F s a ks ob es n t)(hk:KeyAt F k v)(hkd:∀ k'∈ks,k'.kind=k.kind)(hz:ks.length+1<400)(hin:k∈ks->Q false s)(hout:k∉ks->∀ h',Grew w F s a (k::ks) h' (fun _=>True)->Q true { s with heap:=h' }) :
  wpAny (model prog w) A (setAddHashed a v (k.hash w.params)) Q E s:=by
 have hb:es.size<scanBound:=by rw [D.size];exact D.ok.small
 unfold setAddHashed setAddHashedIn;refine wpAny_holding (wpAny_bind (D.state ?_));dsimp only;by_cases h0:k.kind=0
 ·cases k with
  | s x =>
   refine Exists.elim (show ∃ tk,v=.str x tk from hk) fun tk e=>?_;subst e;have hel:=SAt.elems (prog:=prog) D hkd;rw [byScan_of (knd:=strKind prog w) rfl hb hel];refine ifT rfl (wpAny_bind (wpAny_bind (m:=rule "set.add.by-scan") (wpAny_rule (wpAny_bind (wpAny_setScan_of (knd:=strKind prog w) (k:=x) (strKind_is _ _ _ _) D.ho D.hd D.fits hel ?_)))));refine (SAt.scan (prog:=prog) D (x:=x) hkd).elim (fun q=>el12 q fun j e1 e2=>?_) fun q=>?_
   ·rw [e1];exact wpAny_pure (wpAny_pure (hin e2))
   ·rw [q.1];exact scan_ok (g:=_) (fun _ _ q=>wpAny_pure q) D q.2 hkd hz fun h' g=>wpAny_pure (hout q.2 h' g)
  | t _=>cases h0
  | p _ _=>cases h0
 ·refine (ref_key hk h0).elim fun b e=>?_;subst e;exact ifF Bool.false_ne_true (wpAny_bind (search_key (adding:=true) rfl hA D hk h0 hkd (fun hi r hr=>wpAny_pure (hin hi)) (fun hno m h1 h2 h3=>wpAny_bind (D.state (key_ok D hk h0 hno hkd hz ⟨h1,h2,h3⟩ (hout hno)))) (stand:=none) (m:=0) rfl (fun x hx=>absurd hx (Nat.not_lt_zero _)) (Nat.zero_le _) (turns_lt D.ok.tab.cap)))
end
end
section
open PySem PySem.Calls
noncomputable def freshSet (w:World):Obj:={ cls:=.type "set",data:=.set #[] 0 (.fresh 0 0 (!w.params.followText "set-order")) }
theorem freshSet_at {w:World}:OAt w.params F (.set []) (freshSet w):=by
 refine ⟨⟨rfl,rfl,rfl⟩,#[],0,_,rfl,rfl,(fun i k h=>by simp at h),⟨List.nodup_nil,by rfl,by decide,fun e=>?_,⟨rfl,⟨3,by lia,rfl⟩,show (7:Nat)<5000 by decide,rfl,show (0:Nat)*5<7*3 by decide,List.Pairwise.nil,(fun _ h=>by cases h),(fun i h j e _=>by cases e)⟩,(fun _ h=>by cases h)⟩⟩;show (!w.params.followText "set-order")=true;rw [e];rfl
theorem newSet_at {w:World}{Q:Value->Shared->Prop}(h:Q (.ref s.heap.objs.size) { s with heap:=s.heap.push (freshSet w) }):wpAny (model prog w) A (newSet (.type "set")) Q E s:=by
 unfold newSet;refine wpAny_bind (wpAny_byText ?_);show wpAny _ _ (newObj (.type "set") (.set #[] 0 (.fresh 0 0 (!w.params.followText "set-order")))) _ _ s;simp only [newObj];refine wpAny_bind ?_;exact wpAny_alloc (wpAny_pure h)
theorem newOf_set {w:World}{rest:List Value}{Q₁:Value->Shared->Prop}(hc:checkBuiltinCall "set.__new__" ⟨.type "set" :: rest,[]⟩=pure ())(h:Q₁ (.ref s.heap.objs.size) { s with heap:=s.heap.push (freshSet w) }):codeAny (model prog w) A (.call (.builtin "set.__new__") ⟨.type "set" :: rest,[]⟩) (wants Q₁ E) s:=by
 refine codeAny_of_tree ?_;show wpAny _ A.in1 (do checkBuiltinCall "set.__new__" ⟨.type "set" :: rest,[]⟩;again (.builtin "set.__new__" ⟨.type "set" :: rest,[]⟩)) _ _ s;refine wpAny_bind (wpAny_of_eq hc (wpAny_pure ⟨plainId_quiet PySem.F.plain_set_new _,codeAny_builtin PySem.F.entry_set_new ?_⟩));rw [Around.under_plainId PySem.F.plain_set_new _];unfold Builtin.«set.__new__» Builtin.Frozenset.newClass;refine wpAny_bind ?_;refine wpAny_bind (m:=isType _) (wpAny_pure ?_)
 (first | rw [if_neg (show ¬ ((!true)=true) from Bool.false_ne_true)] | simp only [Bool.not_true,Bool.false_eq_true,if_false])
 refine wpAny_bind (wpAny_of_eq sub_set_self ?_)
 (first | rw [if_neg (show ¬ ((!true)=true) from Bool.false_ne_true)] | simp only [Bool.not_true,Bool.false_eq_true,if_false])
 refine wpAny_pure (wpAny_bind (newSet_at (wpAny_pure h)))
theorem callSet {w:World}{rest:List Value}{Q:Value->Shared->Prop}(hct:checkTypeCall "set" ⟨rest,[]⟩=pure ())(hc:checkBuiltinCall "set.__new__" ⟨.type "set" :: rest,[]⟩=pure ())(hi:∀ (s':Shared) (self:Value) (Q':Unit->Shared->Prop),s'.TypeIs self "set"->Q' () s'->wpAny (model prog w) A.in1.in1 (checkBuiltinCall "set.__init__" ⟨self::rest,[]⟩) Q' E s')(h:wpAny (model prog w) A.in1.in1 (Builtin.«set.__init__» ⟨.ref s.heap.objs.size::rest,[]⟩) (fun fin s'=>fin=.done (.ret .none)∧Q (.ref s.heap.objs.size) s') E { s with heap:=s.heap.push (freshSet w) }) :
  wpAny (model prog w) A (call (.type "set") rest) Q E s:=by
 refine el21 (PySem.F.called_set.mro) fun c tl hmro=>?_;have hmade:=PySem.F.called_set.made;have hsub:=PySem.F.called_set.sub;refine wpAny_call (codeAny_of_tree ?_);show wpAny _ _ (callAny (.type "set") _) _ _ _;refine wpAny_pure ⟨Code.quiet_builtin _ (by decide +kernel),codeAny_builtin PySem.F.entry_type_call ?_⟩;rw [Around.under_plain (weight_type_call_type "set" rest []) rfl];have h1:=PySem.F.called_set.notType;have h2:=PySem.F.called_set.canCreate
 repeat (any_goals (first | assumption | wp_step))
 refine codeAny_mono (newOf_set (E:=E) (Q₁:=fun obj s₁=>obj=.ref s.heap.objs.size∧s₁={ s with heap:=s.heap.push (freshSet w) }) hc ⟨rfl,rfl⟩) fun r s₁ hr=>?_
 cases r with
 | error e=>exact hr
 | ok fl =>
  cases fl with
  | ret obj =>
   obtain ⟨rfl,rfl⟩:=hr;have hS:(s.heap.push (freshSet w)).get? s.heap.objs.size=some (freshSet w):=Heap.get?_push_size _ rfl;have hT:Shared.TypeIs { s with heap:=s.heap.push (freshSet w) } (.ref s.heap.objs.size) "set" := ⟨_,hS,rfl⟩;have hli:=PySem.F.called_set.init.lookup;have hbi:=PySem.F.called_set.init.bind (.ref s.heap.objs.size)
   repeat (any_goals (first | assumption | wp_step))
   refine codeAny_mono (codeAny_call_builtin (R:=wants (fun r s₂=>r=.none∧Q (.ref s.heap.objs.size) s₂) E) PySem.F.called_set.init.plain PySem.F.entry_set_init (hi _ _ _ hT (wpAny_mono h (fun fin s' hq=>?_) fun _ _ e=>e))) fun r₂ s₂ hr₂=>?_
   ·obtain ⟨rfl,hq⟩:=hq;exact ⟨rfl,hq⟩
   ·cases r₂ with
    | error e=>exact hr₂
    | ok fl₂ =>
     cases fl₂ with
     | ret r =>
      obtain ⟨rfl,hq⟩:=hr₂
      repeat (any_goals (first | assumption | wp_step))
     | _=>exact hr₂.elim
  | _=>exact hr.elim
section
theorem Sim.pushSet (S:Sim C F Z μ s):Sim C F Z ((s.heap.objs.size,.set [])::μ) { s with heap:=s.heap.push (freshSet C.w) }:=S.pushM rfl freshSet_at
theorem Has.set (S:Sim C F Z μ s){x:W}{v:Value}(h:Has μ x (.set ks))(hw:WAt C.P F x v):∃ a ob es n t,v=.ref a∧SAt C.w F s a ks ob es n t:=by
 cases x with
 | l a =>
  refine WAt.i_l hw ?_;obtain ⟨_,_,ob,h3,hx,es,n,t,hd,hl,he,ok⟩:=S.own a _ h;exact ⟨a,ob,es,n,t,rfl,S.fz,h3,hx,hd,hl,he,ok⟩
 | v y =>
  cases y with
  | set l =>
   injection (show O.set ks=O.set l from h) with e;subst e;exact Val.i_set hw fun a o es n t h1 h2 h3 h4 h5 h6=>⟨_,_,_,_,_,rfl,S.fz,S.fz _ _ h1,h2,h3,h4,h5,h6⟩
  | list=>exact nomatch (show O.set ks=O.list _ from h)
  | dict=>exact nomatch (show O.set ks=O.dict _ from h)
  | _=>exact False.elim h
theorem contains_at {w:World}{k:Key}{v:Value}{ob:Obj}(hA:A.units+2<cLine)(D:SAt w F s a ks ob es n t)(hk:KeyAt F k v)(hkd:∀ k'∈ks,k'.kind=k.kind)(h:∀ x,Q (decide (k∈ks)) { s with toks:=x }):wpAny (model prog w) A (contains (.ref a) v) Q E s:=by
 unfold contains
 try with_reducible refine wpAny_holding ?_
 refine wpAny_bind (wpAny_specialOf D.typeIs PySem.F.slot_set_contains.lookup ?_);show wpAny _ _ (if (some (Value.builtin "set.__contains__") == some Value.none)=true then _ else _) _ E s;rw [if_neg (by rw [beq_builtin_none];exact Bool.false_ne_true)]
 refine wpAny_bind (wpAny_callSpecialUnlessNone?_slot (name:=Str.ofString "__contains__") D.typeIs PySem.F.slot_set_contains
  (wpAny_call_entry PySem.F.slot_set_contains D.typeIs entry_set_contains ?_ (PySem.F.args_set_contains_2 _ _)))
 unfold Builtin.«frozenset.__contains__» Builtin.Frozenset.oneOther;simp only [List.isEmpty_nil,bind_assoc];unfold Builtin.Frozenset.addrOf Builtin.Frozenset.withSetAsKey;refine wpAny_bind (wpAny_pure ?_)
 try dsimp only
 refine wpAny_bind (wpAny_pure ?_)
 try dsimp only
 refine wpAny_bind (wpAny_tryCatch ?_);refine contains_set (A:=A.in1) (by show A.units+1+1<cLine;lia) D hk hkd fun x=>?_;show wpAny _ _ (ret (Value.bool _)) _ _ _;exact wpAny_pure ⟨_,rfl,wpAny_truthy_bool (h x)⟩
theorem v_inSP {x:W}{key:Key}(hH:Has μ x (.set ks))(hkd:∀ k'∈ks,k'.kind=key.kind)(h:k (.v (.bool (decide (key∈ks)))) μ):cV2 C d μ (.v key.val) x (compareOp .In) k:=fun A F Z s u v hA S hu hv=>by
 (refine el52 (hH.set S hv) fun a ob es n t qq5 D=>?_;subst qq5)
 show wpAny _ _ (do return Value.bool (← contains (.ref a) u)) _ _ s;exact wpAny_bind (contains_at (by first | exact hA.cl | exact hA.u (by decide)) D (Val.key hu) hkd fun t=>wpAny_pure ⟨_,F,μ,h,.refl _,S.tok t,.bool _⟩)
theorem v_notInSP {x:W}{key:Key}(hH:Has μ x (.set ks))(hkd:∀ k'∈ks,k'.kind=key.kind)(h:k (.v (.bool (!decide (key∈ks)))) μ):cV2 C d μ (.v key.val) x (compareOp .NotIn) k:=fun A F Z s u v hA S hu hv=>by
 (refine el52 (hH.set S hv) fun a ob es n t qq5 D=>?_;subst qq5)
 show wpAny _ _ (do return Value.bool (!(← contains (.ref a) u))) _ _ s;exact wpAny_bind (contains_at (by first | exact hA.cl | exact hA.u (by decide)) D (Val.key hu) hkd fun t=>wpAny_pure ⟨_,F,μ,h,.refl _,S.tok t,.bool _⟩)
theorem v_notInS {x:W}{key:Key}(hH:Has μ x (.set ks))(hkd:∀ k'∈ks,k'.kind=key.kind)(hp:key.kind≠2)(h:k (.v (.bool (!decide (key∈ks)))) μ):cV2 C d μ (.v key.val) x (compareOp .NotIn) k:=v_notInSP hH hkd h
theorem m_set {x:W}{name:Str}{id:String}{kk:Value->List W->Mem->Prop}(hH:Has μ x (.set ks))(slot:Slot "set" name id)(hty:typeOf (.builtin id)=pure (.type "method_descriptor"))(h:kk (.builtin id) [x] μ) :
  cMeth C d μ x name kk:=fun A F Z s v pl hA S hv=>by
 (refine el52 (hH.set S hv) fun a ob es n t qq5 D=>?_;subst qq5)
 exact getMethod_builtin D.typeIs PySem.F.plainAttrs_set slot hty (fun b e=>by cases e;exact ⟨_,D.ho,D.hx.2.1⟩) ⟨[x],F,μ,h,.refl _,S,.cons hv .nil⟩
theorem setAdd_sim {key:Key}{v:Value}(hA:A.units+1<cLine)(S:Sim C F Z μ s)(hm:(a,O.set ks)∈μ)(hk:KeyAt F key v)(hkd:∀ k'∈ks,k'.kind=key.kind)(hz:ks.length+1<400)(hin:key∈ks->∀ t,Q false { s with toks:=t })(hout:key∉ks->∀ ks' μ' s',ks'.Perm (key::ks)->UpdAt a (.set ks) (.set ks') μ μ'->Sim C F Z μ' s'->Q true s'):wpAny C.M A (setAdd a v) Q (fun _ _=>False) s:=by
 refine el52 (Has.set S (x:=.l a) hm rfl) fun a' ob es n t e D=>?_
 cases e
 unfold setAdd;refine wpAny_holding (wpAny_bind (hash_keyS hA S.fz hk fun tk=>?_));refine add_any hA (D.tok tk) hk hkd hz (fun h=>hin h tk) fun hno h' g=>?_;exact g.elim fun ks' g=>g.elim fun ob' g=>(UpdAt.exists (.set ks') hm).elim fun μ' hU=>hout hno ks' μ' _ g.1 hU (S.updM hU g.2.1 g.2.2.1 g.2.2.2.1 tk)
theorem c_setaddP {key:Key}(hm:(a,O.set ks)∈μ)(hkd:∀ k'∈ks,k'.kind=key.kind)(hz:ks.length+1<400)(hin:key∈ks->k (.v .none) μ)(hout:key∉ks->∀ ks' μ',ks'.Perm (key::ks)->UpdAt a (.set ks) (.set ks') μ μ'->k (.v .none) μ'):cCall C d μ (.builtin "set.add") [.l a,.v key.val] [] k:=fun A F Z s vs kws hA S hv hkw=>by
 refine KwAt.i_nil hkw ?_;refine WsAt.i2 hv fun v1 v2 h1 h2=>?_;refine WAt.i_l h1 ?_;refine el52 (Has.set S (x:=.l a) hm rfl) fun a' ob es n t e D=>?_
 cases e
 refine wpAny_call_entry PySem.F.slot_set_add D.typeIs PySem.F.entry_set_add ?_ (PySem.F.args_set_add_2 _ _);unfold Builtin.«set.add» Builtin.Frozenset.oneOther;simp only [List.isEmpty_nil,bind_assoc];unfold Builtin.Frozenset.addrOf;refine wpAny_bind (wpAny_pure ?_)
 try dsimp only
 refine wpAny_bind (wpAny_pure ?_)
 try dsimp only
 refine wpAny_bind (wpBot (setAdd_sim (A:=A.in1) (hA.u (n:=2) (by decide)) S hm (Val.key h2) hkd hz (Q:=fun _ s'=>Post C Z k F .none s') (fun hi t=>⟨.v .none,F,μ,hin hi,.refl _,S.tok t,.none⟩)
  fun hno ks' μ' s' p1 p2 p3=>⟨.v .none,F,μ',hout hno ks' μ' p1 p2,.refl _,p3,.none⟩) fun b s' hq=>?_)
 exact wpAny_pure ⟨_,rfl,hq⟩
theorem c_setadd {key:Key}(hm:(a,O.set ks)∈μ)(hkd:∀ k'∈ks,k'.kind=key.kind)(hp:key.kind≠2)(hz:ks.length+1<400)(hin:key∈ks->k (.v .none) μ)(hout:key∉ks->∀ ks' μ',ks'.Perm (key::ks)->UpdAt a (.set ks) (.set ks') μ μ'->k (.v .none) μ'):cCall C d μ (.builtin "set.add") [.l a,.v key.val] [] k:=c_setaddP hm hkd hz hin hout
end
end
section
open PySem PySem.Calls
theorem UpdAt.trans {x y z:O}(h:UpdAt a x y μ μ₁)(h':UpdAt a y z μ₁ μ₂)(hn:(μ.map (·.1)).Nodup):UpdAt a x z μ μ₂:=by
 induction h generalizing μ₂ with
 | here =>
  cases h' with
  | here=>exact .here
  | there q =>
   simp only [List.map_cons,List.nodup_cons] at hn;exact absurd (List.mem_map_of_mem (f:=(·.1)) q.mem) hn.1
 | there p ih =>
  simp only [List.map_cons,List.nodup_cons] at hn
  cases h' with
  | here =>
   have:(_:Addr×O).1∈_:=List.mem_map_of_mem (f:=(·.1)) p.mem;exact absurd this hn.1
  | there q=>exact .there (ih q hn.2)
theorem UpdAt.mem2 {x y:O}(h:UpdAt a x y μ μ'):(a,y)∈μ':=by
 induction h with
 | here=>exact .head _
 | there _ ih=>exact .tail _ ih
theorem UpdAt.self {x:O}(h:(a,x)∈μ):UpdAt a x x μ μ:=by
 induction μ with
 | nil=>cases h
 | cons p r ih =>
  rcases List.mem_cons.mp h with q | q
  ·subst q;exact .here
  ·exact .there (ih q)
section
theorem Val.setAt {v:Value}(h:Val C.P F (.set lo) v):∃ o ob es n t,v=.ref o∧F o=some ob∧∀ s':Shared,PIn F s'.heap->SAt C.w F s' o lo ob es n t:=by
 cases h with
 | set h1 h2 h3 h4 h5 h6=>exact ⟨_,_,_,_,_,rfl,h1,fun s' hF=>⟨hF,hF _ _ h1,h2,h3,h4,h5,h6⟩⟩
theorem isAny_set {w:World}{v:Value}(hT:s.TypeIs v "set")(h:Q true s):wpAny (model prog w) A (Builtin.Frozenset.isAnySet v) Q E s:=by
 unfold Builtin.Frozenset.isAnySet;refine wpAny_bind (wpAny_isInstance hT sub_set_self ?_);exact wpAny_pure h
theorem SetOk.same (h:SetOk P ks t)(e1:t'.mask=t.mask)(e2:t'.place=t.place)(e3:t'.dummies=t.dummies)(hl:P.followText "set-order" = false->t'.led=true):SetOk P ks t':=by
 refine ⟨h.nodup,?_,h.small,hl,⟨e3.trans h.tab.dum,by rw [e1];exact h.tab.mask,by rw [e1];exact h.tab.cap,by rw [e2];exact h.tab.size,by rw [e1,e2];exact h.tab.room,by rw [e2];exact h.tab.asc,by rw [e1,e2];exact h.tab.le,fun i x j h1 h2=>?_⟩,h.one⟩
 ·have:=h.fits;unfold SetTable.fits SetTable.fill at this ⊢;rw [e1,e2,e3];exact this
 ·rw [e2] at h2;refine el13 (h.tab.path i x j h1 h2) fun n c1 c2 c3=>?_;exact ⟨n,by rw [e1];exact c1,by rw [prb_mask e1];exact c2,fun y hy=>by rw [prb_mask e1,e2];exact c3 y hy⟩
theorem SetOk.flags (h:SetOk P ks t)(led plain:Bool)(hl:P.followText "set-order" = false->led=true):SetOk P ks { t with led:=led,plain:=plain }:=h.same rfl rfl rfl hl
theorem str_inj {x y:Key}{v:Value}(hx:x.kind=0)(hy:y.kind=0)(h:KeyAt F x v)(h':KeyAt F y v):x=y:=by
 cases x with
 | s a =>
  cases y with
  | s b=>exact Exists.elim (show ∃ t,v=.str a t from h) fun t e=>Exists.elim (show ∃ t,v=.str b t from h') fun u e'=>congrArg Key.s (Value.str.inj (e.symm.trans e')).1
  | _=>cases hy
 | _=>cases hx
def Ent (C:Cx)(F:PMap)(x:Key)(e:Int×Value):Prop:=x.kind=0∧e.1=x.hash C.P∧KeyAt F x e.2
theorem Ent.inj {x y:Key}{e:Int×Value}(h:Ent C F x e)(h':Ent C F y e):x=y:=str_inj h.1 h'.1 h.2.2 h'.2.2
theorem Ent.str {x:Key}{e:Int×Value}(h:Ent C F x e):∃ y tk,e.2=Value.str y tk:=by
 refine h.elim fun h0 h=>?_
 cases x with
 | s y=>exact h.2.elim fun tk e=>⟨y,tk,e⟩
 | _=>cases h0
theorem SAt.ents {o:Addr}{ob:Obj}(D:SAt C.w F s o lo ob es n t)(hlo:∀ x∈lo,x.kind=0) :
  (∀ e∈es.toList,∃ x,Ent C F x e)∧∀ x,(∃ e∈es.toList,Ent C F x e)↔x∈lo:=by
 have one:∀ e∈es.toList,∃ x∈lo,Ent C F x e:=fun e he=>(List.mem_iff_getElem?.mp he).elim fun i hi=>by
  have hlt:i<lo.length:=by rw [<-D.hl];exact (List.getElem?_eq_some_iff.mp hi).1
  refine el12 (D.he i _ (List.getElem?_eq_getElem hlt)) fun v e1 e2=>⟨_,List.getElem_mem hlt,hlo _ (List.getElem_mem hlt),?_⟩;have e1:=Option.some.inj (hi.symm.trans e1);rw [e1];exact ⟨rfl,e2⟩
 exact ⟨fun e he=>el12 (one e he) fun x _ h=>⟨x,h⟩,fun x=>⟨fun h=>el12 h fun e he h=>el12 (one e he) fun y hy h'=>h.inj h'▸hy,
  fun hx=>(List.mem_iff_getElem?.mp hx).elim fun i hi=>el12 (D.he i x hi) fun v e1 e2=>⟨_,List.mem_of_getElem? e1,hlo x hx,rfl,e2⟩⟩⟩
theorem walk_no {b l p:Bool}(hb:¬ b=true)(hc:(b||(l&&p)||decide (n≤1))=true):¬ (!p&&decide (n > 1))=true:=by
 cases b with
 | true=>exact absurd rfl hb
 | false =>
  cases p with
  | true=>exact Bool.false_ne_true
  | false =>
   cases l<;>exact fun h=>Nat.not_lt_of_le (of_decide_eq_true hc) (of_decide_eq_true h)
theorem walk_any {o:Addr}{ob:Obj}{Q:Array (Int×Value)->Shared->Prop}(D:SAt C.w F s o lo ob es n t)(hc:(C.w.params.followText "set-order" || (t.led&&t.plain)||decide (es.size≤1))=true)(hQ:∀ out,out.toList.Perm es.toList->Q out s):wpAny C.M A (setWalk o) Q (fun _ _=>False) s:=by
 refine wpAny_bind (D.state (wpAny_bind (wpAny_byText ?_)));by_cases hb:C.w.params.followText "set-order" = true
 ·exact ifT hb (wpAny_bind (wpAny_askSetting (wpAny_pure (hQ _ (pickOrder_perm _ _)))))
 ·have hl:=D.ok.led (Bool.eq_false_iff.mpr hb);exact ifF hb (ifF (walk_no hb hc) (wpAny_bind (ifF (by rw [hl];exact Bool.false_ne_true) (wpAny_pure (wpAny_pure (hQ _ (.refl _)))))))
theorem quiet_txt {l:List Addr}(h:∀ a∈l,∃ lo ob es n t,(∀ x∈lo,x.kind=0)∧SAt C.w F s a lo ob es n t)(hQ:Q true s):wpAny C.M A (setsQuiet l) Q (fun _ _=>False) s:=by
 refine wpAny_bind (all_pass (fun a ha Q q=>el52 (h a ha) fun lo ob es n t hlo D=>?_) (wpAny_pure hQ));refine wpAny_bind (D.entries (wpAny_bind ?_));rw [<-Array.forIn_toList];refine all_pass (fun e he Q q=>?_) (wpAny_pure q)
 exact ((D.ents hlo).1 e he).elim fun x hx=>el21 hx.str fun y tk e2=>by
  show wpAny _ _ (match e.2 with | .ref _=>_ | _=>_) _ _ _;rw [e2];exact wpAny_pure q
theorem walkUnseen {o:Addr}{ob:Obj}{Q:Array (Int×Value)->Shared->Prop}(S:Sim C F Z μ s)(hm:(a,O.set ks)∈μ)(hks:∀ x∈ks,x.kind=0)(hlo:∀ x∈lo,x.kind=0)(D:SAt C.w F s o lo ob es n t)(hQ:∀ out s',out.toList.Perm es.toList->Sim C F Z μ s'->Q out s'):wpAny C.M A (setWalkUnseen o [a] (some a)) Q (fun _ _=>False) s:=by
 refine wpAny_bind (D.state (wpAny_bind (wpAny_byText ?_)));by_cases hc:(C.w.params.followText "set-order" || (t.led&&t.plain)||decide (es.size≤1))=true
 ·exact ifT hc (walk_any D hc fun out hp=>hQ out s hp S)
 refine ifF hc ?_;refine el52 (Has.set S (x:=.l a) hm rfl) fun a' oba esa na ta e Da=>?_
 cases e
 refine wpAny_bind (quiet_txt (F:=F) (fun x hx=>(List.mem_cons.mp hx).elim (fun q=>?_) fun q=>?_) ?_)
 ·rw [q];exact ⟨lo,ob,es,n,t,hlo,D⟩
 ·rw [List.mem_singleton.mp q];exact ⟨ks,oba,esa,na,ta,hks,Da⟩
 refine ifF Bool.false_ne_true (wpAny_bind (wpAny_rule (wpAny_bind (Da.state ?_))));by_cases hc:(ta.led&&!t.led||ta.plain&&!t.plain)=true
 ·refine ifT hc (wpAny_bind (wpAny_storeSet_of Da.ho Da.hd (wpAny_pure (hQ _ _ (.refl _) ?_)) ?_))
  ·have hg:=Heap.get?_update_self (Obj.putSet esa { ta with led:=ta.led&&t.led,plain:=ta.plain&&t.plain }) Da.ho (by rw [putSet_of _ _ Da.hd];rfl);have hg2:=hg;rw [putSet_of _ _ Da.hd] at hg2;have S':=S.updM (UpdAt.self hm) (Heap.SameBut.update ..) hg2 ⟨Da.hx,esa,na+1,_,rfl,Da.hl,Da.he,Da.ok.flags (ta.led&&t.led) (ta.plain&&t.plain) fun e=>by rw [Da.ok.led e,D.ok.led e];rfl⟩ s.toks;exact S'
  ·rw [Da.size,sizeLine_eq];exact Nat.le_trans (Nat.le_of_lt Da.ok.small) (by decide)
 ·exact ifF hc (wpAny_pure (hQ _ _ (.refl _) S))
structure Mgd (C:Cx)(F Z:PMap)(a:Addr)(μ:Mem)(ks:List Key)(new:Key->Prop)(m:Nat)(s:Shared)(ks':List Key)(μ':Mem):Prop where
 u:UpdAt a (.set ks) (.set ks') μ μ'
 S:Sim C F Z μ' s
 mem:∀ x,x∈ks'↔x∈ks∨new x
 kd:∀ x∈ks',x.kind=0
 nd:ks'.Nodup
 len:ks'.length≤m
theorem Mgd.as {ks':List Key}{p q:Key->Prop}{m':Nat}(g:Mgd C F Z a μ ks p m s ks' μ')(h:∀ x,p x↔q x)(hm:m≤m'):Mgd C F Z a μ ks q m' s ks' μ' :=
 ⟨g.u,g.S,fun x=>(g.mem x).trans (or_congr Iff.rfl (h x)),g.kd,g.nd,Nat.le_trans g.len hm⟩
theorem Mgd.trans {ks₁ ks₂:List Key}{p q:Key->Prop}{m':Nat}(g:Mgd C F Z a μ ks p m s ks₁ μ')(hn:(μ.map (·.1)).Nodup)(g':Mgd C F Z a μ' ks₁ q m' s' ks₂ μ₂):Mgd C F Z a μ ks (fun x=>p x∨q x) m' s' ks₂ μ₂ :=
 ⟨g.u.trans g'.u hn,g'.S,fun x=>(g'.mem x).trans ((or_congr (g.mem x) Iff.rfl).trans or_assoc),g'.kd,g'.nd,g'.len⟩
theorem add_one {x:Key}{e:Int×Value}(hA:A.units+1<cLine)(S:Sim C F Z μ s)(hm:(a,O.set ks)∈μ)(hk:∀ x∈ks,x.kind=0)(hn:ks.Nodup)(he:Ent C F x e)(hz:ks.length+1<400)(hQ:∀ b s' ks' μ',Mgd C F Z a μ ks (Ent C F · e) (ks.length+1) s' ks' μ'->Q b s'):wpAny C.M A (setAddHashed a e.2 e.1) Q (fun _ _=>False) s:=by
 refine el52 (Has.set S (x:=.l a) hm rfl) fun a' ob es n t q D=>?_
 cases q
 have hx:∀ y,Ent C F y e↔y=x:=fun y=>⟨fun h=>h.inj he,fun h=>h▸he⟩;rw [he.2.1];refine add_any hA D he.2.2 (fun y hy=>(hk y hy).trans he.1.symm) hz (fun hi=>hQ _ _ _ _ ⟨UpdAt.self hm,S,fun y=>⟨.inl,fun q=>q.elim id fun e=>(hx y).mp e▸hi⟩,hk,hn,Nat.le_succ _⟩) fun hno h' g=>?_;exact g.elim fun ks' g=>g.elim fun ob' g=>(UpdAt.exists (.set ks') hm).elim fun μ' hU=>hQ _ _ ks' μ' ⟨hU,S.updM hU g.2.1 g.2.2.1 g.2.2.2.1 s.toks,fun y=>by rw [g.1.mem_iff,List.mem_cons,hx y];exact Or.comm,fun y hy=>(List.mem_cons.mp (g.1.mem_iff.mp hy)).elim (fun q=>q▸he.1) (hk y),g.1.nodup_iff.mpr (List.nodup_cons.mpr ⟨hno,hn⟩),Nat.le_of_eq g.1.length_eq⟩
theorem addEach {Q:PUnit->Shared->Prop}(hA:A.units+1<cLine){f:Int×Value->PUnit->Sem (ForInStep PUnit)}(hf:∀ e u s' (Q':ForInStep PUnit->Shared->Prop),PIn F s'.heap->wpAny C.M A (setAddHashed a e.2 e.1) (fun _ s''=>PIn F s''.heap∧Q' (.yield ⟨⟩) s'') (fun _ _=>False) s'->wpAny C.M A (f e u) Q' (fun _ _=>False) s'){L:List (Int×Value)}(S:Sim C F Z μ s)(hm:(a,O.set ks)∈μ)(hk:∀ x∈ks,x.kind=0)(hn:ks.Nodup)(hL:∀ e∈L,∃ k,Ent C F k e)(hz:ks.length+L.length<399)(hQ:∀ s' ks' μ',Mgd C F Z a μ ks (fun x=>∃ e∈L,Ent C F x e) (ks.length+L.length) s' ks' μ'->Q ⟨⟩ s') :
   wpAny C.M A (forIn L ⟨⟩ f) Q (fun _ _=>False) s:=by
 induction L generalizing μ ks s with
 | nil=>exact wpAny_pure (hQ s ks μ ⟨UpdAt.self hm,S,fun x=>⟨.inl,fun q=>q.elim id fun q=>q.elim fun e q=>nomatch q.1⟩,hk,hn,Nat.le_refl _⟩)
 | cons e L ih =>
  rw [List.forIn_cons];have e1:ks.length+1+L.length=ks.length+(e::L).length:=Nat.succ_add_eq_add_succ ..;refine (hL e (.head _)).elim fun x he=>wpAny_bind (hf e _ _ _ S.fz (add_one hA S hm hk hn he (Nat.lt_of_le_of_lt (Nat.le_add_right _ L.length) (by rw [e1];exact Nat.lt_succ_of_lt hz)) fun b s₁ ks₁ μ₁ g=>⟨g.S.fz,?_⟩));refine ih g.S g.u.mem2 g.kd g.nd (fun e h=>hL e (.tail _ h)) (Nat.lt_of_le_of_lt (Nat.add_le_add_right g.len _) (by rw [e1];exact hz)) fun s' ks' μ' g'=>hQ s' ks' μ' ((g.trans S.nod.1 g').as (fun y=>?_) (Nat.le_trans (Nat.add_le_add_right g.len _) (Nat.le_of_eq e1)));exact ⟨fun q=>q.elim (fun q=>⟨e,.head _,q⟩) fun q=>el12 q fun e h q=>⟨e,.tail _ h,q⟩,fun q=>el12 q fun e' h q=>(List.mem_cons.mp h).elim (fun h=>.inl (h▸q)) fun h=>.inr ⟨e',h,q⟩⟩
theorem SAt.fill {w:World}{o:Addr}{ob:Obj}(D:SAt w F s o lo ob es n t):t.place.size=lo.length∧t.fill=lo.length:=by
 have e:t.place.size=lo.length:=by rw [D.ok.tab.size,List.length_map]
 refine ⟨e,?_⟩;unfold SetTable.fill;rw [D.ok.tab.dum,e];rfl
theorem room_ok {l k:Nat}(hz:l+m<399)(hm:0<m):l<400∧(l+m)*2<2000∧l*5<(l+m)*2*3∧((l+m)*2≤k->(l+m)*5<k*3):=by
 have h5:(l+m)*5<(l+m)*2*3:=by rw [Nat.mul_assoc];exact Nat.mul_lt_mul_of_pos_left (by decide) (Nat.lt_of_lt_of_le hm (Nat.le_add_left ..))
 exact ⟨Nat.lt_of_le_of_lt (Nat.le_add_right ..) (Nat.lt_succ_of_lt hz),Nat.lt_of_lt_of_le (Nat.mul_lt_mul_of_pos_right hz (by decide)) (by decide),Nat.lt_of_le_of_lt (Nat.mul_le_mul_right 5 (Nat.le_add_right ..)) h5,fun h=>Nat.lt_of_lt_of_le h5 (Nat.mul_le_mul_right 3 h)⟩
theorem roomFor_at {more:Nat}{Q:Unit->Shared->Prop}(S:Sim C F Z μ s)(hm:(a,O.set ks)∈μ)(hz:ks.length+more<399)(hmo:0<more)(hQ:∀ ks' μ' s' ob es n t,ks'.Perm ks->UpdAt a (.set ks) (.set ks') μ μ'->Sim C F Z μ' s'->SAt C.w F s' a ks' ob es n t->(ks.length+more)*5<t.mask*3->Q () s'):wpAny C.M A (setRoomFor a more) Q (fun _ _=>False) s:=by
 refine el52 (Has.set S (x:=.l a) hm rfl) fun a' ob es n t e D=>?_
 cases e
 refine wpAny_bind (D.state ?_);show wpAny _ _ (match (if (t.fill+more)*5 ≥ t.mask*3 then some ((t.place.size+more)*2) else none) with | some wanted=>setRelay a wanted | _=>pure ()) _ _ _;rw [D.fill.1,D.fill.2];by_cases hc:(ks.length+more)*5 ≥ t.mask*3
 ·rw [if_pos hc];have hr:=fun k=>room_ok (k:=k) hz hmo;refine (D.raw (hr 0).1).relay (hr 0).2.1 (hr 0).2.2.1 fun h' g=>g.elim fun ks' g=>g.elim fun ob' g=>(UpdAt.exists (.set ks') hm).elim fun μ' hU=>?_;have S':=S.updM hU g.2.1 g.2.2.1 g.2.2.2.1 s.toks;refine el52 (Has.set S' (x:=.l a) hU.mem2 rfl) fun a' ob2 es2 n2 t2 e2 D2=>?_
  cases e2
  refine el32 g.2.2.2.2 fun es' n' t' q1 q2=>hQ ks' μ' _ _ _ _ _ g.1 hU S' D2 ((hr t2.mask).2.2.2 ?_);have e:=Option.some.inj (D2.ho.symm.trans g.2.2.1);have e:=D2.hd.symm.trans (e▸q1);injection e with _ _ e;rw [e];exact q2
 ·rw [if_neg hc];exact wpAny_pure (hQ ks μ s ob es n t (.refl _) (UpdAt.self hm) S D (Nat.lt_of_not_ge hc))
section
variable {o:Addr}{each:Sem Unit}{ob ob₁:Obj}{es₁:Array (Int×Value)}{n₁:Nat}{t₁:SetTable}{Q:Unit->Shared->Prop}
theorem merge_store (S:Sim C F Z μ s)(hm:(a,O.set [])∈μ)(D₁:SAt C.w F s a [] ob₁ es₁ n₁ t₁)(hz:lo.length<390)(hlo:∀ x∈lo,x.kind=0)(hnd:lo.Nodup)(hQ:∀ s' ks' μ',Mgd C F Z a μ [] (·∈lo) lo.length s' ks' μ'->Q () s'){es':Array (Int×Value)}{lo':List Key}(hp:lo'.Perm lo)(hsz:es'.size=lo.length)(hO:OAt C.P F (.set lo') { ob₁ with data:=.set es' (n₁+1) t' }):wpAny C.M A (storeSet a es' t') Q (fun _ _=>False) s:=by
 refine wpAny_storeSet_of D₁.ho D₁.hd ?_ (by rw [hsz,sizeLine_eq];exact Nat.le_trans (Nat.le_of_lt hz) (by decide));have hg:=Heap.get?_update_self (Obj.putSet es' t') D₁.ho (by rw [putSet_of _ _ D₁.hd];rfl);rw [putSet_of _ _ D₁.hd] at hg;exact (UpdAt.exists (.set lo') hm).elim fun μ₂ hU=>hQ _ lo' μ₂ ⟨hU,S.updM hU (Heap.SameBut.update ..) hg hO s.toks,fun x=>⟨fun h=>.inr (hp.mem_iff.mp h),fun h=>h.elim (fun h=>nomatch h) hp.mem_iff.mpr⟩,fun x hx=>hlo x (hp.mem_iff.mp hx),hp.nodup_iff.mpr hnd,Nat.le_of_eq hp.length_eq⟩
theorem merge_empty (S:Sim C F Z μ s)(hm:(a,O.set [])∈μ)(D₁:SAt C.w F s a [] ob₁ es₁ n₁ t₁)(D:SAt C.w F s o lo ob es n t)(hz:lo.length<390)(hlo:∀ x∈lo,x.kind=0)(hroom:lo.length*5<t₁.mask*3)(hQ:∀ s' ks' μ',Mgd C F Z a μ [] (·∈lo) lo.length s' ks' μ'->Q () s'){g:Sem Unit}{c:Option (SetTable×Array Nat)->Sem (Array (Int×Value)×SetTable)}(hc:∀ t order,(order.filterMap (es[·]?)).size=es.size->c (some (t,order))=pure (order.filterMap (es[·]?),t)) :
  wpAny C.M A (match (if (t₁.mask == t.mask&&t.dummies.isEmpty)=true then SetTable.Road.slotForSlot else .clean) with
   | .slotForSlot=>storeSet a es { t with finger:=t₁.finger,led:=t₁.led&&t.led,moves:=t₁.moves,plain:=t₁.plain&&t.plain }
   | .clean=>do let (e,t) ← c (SetTable.laid t₁.mask t₁.finger t₁.moves (t₁.led&&t.led) (t₁.plain&&t.plain) (es.map (·.1)));storeSet a e t
   | .oneByOne=>g) Q (fun _ _=>False) s:=by
 have hled:C.w.params.followText "set-order" = false->(t₁.led&&t.led)=true:=fun e=>by rw [D₁.ok.led e,D.ok.led e];rfl
 by_cases hm':(t₁.mask == t.mask&&t.dummies.isEmpty)=true
 ·rw [if_pos hm'];exact merge_store S hm D₁ hz hlo D.ok.nodup hQ (.refl _) D.size ⟨D₁.hx,_,_,_,rfl,D.hl,D.he,D.ok.same rfl rfl rfl hled⟩
 ·rw [if_neg hm'];refine el37 ((D.raw (Nat.lt_trans hz (by decide))).laid (mask:=t₁.mask) D₁.ok.tab.mask D₁.ok.tab.cap hroom t₁.finger t₁.moves (t₁.led&&t.led) (t₁.plain&&t.plain) hled (n₁+1) ob₁ D₁.hx) fun t' order lo' g0 g1 g2 g3 _ _ g4=>?_;refine wpAny_bind ?_;rw [g1,hc _ _ g2];exact wpAny_pure (merge_store S hm D₁ hz hlo D.ok.nodup hQ g3 (g2.trans D.size) g4)
theorem merge_at (hA:A.units+1<cLine)(heach:∀ (s':Shared) (Q':Unit->Shared->Prop),PIn F s'.heap->Q' () s'->wpAny C.M A each Q' (fun _ _=>False) s')(S:Sim C F Z μ s)(hm:(a,O.set ks)∈μ)(fo:F o=some ob)(D:∀ s':Shared,PIn F s'.heap->SAt C.w F s' o lo ob es n t)(hks:∀ x∈ks,x.kind=0)(hlo:∀ x∈lo,x.kind=0)(hz:ks.length+lo.length<390)(hQ:∀ s' ks' μ',Mgd C F Z a μ ks (·∈lo) (ks.length+lo.length) s' ks' μ'->Q () s'):wpAny C.M A (setMerge a o each) Q (fun _ _=>False) s:=by
 have hne:¬ (a == o)=true:=fun h=>by
  have e:=(S.own a _ hm).1;rw [eq_of_beq h,fo] at e;cases e
 have D0:=D s S.fz;have hnd:ks.Nodup:=el52 (Has.set S (x:=.l a) hm rfl) fun a' ob es n t e D=>D.ok.nodup;refine ifF hne (wpAny_bind (D0.state ?_));by_cases hemp:es.isEmpty=true
 ·have hl:lo.length=0:=D0.size▸Array.isEmpty_iff_size_eq_zero.mp hemp;have hl:=List.length_eq_zero_iff.mp hl;exact ifT hemp (wpAny_pure (hQ s ks μ ⟨UpdAt.self hm,S,fun x=>⟨.inl,fun h=>h.elim id fun h=>by rw [hl] at h;cases h⟩,hks,hnd,Nat.le_add_right ..⟩))
 have hpos:0<lo.length:=D0.size▸Nat.pos_of_ne_zero fun h=>hemp (Array.isEmpty_iff_size_eq_zero.mpr h);have hz':ks.length+lo.length<399:=Nat.lt_trans hz (by decide);refine ifF hemp ?_;rw [D0.size];refine wpAny_bind (roomFor_at S hm hz' hpos fun ks₁ μ₁ s₁ ob₁ es₁ n₁ t₁ p1 hU₁ S₁ D₁ hroom=>wpAny_bind (D₁.state ?_));have hk₁:∀ x∈ks₁,x.kind=0:=fun x hx=>hks x (p1.mem_iff.mp hx);have hn₁:=p1.nodup_iff.mpr hnd;have g₁:Mgd C F Z a μ ks (fun _=>False) ks.length s₁ ks₁ μ₁:=⟨hU₁,S₁,fun x=>p1.mem_iff.trans (Iff.of_eq (or_false _)).symm,hk₁,hn₁,Nat.le_of_eq p1.length_eq⟩;have Do:=D s₁ S₁.fz;show wpAny _ _ (match (if (t₁.fill != 0)=true then SetTable.Road.oneByOne else if (t₁.mask == t.mask&&t.dummies.isEmpty)=true then .slotForSlot else .clean) with | .slotForSlot=>_ | .clean=>_ | .oneByOne=>_) _ _ _;rw [D₁.fill.2];by_cases hf:(ks₁.length != 0)=true
 ·rw [if_pos hf];refine wpAny_bind (walkUnseen S₁ hU₁.mem2 hk₁ hlo Do fun out s₂ hperm S₂=>?_);rw [<-Array.forIn_toList]
  have hl:ks₁.length+out.toList.length=ks.length+lo.length:=by rw [hperm.length_eq,Do.hl,p1.length_eq]
  have hE:=Do.ents hlo;refine wpAny_bind (wpBot (addEach (Q:=fun _ s'=>Q () s') hA (fun e u s' Q' hF hq=>?_) S₂ hU₁.mem2 hk₁ hn₁ (fun e he=>hE.1 e (hperm.mem_iff.mp he)) (by rw [hl];exact hz') fun s' ks' μ' g=>?_) fun _ _ q=>wpAny_pure q)
  ·refine wpAny_bind (wpAny_holding (wpBot hq fun b s'' hq=>wpAny_bind (heach _ _ hq.1 (wpAny_bind ((D s'' hq.1).state ?_)))));exact ifF (by rw [bne_self_eq_false];exact Bool.false_ne_true) (wpAny_pure hq.2)
  ·exact hQ s' ks' μ' ((g₁.trans S.nod.1 g).as (fun x=>(Iff.of_eq (false_or _)).trans (Iff.trans ⟨fun h=>el12 h fun e he h=>⟨e,hperm.mem_iff.mp he,h⟩,fun h=>el12 h fun e he h=>⟨e,hperm.mem_iff.mpr he,h⟩⟩ (hE.2 x))) (Nat.le_of_eq hl))
 ·rw [if_neg hf];have hk0:ks₁=[]:=List.length_eq_zero_iff.mp (by simpa using hf);subst hk0;have hk0:ks=[]:=List.length_eq_zero_iff.mp p1.length_eq.symm;subst hk0;have e0:([]:List Key).length+lo.length=lo.length:=Nat.zero_add _;rw [e0] at hz hroom
  exact merge_empty S₁ hU₁.mem2 D₁ Do hz hlo hroom (fun s' ks' μ' g=>hQ s' ks' μ' ((g₁.trans S.nod.1 g).as (fun x=>Iff.of_eq (false_or _)) (Nat.le_of_eq e0.symm))) fun t order h=>by
   show (if ((order.filterMap (es[·]?)).size != es.size)=true then _ else _)=_;rw [if_neg (by rw [h,bne_self_eq_false];exact Bool.false_ne_true)]
end
end
end
section
open PySem PySem.Calls
theorem nameOf_set {M:Model}{v:Value}{Q:String->Shared->Prop}(hT:s.TypeIs v "set")(h:Q "set" s):wpAny M A (typeNameOfCut 200 v) Q E s:=by
 unfold typeNameOfCut shownTypeOf;refine wpAny_bind (wpAny_bind (wpAny_typeOf hT ?_));simp only [show (Value.type "set" == Value.type "builtin_function_or_method")=false by decide,Bool.false_eq_true,if_false];refine wpAny_pure ?_
 have e:typeNameCut 200 (.type "set")=pure "set" := by
  unfold typeNameCut
  first
   | (have e:typeName (.type "set")=pure "set" := (by unfold typeName;rw [find?_eq_fast];kernel_rfl);simp only [e];rfl)
   | kernel_rfl
 rw [e];exact wpAny_pure h
section
theorem init_set {rest:List Value}{Q:PySem.Fin->Shared->Prop}(S:Sim C F Z μ s)(hm:(a,O.set [])∈μ)(hl:rest.length≤1)(h:wpAny C.M A (match rest with | [x]=>Builtin.Frozenset.updateFrom "set.__init__" a x | _=>pure ()) (fun _ s'=>Q (.done (.ret .none)) s') (fun _ _=>False) s):wpAny C.M A (Builtin.«set.__init__» ⟨.ref a::rest,[]⟩) Q (fun _ _=>False) s:=by
 refine el52 (Has.set S (x:=.l a) hm rfl) fun a' ob es n t e D=>?_
 cases e
 unfold Builtin.«set.__init__»;refine wpAny_bind (m:=noKeywords "set" _) (wpAny_pure ?_);dsimp only;refine wpAny_bind (nameOf_set D.typeIs ?_);refine wpAny_bind (m:=checkCount "set" 0 1 _) ?_
 have hcc:checkCount "set" 0 1 rest.length=pure ():=by
  have:rest.length=0∨rest.length=1:=by lia
  rcases this with q | q<;>rw [q]<;>rfl
 rw [hcc];refine wpAny_pure ?_;refine wpAny_bind (m:=Builtin.Frozenset.addrOf _) (wpAny_pure ?_);refine wpAny_bind ?_;unfold setUsed;refine wpAny_bind (D.state (wpAny_pure ?_))
 have hfill:t.fill=0:=by unfold SetTable.fill;rw [D.ok.tab.dum,D.ok.tab.size];rfl
 show wpAny _ _ (if (t.fill != 0)=true then _ else _) _ _ _;rw [hfill,if_neg (by decide)]
 cases rest with
 | nil=>exact h
 | cons x r =>
  obtain rfl:r=[]:=List.eq_nil_of_length_eq_zero (by simpa using hl);exact wpAny_bind (wpBot h fun _ s' q=>wpAny_pure q)
theorem c_set0 (h:∀ a,k (.l a) ((a,.set [])::μ)):cCall C d μ (.type "set") [] [] k:=fun A F Z s vs kws hA S hv hkw=>by
 refine KwAt.i_nil hkw ?_;refine WsAt.i_nil hv ?_;refine callSet PySem.F.typeCall_set_0 PySem.F.newCall_set_0 (fun s' self Q' hT hq=>check_set_init hT hq) ?_;exact init_set S.pushSet (.head _) (by simp) (wpAny_pure ⟨rfl,_,F,_,h _,.refl _,S.pushSet,rfl⟩)
theorem Rm.in1 (h:Rm A (d+1)):Rm A.in1 d:=h.step h.hd (Nat.le_add_right ..) (Nat.add_le_add_left (by decide) _)
theorem UpdAt.head {x y:O}(h:UpdAt a x y ((a,x)::μ) μ')(hn:(((a,x)::μ).map (·.1)).Nodup):μ'=(a,y)::μ:=by
 cases h with
 | here=>rfl
 | there q =>
  simp only [List.map_cons,List.nodup_cons] at hn;exact absurd (List.mem_map_of_mem (f:=(·.1)) q.mem) hn.1
theorem unchanged_at {w:World}{o:Addr}{ob:Obj}{id:String}{Q:Unit->Shared->Prop}(D:SAt w F s o ks ob es n t)(h:Q () s):wpAny (model prog w) A (Builtin.Frozenset.unchanged id o n) Q E s:=by
 unfold Builtin.Frozenset.unchanged;refine wpAny_bind (D.epoch ?_);rw [if_neg (by simp)];exact wpAny_pure h
theorem updFrom_set {id:String}{v:Value}{Q:Unit->Shared->Prop}(hA:A.units+1<cLine)(S:Sim C F Z μ s)(hm:(a,O.set ks)∈μ)(hv:Val C.P F (.set lo) v)(hks:∀ x∈ks,x.kind=0)(hlo:∀ x∈lo,x.kind=0)(hz:ks.length+lo.length<390)(hQ:∀ s' ks' μ',Mgd C F Z a μ ks (·∈lo) (ks.length+lo.length) s' ks' μ'->Q () s'):wpAny C.M A (Builtin.Frozenset.updateFrom id a v) Q (fun _ _=>False) s:=by
 (refine el53 (hv.setAt) fun o ob es n t qq5 fo D=>?_;subst qq5)
 unfold Builtin.Frozenset.updateFrom;refine wpAny_bind (isAny_set (D s S.fz).typeIs ?_)
 (first | rw [if_pos (rfl:true=true)] | simp only [if_true])
 refine wpAny_bind (m:=Builtin.Frozenset.addrOf _) (wpAny_pure ?_);unfold Builtin.Frozenset.merge;refine wpAny_bind ((D s S.fz).epoch ?_);exact merge_at hA (fun s' Q' hF hq=>unchanged_at (D s' hF) hq) S hm fo D hks hlo hz hQ
theorem c_update (hm:(a,O.set ks)∈μ)(hks:∀ x∈ks,x.kind=0)(hlo:∀ x∈lo,x.kind=0)(hz:ks.length+lo.length<390)(h:∀ ks' μ',UpdAt a (.set ks) (.set ks') μ μ'->(∀ x,x∈ks'↔x∈ks∨x∈lo)->ks'.Nodup->k (.v .none) μ'):cCall C d μ (.builtin "set.update") [.l a,.v (.set lo)] [] k:=fun A F Z s us kws hA S hv hkw=>by
 refine KwAt.i_nil hkw ?_;refine WsAt.i2 hv fun v1 v2 h1 h2=>?_;refine WAt.i_l h1 ?_;refine el52 (Has.set S (x:=.l a) hm rfl) fun a' ob es n t e D=>?_
 cases e
 refine wpAny_call_entry PySem.F.slot_set_update D.typeIs PySem.F.entry_set_update ?_ (PySem.F.args_set_update_2 _ _);unfold Builtin.«set.update» Builtin.Frozenset.manyOthers;refine wpAny_bind ?_;show wpAny _ _ (Builtin.Frozenset.addrOf (.ref a)>>=_) _ _ s;refine wpAny_bind (m:=Builtin.Frozenset.addrOf _) (wpAny_pure (wpAny_pure ?_));dsimp only;simp only [List.forIn_cons,List.forIn_nil];refine wpAny_bind (wpAny_bind ?_);refine wpAny_bind (updFrom_set (hA.u (n:=2) (by decide)) S hm h2 hks hlo hz fun s' ks' μ' g=>?_);exact wpAny_pure (wpAny_pure (wpAny_pure ⟨_,rfl,.v .none,F,μ',h ks' μ' g.u g.mem g.nd,.refl _,g.S,.none⟩))
end
end
section
open PySem PySem.Calls
section
theorem SAt.up {w:World}{ob:Obj}(D:SAt w F s a ks ob es n t)(hF:PIn F' s.heap)(le:PLe F F'):SAt w F' s a ks ob es n t :=
 ⟨hF,D.ho,D.hx,D.hd,D.hl,fun i k e=>el12 (D.he i k e) fun v x y=>⟨v,x,y.mono le⟩,D.ok⟩
section
variable {ord:List Nat}
theorem fmv_some (hlt:∀ x∈ord,x<ks.length){x:V}(hx:((ord.filterMap (ks[·]?)).map Key.val)[i]? = some x):∃ x₀ k,ord[i]? = some x₀∧ks[x₀]? = some k∧x=k.val:=by
 rw [List.getElem?_map,fm_get hlt] at hx
 cases q:ord[i]? with
 | none=>rw [q] at hx;cases hx
 | some x₀ =>
  have e:=List.getElem?_eq_getElem (hlt x₀ (List.mem_of_getElem? q));rw [q,Option.bind_some,e] at hx;exact ⟨x₀,_,rfl,e,(Option.some.inj hx).symm⟩
theorem fmv_none (hlt:∀ x∈ord,x<ks.length)(hx:((ord.filterMap (ks[·]?)).map Key.val)[i]? = none):ord[i]? = none:=by
 rw [List.getElem?_map,fm_get hlt] at hx
 cases q:ord[i]? with
 | none=>rfl
 | some x₀ =>
  rw [q,Option.bind_some,List.getElem?_eq_getElem (hlt x₀ (List.mem_of_getElem? q))] at hx
  cases hx
end
theorem Sim.draw (S:Sim C F Z μ s)(dr:_):Sim C F Z μ { s with drawn:=dr }:=⟨S.base,S.fz,S.zz,S.dis,S.own,S.nod,S.os,S.gens⟩
theorem it_set:cIter C d μ (.v (.set ks)) (fun items=>∃ L:List Key,items=L.map Key.val∧L.Perm ks):=fun A F Z s v hA S hv=>by
 refine el53 (Val.setAt hv) fun o₁ ob₁ es n t e fo D=>?_;rw [e];have D0:=D s S.fz;refine iterS (fun e=>absurd (Heap.lt_size (S.fz _ _ fo)) (by rw [<-e];exact Nat.lt_irrefl _)) D0 fun ord dr o F' h' hperm le hF' hJ hfr=>?_
 have hlt:∀ x∈ord,x<ks.length:=fun x hx=>by rw [<-D0.size];exact List.mem_range.mp (hperm.mem_iff.mp hx)
 have S':Sim C F' Z μ { s with heap:=h',drawn:=dr }:=hF'.elim (fun q=>by rw [q.1,q.2];exact S.draw dr) fun q=>el13 q fun ot hot e1 e2=>by rw [e1,e2];exact (S.draw dr).pushAt hot
 have up:=fun {s':Shared}(hF:PIn F' s'.heap)=>SAt.up (D s' fun a o e=>hF a o (le a o e)) hF le
 refine ⟨h'.objs.size,_,fun i o=>SIter C.w o₁ F' es n t ord i o,F',o,rfl,⟨_,rfl,fm_perm _ (by rw [<-D0.size];exact hperm)⟩,le,S'.pushZ hfr,(fresh_none S').2.1,hJ,⟨fun i o J=>el12 (SIter.fields J) fun y hd _=>⟨_,_,J.cls,hd,by decide⟩,fun i x A s' Q E o hh hF ho J hx hQ=>?_,
  fun i A s' Q E o hh hF ho J hx hQ=>nextS_end hh (up hF) ho J (fmv_none hlt hx) fun h'' hs=>hQ h'' s'.toks hs,fun i A s' Q E o ho J h=>?_⟩⟩
 ·refine el23 (fmv_some hlt hx) fun x₀ k q hk e=>el12 ((up hF).he x₀ k hk) fun v' g1 g2=>?_;exact nextS_item (up hF) ho J q (e:=(_,v')) (by rw [<-Array.getElem?_toList];exact g1) fun h'' o' ho' J' hs=>hQ v' h'' o' s'.toks (by rw [e];exact g2.val) hs ho' J'
 ·refine wpAny_pyIter_slot (si_type ho J.cls) slot_si_iter (wpAny_call_entry slot_si_iter (si_type ho J.cls) entry_si_iter ?_ (args_si_iter _));exact wpAny_pure ⟨_,rfl, "set_iterator",_,si_type ho J.cls,slot_si_next.lookup,h⟩
theorem inMain_at (hg:C.gen=false)(R:EnvRel C F Z env ε)(S:Sim C F Z μ s)(h:∀ b,Q b s):wpAny C.M A (inMainModule env) Q (fun _ _=>False) s:=by
 obtain ⟨⟨q,c,o,vs,t,e,g,hd,_⟩,_⟩:=R.blt.2 hg;unfold inMainModule;rw [e,if_neg (show ¬ ((Value.ref c == Value.none)=true) from Bool.false_ne_true)];refine wpAny_bind (wpAny_fieldsOf (S.keep _ _ g) hd ?_);split
 ·exact wpAny_bind (wpAny_askSetting (wpAny_pure (h _)))
 ·exact wpAny_pure (h _)
theorem Sim.takeZ {x:O}(S:Sim C F (PSet Z a o) μ s)(hz:Z a=none)(hx:OAt C.P F x o)(hg:mainGlobals<a):Sim C F Z ((a,x)::μ) s:=by
 have le:PLe Z (PSet Z a o):=fun b ob e=>by
  have ne:b≠a:=fun q=>by rw [q,hz] at e;cases e
  rw [PSet.ne _ _ ne];exact e
 have na:∀ y,(a,y)∉μ:=fun y hm=>by have:=(S.own a y hm).2.1;rw [PSet.self] at this;cases this
 refine ⟨S.base,S.fz,fun b ob e=>S.zz b ob (le b ob e),fun b ob e=>S.dis b ob (le b ob e),fun b y hm=>?_,⟨List.nodup_cons.mpr ⟨fun hm=>?_,S.nod.1⟩,fun b hb=>?_⟩,S.os,S.gens⟩
 ·rcases List.mem_cons.mp hm with q | q
  ·cases q
   exact ⟨S.dis _ o (PSet.self ..),hz,o,S.zz _ _ (PSet.self ..),hx⟩
  ·refine el03 (S.own b y q) fun h1 h2 h3=>?_
   have ne:b≠a:=fun e=>by rw [e,PSet.self] at h2;cases h2
   rw [PSet.ne _ _ ne] at h2;exact ⟨h1,h2,h3⟩
 ·(refine el12 (List.mem_map.mp hm) fun qq0 hp e=>?_;rcases qq0 with ⟨b,y⟩)
  have e:b=a:=e;subst e;exact na y hp
 ·rcases List.mem_cons.mp hb with q | q
  ·rw [q];exact hg
  ·exact S.nod.2 b q
theorem cE_set1 (hg:C.gen=false)(hst:∀ env,(starEach [e] env).map (fun (star,t)=>(star,(do let v ← t;standAt pos;pure v:Sem Value)))=[(false,do let v ← eval e env;standAt pos;pure v)])(h:cE C d sc ε μ e fun x μ₁=>∃ key:Key,x=.v key.val∧key.kind≠2∧∀ a,k (.l a) ((a,.set [key])::μ₁)):cE C d sc ε μ (.Set [e] 0 pos) k:=fun A env F Z s hA hs R S=>by
 rw [arm_eval_Set];refine wpAny_bind (wpAny_standAt (wpAny_bind (inMain_at hg R S fun b=>?_)));rw [hst,show displayRoad 0 [e]=.oneByOne from rfl];unfold setDisplay;refine ifF (by decide) (wpAny_bind (newSet_at ?_));have nZ:=(fresh_none S).2.1;refine wpAny_bind (wpAny_holding (wpAny_bind ?_));show wpAny _ _ (evalAll [(do let v ← eval e env;standAt pos;pure v)]) _ _ _;unfold evalAll;refine wpAny_bind (wpAny_bind (wpBot (h A env F _ _ hA hs (R.le (PSet.le nZ)) (S.pushZ (o:=freshSet C.w) rfl)) fun v s₁ hq=>hq.casesOn fun x F₁ μ₁ hx le₁ S₂ hv=>el13 hx fun key ex hp hk=>?_));rw [ex] at hv;refine wpAny_bind (wpAny_standAt (wpAny_pure (wpAny_bind (wpAny_holding ?_))));unfold evalAll;refine wpAny_pure (wpAny_pure ?_);have S₃:=S₂.takeZ nZ (x:=.set []) freshSet_at S.above;refine wpAny_bind (wpAny_holding ?_);rw [List.forIn_cons];refine wpAny_bind (wpAny_bind (wpAny_bind (wpBot (setAdd_sim (Q:=fun _ s'=>∃ μ',Sim C F₁ Z μ' s'∧k (.l s.heap.objs.size) μ') (by first | exact hA.cl | exact hA.u (by decide)) S₃ (.head _) (Val.key hv) (fun _ h=>(nomatch h)) (show 0+1<400 by decide) (fun hin=>(nomatch hin)) fun hno ks' μ' s' p1 p2 p3=>?_) fun b s' q=>el12 q fun μ' q1 q2=>?_)))
 ·rw [p2.head S₃.nod.1,List.perm_singleton.mp p1] at p3;exact ⟨_,p3,hk _⟩
 ·exact wpAny_pure (wpAny_pure (ifF (by decide) (wpAny_pure (wpAny_pure (wpAny_pure ⟨.l _,F₁,μ',q2,le₁,q1,rfl⟩)))))
end
end
section
open PySem PySem.Calls
theorem split_set_len:splitId "set.__len__" = some ("set", "__len__"):=by kernel_rfl
section
theorem extend_loop {it:Addr}{items:List V}{res:Value}(hA:Rm A d)(hit:Iter C F₂ it items J)(hz:Z it=none)(hsz:items.length<100000){R:Result->Shared->Prop}:∀ {i:Nat}{μ:Mem}{ws:List W}{o:Obj}{s:Shared},i+m=items.length->Sim C F₂ (PSet Z it o) μ s->J i o->(a,O.list ws)∈μ->ws.length=i->
   (∀ s' μ',UpdAt a (.list ws) (.list (ws++(items.drop i).map .v)) μ μ'->Sim C F₂ Z μ' s'->R (.ok (.ret res)) s')->
   codeAny C.M A (.builtin "list.extend.loop" ⟨[.ref a,.ref it,res],[]⟩) R s:=by
 induction m with
 | zero =>
  intro i μ ws o s hi S hJ hm hwl hR
  have hd:ws++(items.drop i).map W.v=ws:=by rw [List.drop_of_length_le (show items.length≤i from Nat.le_of_eq hi.symm)];exact List.append_nil ws
  rw [hd] at hR;refine codeAny_builtin PySem.F.entry_extend_loop ?_;rw [Around.under_plainId PySem.F.plain_extend_loop _];exact wpAny_bind (hit.stop hA.hd (.refl _) S (PSet.self ..) hJ (List.getElem?_eq_none (Nat.le_of_eq hi.symm)) hz (PSet.le hz) fun s' S'=>wpAny_pure (hR s' μ (UpdAt.self hm) S'))
 | succ m ih =>
  intro i μ ws o s hi S hJ hm hwl hR;have hlt:i<items.length:=hi▸Nat.lt_add_of_pos_right (Nat.succ_pos m)
  have hd:ws++(items.drop i).map W.v=ws++[W.v items[i]]++(items.drop (i+1)).map W.v:=by rw [List.drop_eq_getElem_cons hlt,List.map_cons,List.append_assoc];rfl
  rw [hd] at hR;refine codeAny_builtin PySem.F.entry_extend_loop ?_;rw [Around.under_plainId PySem.F.plain_extend_loop _];refine wpAny_bind (hit.take hA.hd (.refl _) S (PSet.self ..) hJ (List.getElem?_eq_getElem hlt) fun v o' s₁ hv S' hJ'=>?_);rw [PSet.twice] at S';refine el22 (S'.isLm hm) fun its n hl hws=>wpAny_bind ?_
  have hlen:its.size=i:=by rw [<-Array.length_toList,hws.length,hwl]
  have hs:i+1≤sizeLine:=by rw [sizeLine_eq];exact Nat.le_trans hlt (Nat.le_trans (Nat.le_of_lt hsz) (by decide))
  refine (UpdAt.exists (.list (ws++[.v items[i]])) hm).elim fun μ₂ hU=>?_;have S₂:=S'.updM hU (Heap.SameBut.update _ _ _) (IsL.update hl (·.push v)) ⟨_,_,rfl,by rw [Array.toList_push];exact hws.append (.cons hv .nil)⟩ s₁.toks;refine wpAny_updateSeq hl rfl (wpAny_pure ⟨plainId_quiet PySem.F.plain_extend_loop _,?_⟩) (by rw [hlen];exact Nat.le_of_succ_le hs) (by show (its.push v).size≤sizeLine+1;rw [Array.size_push,hlen];exact Nat.le_succ_of_le hs);exact ih ((Nat.succ_add_eq_add_succ i m).trans hi) S₂ hJ' hU.mem2 (by rw [List.length_append,hwl];rfl) fun s₃ μ₃ r1 r2=>hR s₃ μ₃ (hU.trans r1 S.nod.1) r2
theorem hint_set {v:Value}(hT:s.TypeIs v "set")(h:Q false s):wpAny C.M A (Builtin.List.listLengthHint v) Q E s:=by
 refine wpAny_bind (wpAny_specialOf hT PySem.F.slot_set_len.lookup ?_);dsimp only;rw [split_set_len];refine wpAny_bind (wpAny_isInstance hT sub_set_self ?_);refine ifF Bool.false_ne_true (ifT (by decide +kernel) (wpAny_bind (wpAny_typeOf hT ?_)));exact wpAny_pure h
theorem room_list {Q:Unit->Shared->Prop}(S:Sim C F Z ((a,O.list [])::μ) s)(h:∀ s',Sim C F Z ((a,O.list [])::μ) s'->Q () s'):wpAny C.M A (Builtin.List.listTouch (.ref a)) Q E s:=by
 show wpAny _ A (updateSeq a (·.push .none)>>=fun _=>updateSeq a (·.pop)) _ _ _;refine el22 (S.isLm (List.Mem.head _)) fun its ni hl hws=>?_;have his:its=#[]:=Array.eq_empty_of_size_eq_zero (by rw [<-Array.length_toList];exact hws.length);subst his;refine wpAny_bind (wpAny_updateSeq hl rfl ?_);have hl2:=IsL.update hl (·.push Value.none);exact wpAny_updateSeq hl2 rfl (h _ (S.updM (UpdAt.self (List.Mem.head _)) ((Heap.SameBut.update _ _ _).trans (Heap.SameBut.update _ _ _)) (IsL.update hl2 (·.pop)) ⟨_,_,rfl,.nil⟩ s.toks))
theorem Sim.drop1 {x:O}(q:Sim C F Z ((a,x)::μ) s):Sim C F Z μ s:=⟨q.base,q.fz,q.zz,q.dis,fun a x hm=>q.own a x (.tail _ hm),q.nod.sublist (List.sublist_cons_self ..),q.os,q.gens⟩
theorem collect_set {v:Value}{Q:List Value->Shared->Prop}(hA:Rm A (d+2))(S:Sim C F Z μ s)(hv:Val C.P F (.set ks) v)(hz:ks.length<100000)(hQ:∀ (L:List Key) vs F' s',L.Perm ks->PLe F F'->Sim C F' Z μ s'->Vals C.P F' (L.map Key.val) vs->Q vs s'):wpAny C.M A (collect v) Q (fun _ _=>False) s:=by
 refine el53 hv.setAt fun o ob es n t qq5 fo D=>?_;have hT:∀ {F' Z' μ' s'},PLe F F'->Sim C F' Z' μ' s'->s'.TypeIs v "set" := fun {F' Z' μ' s'} le S'=>qq5▸(D s' fun a o e=>S'.fz a o (le a o e)).typeIs
 have hne:Builtin.List.listSameRef (.ref s.heap.objs.size) v=false:=by
  rw [qq5];exact beq_false_of_ne fun e=>absurd (Heap.lt_size (S.fz _ _ fo)) (by rw [<-e];exact Nat.lt_irrefl _)
 refine wpAny_bind (wpAny_runValue (codeAny_builtin PySem.F.entry_proto_collect ?_));rw [Around.under_plainId PySem.F.plain_proto_collect _];refine wpAny_bind (m:=newList []) (wpAny_newObj_type ?_);refine wpAny_pure ⟨plainId_quiet PySem.F.plain_list_iadd _,codeAny_builtin PySem.F.entry_list_iadd ?_⟩;rw [Around.under_plainId PySem.F.plain_list_iadd _];have S₁:=S.pushM (o:={ cls:=.type "list",data:=.seq #[] }) (x:=.list []) rfl ⟨_,_,rfl,.nil⟩;refine wpAny_bind (m:=typeOf v) (wpAny_typeOf (hT (.refl _) S₁) ?_);refine ifF (by rw [hne];decide) (wpAny_bind (wpBot (it_set (C:=C) (d:=d) (μ:=(s.heap.objs.size,O.list [])::μ) (ks:=ks) A.in1 F Z _ v (hA.in1.mono (Nat.le_add_right ..)) S₁ hv) fun itv s₂ hq=>hq.casesOn fun it items J F₂ o₂ e hP le₂ S₂ hz' hJ hit=>?_));rw [e];refine el12 hP fun L hL hP=>wpAny_bind (wpAny_holding (hint_set (hT le₂ S₂) ?_))
 have hlen:items.length=ks.length:=by rw [hL,List.length_map,hP.length_eq]
 refine ifT (by decide +kernel) (wpAny_bind (wpAny_rule (wpAny_bind (room_list S₂ fun s₃ S₃=>wpAny_pure ⟨plainId_quiet PySem.F.plain_extend_loop _,?_⟩))));refine extend_loop (d:=d+2) hA hit hz' (by rw [hlen];exact hz) (Nat.zero_add items.length) S₃ hJ (.head _) rfl fun s' μ' q1 q2=>?_;rw [q1.head S₁.nod.1] at q2;refine el22 (q2.isLm (List.Mem.head _)) fun its' n' hl' hws'=>wpAny_bind (wpAny_load hl' ?_);exact wpAny_pure (hQ L its'.toList F₂ s' hP le₂ q2.drop1 (hL▸Vals.of (frozen_map items) hws'))
end
end
section
open PySem PySem.Calls
open PyProof.Rows (sortedHeap sortedHeap_old sortedHeap_at pairsOf pairsOf_toList pairsOf_size arrOf strKind_oneLt SortedToK list_sort_treeK)
theorem Sim.newF (S:Sim C F Z μ s){ob:Obj}(hold:∀ b o,s.heap.get? b=some o->s'.heap.get? b=some o)(ha:s'.heap.get? s.heap.objs.size=some ob)(ho:s'.os=s.os)(hg:s'.gens=s.gens) :
  ∃ F',PLe F F'∧F' s.heap.objs.size=some ob∧Sim C F' Z μ s':=by
 refine el03 (fresh_none S) fun nF nZ nM=>?_;have le:=PSet.le (o:=ob) nF;refine ⟨PSet F s.heap.objs.size ob,le,PSet.self ..,fun a o e=>le a o (S.base a o e),fun a o e=>?_,fun a o e=>hold a o (S.zz a o e),fun a o e=>?_,fun a x hm=>?_,S.nod,ho.trans S.os,hg▸S.gens⟩
 ·by_cases q:a=s.heap.objs.size
  ·subst q;rw [PSet.self] at e;cases e;exact ha
  ·rw [PSet.ne _ _ q] at e;exact hold a o (S.fz a o e)
 ·have q:a≠s.heap.objs.size:=fun q=>by rw [q,nZ] at e;cases e
  rw [PSet.ne _ _ q];exact S.dis a o e
 ·obtain ⟨h1,h2,ob',h3,h4⟩:=S.own a x hm;have q:a≠s.heap.objs.size:=Nat.ne_of_lt (Heap.lt_size h3);exact ⟨by rw [PSet.ne _ _ q];exact h1,h2,ob',hold a _ h3,h4.mono le⟩
noncomputable def StrSorted (L:List Str):Prop:=L.Pairwise fun a b=>¬ b.cps.toList<a.cps.toList
theorem Vals.strsAre {L:List Str}(h:Vals P F (L.map V.str) vs):PyProof.Rows.StrsAre vs L:=by
 induction L generalizing vs with
 | nil=>refine Vals.i_nil h ?_;exact .nil
 | cons x r ih=>refine Vals.i_cons h fun w ws h1 h2=>?_;refine Val.i_str h1 fun t=>?_;exact .cons _ _ (ih h2)
theorem strsAre_vals {L:List Str}(h:PyProof.Rows.StrsAre vs L):Vals P F (L.map V.str) vs:=by
 induction h with
 | nil=>exact .nil
 | cons x t _ ih=>exact .cons (.str _ _) ih
theorem rising_pw:∀ (l:List Str) (p:Str),PyProof.Rows.risingS p l=true->(p::l).Pairwise fun a b=>¬ b.cps.toList<a.cps.toList
 | [],p,_=>List.pairwise_singleton _ _
 | x::r,p,h=>by
  have h':(!Spec.ltCps x.cps.toList p.cps.toList&&PyProof.Rows.risingS x r)=true:=h;rw [Bool.and_eq_true,Bool.not_eq_true',PyProof.Rows.ltCps_eq] at h';have ih:=rising_pw r x h'.2;have h1:¬ x.cps.toList<p.cps.toList:=of_decide_eq_false h'.1;refine List.pairwise_cons.mpr ⟨fun y hy=>?_,ih⟩
  rcases List.mem_cons.mp hy with q | q
  ·rw [q];exact h1
  ·have h2:¬ y.cps.toList<x.cps.toList:=List.rel_of_pairwise_cons ih q;intro h3
   rcases PyProof.Rows.strKind.negTrans y.cps.toList x.cps.toList p.cps.toList (decide_eq_true h3) with h4 | h4
   ·exact h2 (of_decide_eq_true h4)
   ·exact h1 (of_decide_eq_true h4)
theorem sorted_pw {l:List Str}(h:PyProof.Rows.sortedS l=true):StrSorted l:=by
 cases l with
 | nil=>exact List.Pairwise.nil
 | cons x r=>exact rising_pw r x h
theorem Vals.length {L:List V}(h:Vals P F L vs):vs.length=L.length:=h.toList
section
end
end
section
open PySem PySem.Calls
open PySem.W (KasT kas_rev kas_asc kas_desc kas_tail3 kas_descPart kas_count kas_place kas_bin kas_sort kas_ask)
noncomputable def KGood {α:Type}(n:Nat)(P:α->Prop):KasT α->Prop
 | .ret a=>P a
 | .ask i j k=>i<n∧j<n∧∀ b,KGood n P (k b)
theorem KGood.bind {α β:Type}{P:α->Prop}{Q:β->Prop}{f:α->KasT β}:∀ {t:KasT α},KGood n P t->(∀ a,P a->KGood n Q (f a))->KGood n Q (t.bind f)
 | .ret a,h,hf=>hf a h
 | .ask _ _ k,h,hf=>⟨h.1,h.2.1,fun b=>KGood.bind (h.2.2 b) hf⟩
noncomputable def PermN (n:Nat)(p:Array Nat):Prop:=p.Perm (List.toArray (List.range n))
theorem PermN.get {p:Array Nat}(hn:0<n)(h:PermN n p)(i:Nat):p.getD i 0<n:=by
 by_cases hi:i<p.size
 ·have hm:p[i]∈p:=Array.getElem_mem hi;have:p[i]∈(List.toArray (List.range n)):=h.mem_iff.mp hm;simp only [List.mem_toArray,List.mem_range] at this
  simpa [Array.getD,hi] using this
 ·simpa [Array.getD,hi] using hn
theorem PermN.rev {p:Array Nat}(h:PermN n p)(i j:Nat):PermN n (kas_rev p i j):=(PyProof.Rows.mirror_perm _ _ _ _).trans h
theorem PermN.bub {p:Array Nat}(h:PermN n p)(i j:Nat):PermN n (PyProof.Rows.bubble p i j):=(PyProof.Rows.bubble_perm _ _ _).trans h
theorem g_asc {p:Array Nat}(hn:0<n)(h:PermN n p):∀ f m,KGood n (fun _:Nat=>True) (kas_asc p f m)
 | 0,_=>trivial
 | f+1,m=>⟨h.get hn _,h.get hn _,fun b=>by cases b;exact g_asc hn h f (m+1);exact trivial⟩
theorem g_desc (hn:0<n):∀ f (p:Array Nat) m q,PermN n p->KGood n (fun r:Array Nat×Nat×Nat=>PermN n r.1) (kas_desc f p m q)
 | 0,_,_,_,h=>h
 | f+1,p,m,q,h=>⟨h.get hn _,h.get hn _,fun b=>by
  cases b
  ·exact ⟨h.get hn _,h.get hn _,fun d=>by cases d;exact g_desc hn f p (m+1) (q+1) h;exact h⟩
  ·show KGood n _ (if q > 0 then _ else _);split
   ·exact g_desc hn f _ _ _ (h.rev _ _)
   ·exact g_desc hn f p _ _ h⟩
theorem g_tail3 {p:Array Nat}(hn:0<n)(h:PermN n p)(m r:Nat):KGood n (fun x:Nat×Array Nat=>PermN n x.2) (kas_tail3 m r p):=(g_asc hn (h.rev _ _) _ _).bind fun _ _=>h.rev _ _
theorem g_descPart {p:Array Nat}(hn:0<n)(h:PermN n p)(m r:Nat):KGood n (fun x:Nat×Array Nat=>PermN n x.2) (kas_descPart m r p) :=
 (g_desc hn _ _ _ _ h).bind fun x hx=>by
  split
  ·exact g_tail3 hn (hx.rev _ _) _ _
  ·exact g_tail3 hn hx _ _
theorem g_count {p:Array Nat}(hn:0<n)(h:PermN n p)(r:Nat):KGood n (fun x:Nat×Array Nat=>PermN n x.2) (kas_count r p) :=
 (g_asc hn h _ _).bind fun m _=>by
  split
  ·exact h
  ·split
   ·exact ⟨h.get hn _,h.get hn _,fun b=>by cases b;exact g_descPart hn (h.rev _ _) _ _;exact h⟩
   ·exact g_descPart hn h _ _
theorem g_place {p:Array Nat}(hn:0<n)(h:PermN n p)(k:Nat):∀ f l r,KGood n (fun _:Nat=>True) (kas_place p k f l r)
 | 0,_,_=>trivial
 | f+1,l,r=>by
  unfold kas_place;split
  ·exact trivial
  ·exact ⟨h.get hn _,h.get hn _,fun b=>by cases b;exact g_place hn h k f _ _;exact g_place hn h k f _ _⟩
theorem g_bin (hn:0<n):∀ f (p:Array Nat) k,PermN n p->KGood n (PermN n) (kas_bin f p k)
 | 0,_,_,h=>h
 | f+1,p,k,h=>(g_place hn h k k 0 k).bind fun l _=>g_bin hn f _ _ (h.bub _ _)
theorem g_sort (hn:0<n):KGood n (PermN n) (kas_sort n) :=
 (g_count hn (Array.Perm.refl _) n).bind fun r hr=>by
  split
  ·exact g_bin hn _ _ _ hr
  ·exact hr
end
section
open PySem PySem.Calls
section
theorem seqK_next {rest:List Stmt}(h:cS C d sc ε μ rest kf):seqK C d sc rest kf .next ε μ:=h
theorem seqK_ret {rest:List Stmt}{w:W}(h:kf (.ret w) ε μ):seqK C d sc rest kf (.ret w) ε μ:=h
theorem seqK_cont {rest:List Stmt}(h:kf .cont ε μ):seqK C d sc rest kf .cont ε μ:=h
noncomputable def retK (k:PostW):PostF:=fun fl _ μ'=>match fl with | .ret w=>k w μ' | _=>k (.v .none) μ'
theorem retK_ret {w:W}(h:k w μ):retK k (.ret w) ε μ:=h
theorem retK_next (h:k (.v .none) μ):retK k .next ε μ:=h
theorem fn_glob {fv:Value}{K:Value->Prop}(hk:KeepOk C fv)(h:K fv):∃ fv',W.v (.glob fv)=.v (.glob fv')∧KeepOk C fv'∧K fv':=⟨fv,rfl,hk,h⟩
end
theorem cCall_enter {f:Addr}{name qual:Str}{params:Arguments}{body:List Stmt}{scope:Scope}{dV kV doc pm cdv ct oc:Value}{an od:Option Addr}{osl:Array (Option Value)}(bs:List (Str×W))(ho:C.K.lookup f=some ⟨oc,od,.func (PySem.W.fnOf name qual params body scope dV kV doc pm an cdv ct),osl⟩)(hcd:codeT C.K cdv qual=true)(hbind:∀ F s vs kvs,C.K.In s.heap->WsAt C.P F xs vs->KwAt C.P F kws kvs->∃ binds,BindsTo s (PySem.W.fnOf name qual params body scope dV kV doc pm an cdv ct) ⟨vs,kvs⟩ binds∧BindAt C.P F bs binds)(hkind:((bs.map (·.1)).all fun y=>scope.names.lookup y == some .local||scope.names.lookup y == some .cell)=true)(hn:decide (bs.map (·.1)).Nodup=true)(hfree:∀ y∈scope.names,y.2≠.free)(hco:scope.isCoroutine=false)(hgen:scope.isGenerator=false)(hk:scope.kind=.function)(h:cS C d scope bs μ body (retK k)) :
  cCall C (d+1) μ (.ref f) xs kws k:=by
 refine cCall_def ho hcd hbind ?_ (of_decide_eq_true hn) hfree hco hgen hk h;rw [List.all_map] at hkind;exact hkind
theorem bind_1 {fd:FuncData}{n:Str}{x:W}{kvs:List (Str×Value)}(he:∀ u,bindArgs fd ⟨[u],[]⟩=pure [(n,u)])(hv:WsAt P F [x] vs)(hkv:KwAt P F [] kvs) :
  ∃ binds,BindsTo s fd ⟨vs,kvs⟩ binds∧BindAt P F [(n,x)] binds :=
 hkv.i_nil (hv.i1 fun u h=>⟨_,BindsTo.of_eq (he u),.cons h .nil⟩)
theorem bind_2 {fd:FuncData}{n n':Str}{x x':W}{kvs:List (Str×Value)}(he:∀ u v,bindArgs fd ⟨[u,v],[]⟩=pure [(n,u),(n',v)])(hv:WsAt P F [x,x'] vs)(hkv:KwAt P F [] kvs) :
  ∃ binds,BindsTo s fd ⟨vs,kvs⟩ binds∧BindAt P F [(n,x),(n',x')] binds :=
 hkv.i_nil (hv.i2 fun u v h h'=>⟨_,BindsTo.of_eq (he u v),.cons h (.cons h' .nil)⟩)
end
section
open PySem PySem.Calls
noncomputable def rngV (a b:Int):List V:=(List.range (b-a).toNat).map fun (i:Nat)=>.int (a+(i:Int))
theorem rngV_get {a b:Int}{x:V}(h:(rngV a b)[i]? = some x):i<(b-a).toNat∧x=.int (a+i):=by
 simp only [rngV,List.getElem?_map] at h;by_cases q:i<(b-a).toNat
 ·rw [List.getElem?_range q] at h
  cases h
  exact ⟨q,rfl⟩
 ·rw [List.getElem?_eq_none (by simpa using q)] at h
  cases h
theorem rngV_none {a b:Int}(h:(rngV a b)[i]? = none):(b-a).toNat≤i:=by
 simpa [rngV] using h
section
theorem rng_1 {n:Int}(h:k (.v (.rng 0 n)) μ):cCall C d μ (.type "range") [.v (.int n)] [] k:=fun A F Z s us kvs hA S hv hkv=>by
 refine KwAt.i_nil hkv ?_;refine WsAt.i1 hv fun u hu=>?_;refine Val.i_int hu fun _=>?_;refine call_range_1 ?_;obtain ⟨F',le,hF,S'⟩:=(S.tok (s.toks+1+1)).pushF (o:={ cls:=.type "range",data:=.fields #[.int 0 s.toks,.int n _,.int 1 (s.toks+1)] }) rfl;exact ⟨.v (.rng 0 n),F',μ,h,le,S',.rng hF⟩
theorem rng_2 {a b:Int}(h:k (.v (.rng a b)) μ):cCall C d μ (.type "range") [.v (.int a),.v (.int b)] [] k:=fun A F Z s us kvs hA S hv hkv=>by
 refine KwAt.i_nil hkv ?_
 (refine el23 (hv.inv2) fun u v qq2 hu hv'=>?_;subst qq2)
 refine Val.i_int hu fun _=>?_;refine Val.i_int hv' fun _=>?_;refine call_range_2 ?_;obtain ⟨F',le,hF,S'⟩:=(S.tok (s.toks+1)).pushF (o:={ cls:=.type "range",data:=.fields #[.int a _,.int b _,.int 1 s.toks] }) rfl;exact ⟨.v (.rng a b),F',μ,h,le,S',.rng hF⟩
theorem it_rng {a b:Int}(ha:-100000<a)(ha':a<100000)(hb:-100000<b)(hb':b<100000):cIter C d μ (.v (.rng a b)) (· = rngV a b):=fun A F Z s v hA S hv=>by
 refine Val.i_rng hv fun r t u x h1=>?_;have hne:r≠s.heap.objs.size:=Nat.ne_of_lt (Heap.lt_size (S.fz _ _ h1))
 refine wpAny_pyIter_range (S.fz _ _ h1) (small_one (by lia) (by lia) (by lia) (by lia)) ⟨s.heap.objs.size,rngV a b,
  fun i o=>o={ cls:=.type "range_iterator",data:=.fields #[rawInt (a+i),rawInt (Builtin.Range.rangeSize a b 1-i),rawInt 1] },F,_,rfl,rfl,.refl _,S.pushZ rfl,(fresh_none S).2.1,by simp,?_⟩
 have hsz:=rangeSize_one a b;refine ⟨fun i o h=>⟨_,_,congrArg Obj.cls h,congrArg Obj.data h,by decide⟩,fun i x A s' Q E o hh hF ho hJ hx hQ=>?_,fun i A s' Q E o hh hF ho hJ hx hQ=>?_,fun i A s' Q E o ho hJ h=>wpAny_pyIter_rangeiter (hJ▸ho) h⟩
 ·obtain ⟨q,rfl⟩:=rngV_get hx;have hq:=Int.lt_toNat.mp q;refine wpAny_pyNext_range_item (hJ▸ho) (by rw [hsz,if_pos (Int.lt_of_sub_pos (Int.lt_of_le_of_lt (Int.natCast_nonneg i) hq))];exact Int.sub_pos_of_lt hq) fun h' hit hs=>?_;refine hQ _ h' _ _ (.int _ _) hs hit ?_;rw [show a+(i:Int)+1=a+((i+1:Nat):Int) by lia,show Builtin.Range.rangeSize a b 1-(i:Int)-1=Builtin.Range.rangeSize a b 1-((i+1:Nat):Int) by lia]
 ·have q:=rngV_none hx;exact wpAny_pyNext_range_end hh (hJ▸ho) (by rw [hsz];split<;>lia) fun h' hs=>hQ h' s'.toks hs
end
end
section
open PySem PySem.Calls
section
theorem cIfs.mono {kb':Bool->Mem->Prop}(h:cIfs C d sc ε μ ifs kb)(hk:∀ b m,kb b m->kb' b m):cIfs C d sc ε μ ifs kb':=fun A env F Z s hA hs R S =>
 wpAny_mono (h A env F Z s hA hs R S) (fun b s' ⟨F',μ',a,x,y⟩=>⟨F',μ',hk _ _ a,x,y⟩) fun _ _ e=>e
theorem cE_listV (hk:sc₀.kind=.function)(hn:decide (sc₀.names.map (·.1)).Nodup=true)(hfree:(sc₀.names.all fun x=>x.2 != .free||(sc.names.lookup x.1 == some .cell||sc.names.lookup x.1 == some .free))=true)(hs:∀ env x,foldedSetIterable iter env x=pure x)(h:cE C d sc ε μ iter fun w μ₁=>∃ P,cIter C d μ₁ w P∧∀ items,P items->∃ (p:V->Bool) (g:V->V),items.length<100000 ∧
   (∀ x∈items,∃ bs,cTgt C sc₀ target (.v x) bs∧∀ acc L,cIfs C d (relS sc₀ sc) (bs++dropN sc₀ ε) ((acc,L)::μ₁) ifs fun b m=>b=p x∧m=(acc,L)::μ₁ ∧
    (b=true->cE C d (relS sc₀ sc) (bs++dropN sc₀ ε) ((acc,L)::μ₁) elt fun w m=>w=.v (g x)∧m=(acc,L)::μ₁))∧k (.v (.list ((items.filter p).map g))) μ₁) :
  cE C d sc ε μ (.ListComp elt [⟨target,iter,ifs,0⟩] sc₀ pos) k:=by
 refine cE.fzR (cE_comp (compL_ok hk (of_decide_eq_true hn) hfree hs) (fun env=>rfl) ?_);refine cE.mono h fun w μ₁ ⟨P,hi,hP⟩=>⟨P,hi,fun items hpi=>?_⟩;refine el23 (hP items hpi) fun p g hsz turn hk'=>?_;refine fun acc=>⟨fun i m=>m=(acc,.list ((((items.take i).filter p).map g).map .v))::μ₁,by simp,fun i x μ' hx hm=>?_,fun μ' hm=>?_⟩
 ·subst hm;have hlt:i<items.length:=(List.getElem?_eq_some_iff.mp hx).1
  have htk:items.take (i+1)=items.take i++[x]:=by rw [List.take_add_one,hx];rfl
  refine el12 (turn x (List.mem_of_getElem? hx)) fun bs ht hif=>?_;refine ⟨bs,ht,cIfs.mono (hif acc _) fun b m ⟨hb,hm,he⟩=>?_⟩;subst hm;refine ⟨fun q=>u_list (cE.mono (he q) fun w m ⟨hw,hm⟩=>?_),fun q=>?_⟩
  ·subst hw;subst hm;refine v_append .here ?_ ?_
   ·simp only [List.length_map];have:=List.length_filter_le p (items.take i);have:=List.length_take_le i items;lia
   ·show _=_;rw [htk,List.filter_append];simp [hb▸q]
  ·show _=_;rw [htk,List.filter_append];simp [show p x=false from hb▸q]
 ·subst hm;rw [List.take_length];refine ⟨_,.v (.list ((items.filter p).map g)),μ₁,fz_obj (.head _) (.list (frozen_map _)) .here (FrzT.refl _),.put,hk'⟩
end
end
section
open PySem PySem.Calls
section
end
end
section
open PySem PySem.Calls
section
end
section
end
section
end
end
section
open PySem PySem.Calls
section
theorem cE_dictV (hk:sc₀.kind=.function)(hn:decide (sc₀.names.map (·.1)).Nodup=true)(hfree:(sc₀.names.all fun x=>x.2 != .free||(sc.names.lookup x.1 == some .cell||sc.names.lookup x.1 == some .free))=true)(hs:∀ env x,foldedSetIterable iter env x=pure x)(h:cE C d sc ε μ iter fun w μ₁=>∃ P,cIter C d μ₁ w P∧∀ items,P items->∃ (L:List Key) (g:Key->V) (κ:Nat),items=L.map Key.val∧L.Nodup∧(∀ x∈L,x.kind=κ)∧κ≠2∧L.length<1000 ∧
   (∀ key∈L,∃ bs,cTgt C sc₀ target (.v key.val) bs∧∀ acc D,cE C d (relS sc₀ sc) (bs++dropN sc₀ ε) ((acc,D)::μ₁) kx fun w m=>w=.v key.val ∧
    cE C d (relS sc₀ sc) (bs++dropN sc₀ ε) m vx fun w m=>w=.v (g key)∧m=(acc,D)::μ₁)∧k (.v (.dict (L.map fun key=>(key,g key)))) μ₁) :
  cE C d sc ε μ (.DictComp kx vx [⟨target,iter,[],0⟩] sc₀ pos) k:=by
 refine cE.fzR (cE_comp (compD_ok hk (of_decide_eq_true hn) hfree hs) (fun env=>rfl) ?_);refine cE.mono h fun w μ₁ ⟨P,hi,hP⟩=>⟨P,hi,fun items hpi=>?_⟩
 (refine el37 (hP items hpi) fun L g κ qq3 hnd hkd hκ hsz turn hk'=>?_;subst qq3)
 refine fun acc=>⟨fun i m=>m=(acc,.dict ((L.take i).map fun key=>(key,.v (g key))))::μ₁,by simp,fun i x μ' hx hm=>?_,fun μ' hm=>?_⟩
 ·subst hm;rw [List.getElem?_map] at hx
  (refine el12 (Option.map_eq_some_iff.mp hx) fun key hkey qq2=>?_;subst qq2)
  have hlt:i<L.length:=(List.getElem?_eq_some_iff.mp hkey).1
  have htk:L.take (i+1)=L.take i++[key]:=by rw [List.take_add_one,hkey];rfl
  refine el12 (turn key (List.mem_of_getElem? hkey)) fun bs ht hif=>?_;refine ⟨bs,ht,ifs_nil ⟨fun _=>u_dict (cE.mono (hif acc _) fun w m ⟨hw,hv⟩=>?_),fun q=>by cases q⟩⟩;subst hw;refine cE.mono hv fun w m hq=>?_;obtain ⟨hw,hm⟩:=hq;subst hw;subst hm
  have hout:key∉((L.take i).map fun key=>(key,W.v (g key))).map (·.1):=by
   rw [List.map_map,show ((fun x:Key×W=>x.1)∘fun key=>(key,W.v (g key)))=id from rfl,List.map_id];intro h2;have h3:=hnd;rw [<-List.take_append_drop i L] at h3
   have h4:key∈L.drop i:=by
    rw [List.drop_eq_getElem_cons hlt];have:=(List.getElem?_eq_some_iff.mp hkey).2;rw [this];exact .head _
   exact (List.nodup_append.mp h3).2.2 key h2 key h4 rfl
  refine ds_dict .here ?_ ?_ ?_ ?_
  ·intro p hp
   (refine el12 (List.mem_map.mp hp) fun y hy qq2=>?_;subst qq2)
   rw [hkd y (List.mem_of_mem_take hy),hkd key (List.mem_of_getElem? hkey)]
  ·rw [hkd key (List.mem_of_getElem? hkey)];exact hκ
  ·simp only [List.length_map];have:=List.length_take_le i L;lia
  ·show _=_;rw [kput_new hout,htk,List.map_append];rfl
 ·subst hm;rw [List.length_map,List.take_length];refine ⟨_,.v (.dict (L.map fun key=>(key,g key))),μ₁,fz_obj (.head _) (.dict ?_) .here (FrzT.refl _),.put,hk'⟩;have:=frozenD_map (L.map fun key=>(key,g key));rw [List.map_map] at this;exact this
end
end
section
open PySem PySem.Calls
theorem perm_of_mem {α:Type}[DecidableEq α]{l₁ l₂:List α}(h₁:l₁.Nodup)(h₂:l₂.Nodup)(h:∀ x,x∈l₁↔x∈l₂):l₁.Perm l₂:=by
 rw [List.perm_iff_count];intro a;rw [h₁.count,h₂.count];simp only [h a]
theorem map_nodup {α β:Type}{g:α->β}{l:List α}(hi:∀ x∈l,∀ y∈l,g x=g y->x=y)(h:l.Nodup):(l.map g).Nodup:=by
 rw [List.Nodup,List.pairwise_map];exact List.Pairwise.imp_of_mem (fun {a b} ha hb hne q=>hne (hi a ha b hb q)) h
structure SetIs (K:Nat->Key)(ks:List Key)(f:Nat->Bool):Prop where
 nd:ks.Nodup
 mem:∀ key,key∈ks↔∃ j,j<4∧f j=true∧key=K j
structure Naming (K:Nat->Key):Prop where
 inj:∀ i j,i<4->j<4->K i=K j->i=j
 kind:∃ κ,κ≠2∧∀ i,(K i).kind=κ
noncomputable def sOf:Key->Str
 | .s x=>x
 | _=>⟨#[]⟩
theorem str_antisymm {a b:Str}(h₁:¬ b.cps.toList<a.cps.toList)(h₂:¬ a.cps.toList<b.cps.toList):a=b:=by
 have:a.cps.toList=b.cps.toList:=List.le_antisymm h₁ h₂
 cases a;cases b
 congr 1
 exact Array.toList_inj.mp this
section
variable {K:Nat->Key}{dom:List Nat}{ks:Nat->List Key}
end
end
section
open PySem PySem.Calls
noncomputable def looks (ε' ε:Env1):List Str->Prop
 | []=>True
 | n::r=>ε.lookup n=ε'.lookup n∧looks ε' ε r
theorem looks_mem:∀ {l:List Str},looks ε' ε l->∀ n∈l,ε.lookup n=ε'.lookup n
 | [],_,_,h=>by cases h
 | a::r,h,n,hn=>by
  rcases List.mem_cons.mp hn with rfl | hn
  ·exact h.1
  ·exact looks_mem h.2 n hn
theorem lookup_none_of (h:x∉ε.map (·.1)):ε.lookup x=none:=by
 induction ε with
 | nil=>rfl
 | cons p r ih =>
  obtain ⟨n,w⟩:=p;simp only [List.map_cons,List.mem_cons,not_or] at h;rw [lookup_cons_ne h.1];exact ih h.2
theorem look_sub (h:looks ε' ε (ε'.map (·.1))):∀ x w,ε'.lookup x=some w->ε.lookup x=some w:=fun x w e=>by
 by_cases q:x∈ε'.map (·.1)
 ·rw [looks_mem h x q];exact e
 ·rw [lookup_none_of q] at e;cases e
inductive Reach (dom:List Nat) (f:Nat->Nat->Bool) (i:Nat):Nat->Prop
 | refl:Reach dom f i i
 | step {j k:Nat}:Reach dom f i j->j∈dom->k<4->f j k=true->Reach dom f i k
noncomputable def tN:Str := "N"
section
theorem both_t {p q:Prop}(h:p):(true=true->p)∧(true=false->q):=⟨fun _=>h,fun e=>nomatch e⟩
theorem both_f {p q:Prop}(h:q):(false=true->p)∧(false=false->q):=⟨(fun e=>nomatch e),fun _=>h⟩
noncomputable def envOf (sc:Scope):Env:={ scope:=sc,locals:=0,globals:=0,cells:=[] }
theorem sw_at {t:Option Expr}{l:Nat}{b:Bool}(h:swapsWith e t l (envOf sc)=pure b)(env:Env)(he:env.scope=sc):swapsWith e t l env=pure b:=by
 subst he;exact h
theorem forK_next {Inv J:Nat->Env1->Mem->Prop}(hJ:∀ {i ε μ},Inv i ε μ->J i ε μ)(hk:looks ε' ε (ε'.map (·.1)))(hm:μ'.Sublist μ)(h:Inv (i+1) ε' μ'):forK J i kf .next ε μ:=⟨ε',μ',⟨look_sub hk,hm⟩,hJ h⟩
theorem forK_cont {Inv J:Nat->Env1->Mem->Prop}(hJ:∀ {i ε μ},Inv i ε μ->J i ε μ)(hk:looks ε' ε (ε'.map (·.1)))(hm:μ'.Sublist μ)(h:Inv (i+1) ε' μ'):forK J i kf .cont ε μ:=⟨ε',μ',⟨look_sub hk,hm⟩,hJ h⟩
theorem cFor_mk {t:Expr}{body:List Stmt}{items:List V}(Inv:Nat->Env1->Mem->Prop)(h0:Inv 0 ε μ)(turn:∀ J:Nat->Env1->Mem->Prop,(∀ {i ε μ},Inv i ε μ->J i ε μ)->∀ i x ε' μ',items[i]? = some x->Inv i ε' μ'->cAsg C d sc ε' μ' t (.v x) fun ε₁ μ₁=>cS C d sc ε₁ μ₁ body (forK J i kf))(fin:∀ ε' μ',Inv items.length ε' μ'->kf .next ε' μ'):cFor C d sc ε μ t body items kf:=⟨Inv,h0,turn Inv id,fin⟩
theorem cS1_whileJ {test:Expr}{body:List Stmt}(Inv:Nat->Env1->Mem->Prop)(n₀:Nat)(h0:Inv n₀ ε μ)(turn:∀ J:Nat->Env1->Mem->Prop,(∀ {i ε μ},Inv i ε μ->J i ε μ)->∀ n ε' μ',Inv n ε' μ'->cT C d sc ε' μ' test fun b μ₂=>(b=true->cS C d sc ε' μ₂ body (whK J n kf))∧(b=false->kf .next ε' μ₂)):cS1 C d sc ε μ (.While test body [] pos) kf:=cS1_while Inv n₀ h0 (turn Inv id)
theorem cS1.joinE {α:Type}{st:Stmt}(E:α->Env1)(M:α->Mem)(S:α->Prop)(h:∀ K:PostF,(∀ a,S a->K .next (E a) (M a))->cS1 C d sc ε μ st K)(hk:∀ a,S a->kf' .next (E a) (M a)):cS1 C d sc ε μ st kf' :=
 (h (fun fl e m=>∃ a,fl=.next∧e=E a∧m=M a∧S a) fun a hS=>⟨a,rfl,rfl,rfl,hS⟩).mono fun fl e m q=>q.elim fun a q=>by rw [q.1,q.2.1,q.2.2.1];exact hk a q.2.2.2
theorem cS1.joinX {α:Type}{st:Stmt}(E:α->Env1)(M:α->Mem)(S:α->Prop)(h:∀ K:PostF,(∀ {e} a,(∀ x w,(E a).lookup x=some w->e.lookup x=some w)->S a->K .next e (M a))->cS1 C d sc ε μ st K)(hk:∀ e a,(∀ x w,(E a).lookup x=some w->e.lookup x=some w)->S a->kf' .next e (M a)):cS1 C d sc ε μ st kf' :=
 (h (fun fl e m=>∃ a,fl=.next∧(∀ x w,(E a).lookup x=some w->e.lookup x=some w)∧m=M a∧S a) fun a hl hS=>⟨a,rfl,hl,rfl,hS⟩).mono fun fl e m q=>q.elim fun a q=>by rw [q.1,q.2.2.1];exact hk e a q.2.1 q.2.2.2
theorem whK_next {Inv J:Nat->Env1->Mem->Prop}(hJ:∀ {i ε μ},Inv i ε μ->J i ε μ)(hmn:m<n)(hk:looks ε' ε (ε'.map (·.1)))(hm:μ'.Sublist μ)(h:Inv m ε' μ'):whK J n kf .next ε μ:=⟨m,ε',μ',hmn,⟨look_sub hk,hm⟩,hJ h⟩
theorem keep_and {fv:Value}{P:Prop}(hk:KeepOk C fv)(h:P):KeepOk C fv∧P:=⟨hk,h⟩
theorem UpdAt.named {x y:O}(h:UpdAt a x y μ μ₁):a∈μ.map (·.1):=List.mem_map_of_mem (f:=(·.1)) h.mem
theorem UpdAt.uniq {x y:O}(h₁:UpdAt a x y μ μ₁)(h₂:UpdAt a x y μ μ₂)(hn:(μ.map (·.1)).Nodup):μ₁=μ₂:=by
 induction h₁ generalizing μ₂ with
 | here =>
  cases h₂ with
  | here=>rfl
  | there q=>exact absurd q.named (List.nodup_cons.mp hn).1
 | there q ih =>
  cases h₂ with
  | here=>exact absurd q.named (List.nodup_cons.mp hn).1
  | there q'=>rw [ih q' (List.nodup_cons.mp hn).2]
theorem c_setaddU {key:Key}(hm:(a,O.set ks)∈μ)(hkd:∀ k'∈ks,k'.kind=key.kind)(hp:key.kind≠2)(hz:ks.length+1<400)(hin:key∈ks->k (.v .none) μ)(hout:key∉ks->∀ ks',ks'.Perm (key::ks)->∃ μ',UpdAt a (.set ks) (.set ks') μ μ'∧k (.v .none) μ'):cCall C d μ (.builtin "set.add") [.l a,.v key.val] [] k:=fun A F Z s vs kvs hA S hv hkv =>
 c_setadd (k:=k) hm hkd hp hz hin (fun hn ks' μ' hp' hU=>by
  refine el12 (hout hn ks' hp') fun μ'' hU' hk=>?_
  rw [hU.uniq hU' S.nod.1];exact hk) A F Z s vs kvs hA S hv hkv
end
end
section
open PySem PySem.Calls
section
theorem isi_str (e:PySem.W.isNotIn C.K "str" c=true)(h:k (.v (.bool false)) μ):cCall C d μ (.builtin "isinstance") [.v (.str x),.v (.glob (.ref c))] [] k:=fun A F Z s vs kvs hA S hv hkv=>by
 refine KwAt.i_nil hkv ?_
 (refine el23 (hv.inv2) fun u v qq2 hu hv'=>?_;subst qq2)
 refine Val.i_str hu fun _=>?_
 cases hv'
 exact PySem.W.isn_call (P:=fun _=>True) S.kin (fun M=>.of_pure rfl) e (by nofun) trivial PySem.W.str_cls ⟨.v (.bool false),F,μ,h,.refl _,S.tok _,.bool _⟩
theorem isi_inst {fs:List (Str×V)}(e:PySem.W.isIn C.K (.ref c) c=true)(h:k (.v (.bool true)) μ):cCall C d μ (.builtin "isinstance") [.v (.inst c fs),.v (.glob (.ref c))] [] k:=fun A F Z s vs kvs hA S hv hkv=>by
 refine KwAt.i_nil hkv ?_
 (refine el23 (hv.inv2) fun u v qq2 hu hv'=>?_;subst qq2)
 cases hv'
 refine Val.i_inst hu fun _ _ _ _ _ h1 h2 h3 h4 h5=>?_;exact PySem.W.isi_call S.kin (fun M=>(S.inst h1 h2).type) e (by nofun) ⟨.v (.bool true),F,μ,h,.refl _,S,.bool _⟩
theorem isi_liststr {vs:List V}(h:k (.v (.bool false)) μ):cCall C d μ (.builtin "isinstance") [.v (.list vs),.v (.glob (.type "str"))] [] k:=fun A F Z s us kvs hA S hv hkv=>by
 refine KwAt.i_nil hkv ?_
 (refine el23 (hv.inv2) fun u v qq2 hu hv'=>?_;subst qq2)
 cases hv'
 refine Val.i_list hu fun _ _ _ h1 h2=>?_;exact call_isinstance (isinstance_false_list (by decide) (by kernel_rfl) (by rw [isSubtype_type];kernel_rfl)) ⟨⟨_,S.fz _ _ h1,rfl⟩,.v (.bool false),F,μ,h,.refl _,S.tok _,.bool _⟩
theorem isi_tupstr {vs:List V}(h:k (.v (.bool false)) μ):cCall C d μ (.builtin "isinstance") [.v (.tup vs),.v (.glob (.type "str"))] [] k:=fun A F Z s us kvs hA S hv hkv=>by
 refine KwAt.i_nil hkv ?_
 (refine el23 (hv.inv2) fun u v qq2 hu hv'=>?_;subst qq2)
 cases hv'
 refine Val.i_tup hu fun _ _ _ h1 h2=>?_;exact call_isinstance (isinstance_false_tuple (by decide) (by kernel_rfl) (by rw [isSubtype_type];kernel_rfl)) ⟨⟨_,S.fz _ _ h1,rfl⟩,.v (.bool false),F,μ,h,.refl _,S.tok _,.bool _⟩
end
end
section
open PySem PySem.Calls
section
noncomputable def cCode (C:Cx)(d:Nat)(μ:Mem)(fv:Value)(xs:List W)(kws:List (Str×W))(k:PostW):Prop :=
 ∀ (A:Around) (F Z:PMap) (s:Shared) (vs:List Value) (kvs:List (Str×Value)),Rm A d->Sim C F Z μ s->WsAt C.P F xs vs->KwAt C.P F kws kvs->
  codeAny C.M A (.call fv ⟨vs,kvs⟩) (fun r s'=>match r with | .ok (.ret v)=>Post C Z k F v s' | .ok _=>False | .error _=>False) s
theorem cCode_def {f:Addr}{name qual:Str}{params:Arguments}{body:List Stmt}{scope:Scope}{dV kV doc pm cdv ct oc:Value}{an od:Option Addr}{osl:Array (Option Value)}{bs:List (Str×W)}(ho:C.K.lookup f=some ⟨oc,od,.func (PySem.W.fnOf name qual params body scope dV kV doc pm an cdv ct),osl⟩)(hcd:codeT C.K cdv qual=true)(hbind:∀ F s vs kvs,C.K.In s.heap->WsAt C.P F xs vs->KwAt C.P F kws kvs->∃ binds,BindsTo s (PySem.W.fnOf name qual params body scope dV kV doc pm an cdv ct) ⟨vs,kvs⟩ binds∧BindAt C.P F bs binds)(hkind:(bs.all fun y=>scope.names.lookup y.1 == some .local||scope.names.lookup y.1 == some .cell)=true)(hn:(bs.map (·.1)).Nodup)(hfree:∀ y∈scope.names,y.2≠.free)(hco:scope.isCoroutine=false)(hgen:scope.isGenerator=false)(hk:scope.kind=.function)(h:cS C d scope bs μ body fun fl _ μ'=>match fl with | .ret w=>k w μ' | _=>k (.v .none) μ') :
  cCode C (d+1) μ (.ref f) xs kws k:=fun A F Z s vs kvs hA S hv hkv=>by
 refine el12 (hbind F s vs kvs S.kin hv hkv) fun binds hbt hba=>?_
 have hall:(binds.all fun y=>scope.names.lookup y.1 == some .local||scope.names.lookup y.1 == some .cell)=true:=by
  refine List.all_eq_true.mpr fun y hy=>?_;have:y.1∈bs.map (·.1):=hba.names▸List.mem_map_of_mem (f:=(·.1)) hy;refine el12 (List.mem_map.mp this) fun z hz e=>?_;have:=List.all_eq_true.mp hkind z hz;rw [e] at this;exact this
 refine codeAny_call_function (fd:=PySem.W.fnOf name qual params body scope dV kV doc pm an cdv ct) (body:=body) hA.lim (S.kin _ _ ho) rfl hco hgen rfl (PySem.W.codeRec_of S.kin (codeT_in hcd)) (hbt _ _ _ _ ?_);refine wpAny_newFunctionEnv_cells hk (PySem.W.kindsX hall _) fun env he s' x=>?_;have keep:=x.toInCall.keep;refine ⟨S.lim.keeps keep,codeAny_func ?_⟩
 have hs:env.scope=scope:=by subst he;rfl
 have SS:SimS C F Z μ s' env bs:=by
  refine SimS.enter S hba hn (by rw [hs];exact hk) (by subst he;rfl) ⟨by subst he;rfl,by subst he;exact CodeOk.of (q:=qual) hcd⟩ (by rw [hs];exact hfree) (by subst he;rfl) x
 have hA':Rm (A.deeper env) d:=hA.step hA.hd (Nat.le_succ _) (Nat.add_le_add_left (by decide) _);refine wpBot (h (A.deeper env) env F Z s' hA' hs SS) fun fl s₂ hq=>?_;obtain ⟨fl',ε',μ',F',hk',hfl,le,S'⟩:=hq;refine el13 S' fun S₀ S' _ _=>?_
 cases fl' with
 | ret w=>(refine el12 hfl fun v qq1 hw=>?_;try clear hfl;subst qq1);exact ⟨w,F',μ',hk',le,S'.dropZ,hw⟩
 | next=>cases hfl;exact ⟨_,F',μ',hk',le,S'.dropZ,.none⟩
 | brk=>cases hfl;exact ⟨_,F',μ',hk',le,S'.dropZ,.none⟩
 | cont=>cases hfl;exact ⟨_,F',μ',hk',le,S'.dropZ,.none⟩
theorem Rm.under {kvs:List (Str×Value)}(h:Rm A (d+1)):Rm (A.under (.builtin "type.__call__" ⟨.ref c::vs,kvs⟩)) d :=
 h.step h.hd (Nat.le_succ _) (Nat.add_le_add_left (by first | exact Nat.le_trans (Nat.le_of_eq (rfl:_=1)) (by decide) | exact Nat.le_trans (Nat.le_of_eq (rfl:_=2)) (by decide) | exact Nat.le_trans (Nat.le_of_eq (rfl:_=3)) (by decide)) _)
theorem c_make {fI:Addr}(ok:ClsOk C c)(hi:PySem.W.findIn C.K (.ref c) "__init__" = some (some (.ref fI)))(hf:PySem.W.typeIn C.K (.ref fI)=some (.type "function"))(h:∀ a dd,cCode C d ((a,.inst c dd)::(dd,.ns [])::μ) (.ref fI) (.l a::xs) kws fun w μ'=>w=.v .none∧k (.l a) μ'):cCall C (d+1) μ (.ref c) xs kws k:=fun A F Z s vs kvs hA S hv hkv=>by
 refine wpAny_call ?_;obtain ⟨hh,g,dr,t,os⟩:=s;refine PySem.W.make_core (PySem.W.makes_of S.kin ok.mkk) (PySem.W.looks_findIn S.kin hi) (fun self=>PySem.W.bind_fn S.kin self hf) (.inl rfl) ?_;have hA':Rm (A.under (.builtin "type.__call__" ⟨.ref c::vs,kvs⟩)) d:=hA.under;have S1:=S.pushM (o:=PySem.W.emptyDict) (x:=.ns []) rfl ⟨#[],0,rfl,(fun e hi=>by simp at hi),by simp,fun x w q=>by cases q⟩;have S2:=S1.pushM (o:=PySem.W.instObj c hh.objs.size) (x:=.inst c hh.objs.size) rfl rfl;rw [Heap.size_push] at S2
 exact codeAny_mono (h _ _ _ F Z _ _ kvs hA' S2 (.cons rfl hv) hkv) fun r s' q=>by
  cases r with
  | error e=>exact q.elim
  | ok f =>
   cases f with
   | ret v =>
    obtain ⟨x,F',μ',⟨rfl,hk⟩,le,S',hx⟩:=q;refine Val.i_none hx ?_;exact ⟨rfl,_,F',μ',hk,le,S',rfl⟩
   | _=>exact q.elim
theorem cCode_enter {f:Addr}{name qual:Str}{params:Arguments}{body:List Stmt}{scope:Scope}{dV kV doc pm cdv ct oc:Value}{an od:Option Addr}{osl:Array (Option Value)}(bs:List (Str×W))(ho:C.K.lookup f=some ⟨oc,od,.func (PySem.W.fnOf name qual params body scope dV kV doc pm an cdv ct),osl⟩)(hcd:codeT C.K cdv qual=true)(hbind:∀ F s vs kvs,C.K.In s.heap->WsAt C.P F xs vs->KwAt C.P F kws kvs->∃ binds,BindsTo s (PySem.W.fnOf name qual params body scope dV kV doc pm an cdv ct) ⟨vs,kvs⟩ binds∧BindAt C.P F bs binds)(hkind:((bs.map (·.1)).all fun y=>scope.names.lookup y == some .local||scope.names.lookup y == some .cell)=true)(hn:decide (bs.map (·.1)).Nodup=true)(hfree:∀ y∈scope.names,y.2≠.free)(hco:scope.isCoroutine=false)(hgen:scope.isGenerator=false)(hk:scope.kind=.function)(h:cS C d scope bs μ body (retK k)) :
  cCode C (d+1) μ (.ref f) xs kws k:=by
 refine cCode_def ho hcd hbind ?_ (of_decide_eq_true hn) hfree hco hgen hk h;rw [List.all_map] at hkind;exact hkind
end
end
section
open PySem PySem.Calls PyProof.Rows
noncomputable abbrev Cx.inGen (C:Cx)(g:Nat):Cx:={ C with gen:=true,gs:=(g,.running)::C.gs }
theorem setGen_ne {g k:Nat}{x:GenState}(h:k≠g):(s.setGen g x).gens[k]? = s.gens[k]? := (GenOnly.setGen s g x).2 k h
theorem allBare_set {g:Nat}{x:GenState}(h:AllBare s.gens)(hx:x.bare=true):AllBare (s.setGen g x).gens:=fun y hy=>by
 obtain ⟨i,hi,rfl⟩:=Array.mem_iff_getElem.mp hy;have hs:(s.setGen g x).gens.size=s.gens.size:=(GenOnly.setGen s g x).1;by_cases e:i=g
 ·subst e;have h1:s.gens[i]? = some s.gens[i]:=Array.getElem?_eq_getElem (by lia);have:=setGen_self (x:=x) h1;rw [Array.getElem?_eq_getElem hi] at this;rw [Option.some.inj this];exact hx
 ·have:=setGen_ne (s:=s) (x:=x) e;rw [Array.getElem?_eq_getElem hi,Array.getElem?_eq_getElem (by lia)] at this;rw [Option.some.inj this];exact h _ (Array.getElem_mem _)
section
variable {g:Nat}
theorem Sim.into (S:Sim C F Z μ s)(hg:∀ p∈C.gs,p.1≠g){gs:GenState}(hs:s.gens[g]? = some gs):Sim (C.inGen g) F Z μ (s.setGen g .running) :=
 ⟨S.base,S.fz,S.zz,S.dis,S.own,S.nod,S.os,allBare_set S.gens.1 rfl,fun p hp=>by
  rcases List.mem_cons.mp hp with rfl | hp
  ·exact setGen_self hs
  ·rw [setGen_ne (hg p hp)];exact S.gens.2 p hp⟩
theorem Sim.outof (S:Sim (C.inGen g) F Z μ s)(hg:∀ p∈C.gs,p.1≠g){x:GenState}(hx:x.bare=true):Sim C F Z μ (s.setGen g x)∧(s.setGen g x).gens[g]? = some x :=
 ⟨⟨S.base,S.fz,S.zz,S.dis,S.own,S.nod,S.os,allBare_set S.gens.1 hx,fun p hp=>by rw [setGen_ne (hg p hp)];exact S.gens.2 p (.tail _ hp)⟩,setGen_self (S.gens.2 _ (.head _))⟩
theorem Iter.gen {it:Addr}{items:List V}(h:Iter C F it items J):Iter (C.inGen g) F it items J:=⟨h.shape,h.item,h.done,h.self⟩
end
theorem Rm.over {c:Code}(h:Rm A (d+1))(hw:c.weight≤1)(hu:c.cUnits≤3):Rm (A.over c []) d :=
 h.step h.hd (Nat.add_le_add_left (Nat.le_succ_of_le hw) _) (Nat.add_le_add_left (Nat.le_trans hu (by decide)) _)
theorem PUn.nil (Z:PMap):PUn Z (fun _=>none)=Z:=by funext a;unfold PUn;simp
noncomputable def Zp (pr:List Addr)(Z:PMap)(s:Shared):PMap:=fun b=>if b∈pr then s.heap.get? b else Z b
structure GIt (C:Cx)(F₀ Z:PMap)(g:Nat)(it L:Addr)(pr:List Addr)(items:List V)(J:Nat->Obj->Prop)(sc₀:Scope)(cenv:Env):Prop where
 iter:Iter C F₀ it items J
 zi:Z it=none
 zl:Z L=none
 ne:L≠it
 pi:it∉pr
 pl:L∉pr
 sc:cenv.scope=sc₀
 lo:cenv.locals=L
 gl:cenv.globals=mainGlobals
 bl:cenv.builtins=builtinsNs
 kd:sc₀.kind=.function
 nc:sc₀.names.all (fun y=>y.2 != .cell&&y.2 != .free)=true
 co:sc₀.isCoroutine=false
 gs:∀ p∈C.gs,p.1≠g
noncomputable def DictOk (o:Obj):Prop:=∃ es n,o.data=.dict es n∧StrKeys es
section
variable {g:Nat}{it:Addr}{pr:List Addr}{items:List V}{K:List V}
noncomputable def gZ (Z:PMap)(pr:List Addr)(it L:Addr)(s:Shared)(o oL:Obj):PMap:=PSet (PSet (Zp pr Z s) it o) L oL
noncomputable def gR (C:Cx)(μ:Mem)(F₀ Z:PMap)(g:Nat)(pr:List Addr):GenEnd:=fun n s₀ r s₁=>r=.ok .next∧n=0∧∃ F',PLe F₀ F'∧Sim (C.inGen g) F' (Zp pr Z s₀) μ s₁
noncomputable def gY (C:Cx)(μ:Mem)(F₀ Z:PMap)(g:Nat)(it L:Addr)(pr:List Addr)(K:List V):Protocol:=fun m s₀ v s kap =>
 ∃ F' x o oL,K[K.length-1-m]? = some x∧PLe F₀ F'∧Val C.P F' x v∧Sim (C.inGen g) F' (gZ Z pr it L s₀ o oL) μ s ∧
  ∀ s'',Sim (C.inGen g) F' (gZ Z pr it L s'' o oL) μ s''->kap (.send .none) s''
section
variable {s₀:Shared}
theorem GIt.zpi (G:GIt C F₀ Z g it L pr items J sc₀ cenv):Zp pr Z s₀ it=none:=(if_neg G.pi).trans G.zi
theorem GIt.zpl (G:GIt C F₀ Z g it L pr items J sc₀ cenv):Zp pr Z s₀ L=none:=(if_neg G.pl).trans G.zl
theorem GIt.its (G:GIt C F₀ Z g it L pr items J sc₀ cenv):gZ Z pr it L s₀ o oL it=some o:=(PSet.ne _ _ (Ne.symm G.ne)).trans (PSet.self ..)
theorem GIt.off (G:GIt C F₀ Z g it L pr items J sc₀ cenv):PLe (Zp pr Z s₀) (gZ Z pr it L s₀ o oL):=(PSet.le G.zpi).trans (PSet.le ((PSet.ne _ _ G.ne).trans G.zpl))
theorem GIt.put (G:GIt C F₀ Z g it L pr items J sc₀ cenv):PSet (gZ Z pr it L s₀ o oL) it o'=gZ Z pr it L s₀ o' oL:=by
 unfold gZ
 funext b
 by_cases h1:b=it
 ·subst h1;rw [PSet.self,PSet.ne _ _ (Ne.symm G.ne),PSet.self]
 ·by_cases h2:b=L
  ·subst h2;rw [PSet.ne _ _ h1,PSet.self,PSet.self]
  ·rw [PSet.ne _ _ h1,PSet.ne _ _ h2,PSet.ne _ _ h1,PSet.ne _ _ h2,PSet.ne _ _ h1]
theorem GIt.frame (G:GIt C F₀ Z g it L pr items J sc₀ cenv)(hL:DictOk oL) :
  CEnv (C.inGen g) sc₀ F (PSet (Zp pr Z s₀) it o) (PSet (fun _=>none) L oL) cenv []∧PUn (PSet (Zp pr Z s₀) it o) (PSet (fun _=>none) L oL)=gZ Z pr it L s₀ o oL:=by
 have zl:PSet (Zp pr Z s₀) it o L=none:=(PSet.ne _ _ G.ne).trans G.zpl
 have e:PUn (PSet (Zp pr Z s₀) it o) (PSet (fun _=>none) L oL)=gZ Z pr it L s₀ o oL:=by rw [PUn.set zl,PUn.nil];rfl
 have ko:∀ y,cenv.kindOf y=sc₀.names.lookup y:=fun y=>by unfold Env.kindOf;rw [G.sc]
 have nk:∀ y,¬ (cenv.kindOf y=some .cell∨cenv.kindOf y=some .free):=fun y q=>by
  rw [ko] at q
  rcases q with q | q
  ·exact absurd (List.all_eq_true.mp G.nc _ (mem_of_lookup q)) Bool.false_ne_true
  ·exact absurd (List.all_eq_true.mp G.nc _ (mem_of_lookup q)) Bool.false_ne_true
 refine ⟨⟨⟨by rw [G.sc];exact G.kd,G.gl,⟨G.bl,fun q=>by cases q⟩,el22 hL fun es n h1 h2=>?_,fun y q=>(nk y q).elim⟩,fun a ob q=>?_,⟨oL,by rw [G.lo];exact PSet.self ..⟩,fun y c q=>(nk y q).elim,fun y c q=>(nk y (.inl ((ko y).trans q))).elim,fun y q=>(ko y).trans q,fun y q=>(ko y).trans q⟩,e⟩
 ·rw [e,G.lo];exact ⟨oL,es,n,PSet.self ..,h1,h2,fun x w q=>by cases q⟩
 ·by_cases q2:a=L
  ·rw [q2];exact zl
  ·rw [PSet.ne _ _ q2] at q;cases q
theorem GIt.back (G:GIt C F₀ Z g it L pr items J sc₀ cenv){F₃ S₂:PMap}{bs:Env1}(c:CEnv (C.inGen g) sc₀ F₃ (PSet (Zp pr Z s₀) it o) S₂ cenv bs)(S:Sim (C.inGen g) F (PUn (PSet (Zp pr Z s₀) it o) S₂) μ s):∃ oL',DictOk oL'∧Sim (C.inGen g) F (gZ Z pr it L s₀ o oL') μ s :=
 el34 c.rel.ns fun ob es m h1 h2 h3 h4=>⟨ob,⟨es,m,h2,h3⟩,S.weakZ fun a oa e=>by
  by_cases h5:a=L
  ·rw [h5] at e ⊢;rw [G.lo] at h1;exact h1.trans ((PSet.self ..).symm.trans e)
  ·exact PLe.unL a oa ((PSet.ne _ _ h5).symm.trans e)⟩
end
theorem pick_at {α β:Type}{p:α->Bool}{f:α->β}{pre rest:List α}{x:α}(h:p x=true) :
  (((pre++x::rest).filter p).map f)[(((pre++x::rest).filter p).map f).length-1-(rest.filter p).length]? = some (f x):=by
 rw [List.filter_append,List.filter_cons_of_pos h,List.map_append,List.map_cons,List.length_append,List.length_cons,List.length_map,List.length_map,<-Nat.add_assoc,Nat.add_sub_cancel,Nat.add_sub_cancel,
  List.getElem?_append_right (by rw [List.length_map];exact Nat.le_refl _),List.length_map,Nat.sub_self];rfl
theorem get_at {α:Type}{pre rest:List α}{x:α}:(pre++x::rest)[pre.length]? = some x:=by
 rw [List.getElem?_append_right (Nat.le_refl _),Nat.sub_self];rfl
noncomputable def gLoop (elt target iter:Expr)(ifs:List Expr)(sc₀:Scope)(pos:Pos)(it:Addr)(cenv:Env):Code:=.compLoop (.GeneratorExp elt [⟨target,iter,ifs,0⟩] sc₀ pos) 0 (.ref it) .none cenv
theorem seg_loop {p:V->Bool}{f:V->V}(G:GIt C F₀ Z g it L pr items J sc₀ cenv)(hA:Rm A (d+1))(hK:K=(items.filter p).map f)(turn:∀ x∈items,∃ bs,cTgt (C.inGen g) sc₀ target (.v x) bs∧cIfs (C.inGen g) d sc₀ bs μ ifs fun b m=>b=p x∧m=μ∧(b=true->cE (C.inGen g) d sc₀ bs μ elt fun w m=>w=.v (f x)∧m=μ)){rest:List V}:∀ {pre:List V}{s₀ s:Shared}{F:PMap}{o oL:Obj},items=pre++rest->PLe F₀ F->Sim (C.inGen g) F (gZ Z pr it L s₀ o oL) μ s->J pre.length o->DictOk oL->
   Seg C.M A (gR C μ F₀ Z g pr) (gY C μ F₀ Z g it L pr K) (rest.filter p).length s₀ (gLoop elt target iter ifs sc₀ pos it cenv) (C.M.den (gLoop elt target iter ifs sc₀ pos it cenv)) [] s:=by
 have hh':(A.over (gLoop elt target iter ifs sc₀ pos it cenv) []).handled=none:=hA.hd;have hA':Rm (A.over (gLoop elt target iter ifs sc₀ pos it cenv) []) d:=hA.over (by exact Nat.le_refl _) (by exact Nat.le_refl _);have hit:Iter (C.inGen g) F₀ it items J:=G.iter.gen;have hden:C.M.den (gLoop elt target iter ifs sc₀ pos it cenv)=(compTurn (.GeneratorExp elt [⟨target,iter,ifs,0⟩] sc₀ pos) 0 (.ref it) .none cenv).onRaise (leaving cenv):=rfl;rw [hden,compTurn_gen,Sem.onRaise_eq_wrap]
 induction rest with
 | nil =>
  intro pre s₀ s F o oL he le S hJ hL
  have hx:items[pre.length]? = none:=by rw [he,List.append_nil];exact List.getElem?_eq_none (Nat.le_refl _)
  exact seg_bind_wrap (wpAny_standAt (seg_bind_wrap (hit.stop hh' le S G.its hJ hx G.zpi G.off fun s' S'=>seg_end (.ok .next) ⟨rfl,rfl,F,le,S'⟩)))
 | cons x rest ih =>
  intro pre s₀ s F o oL he le S hJ hL
  have hx:items[pre.length]? = some x:=by rw [he];exact get_at
  have he':items=(pre++[x])++rest:=by rw [he,List.append_assoc];rfl
  refine el12 (turn x (List.mem_of_getElem? hx)) fun bs htg hifs=>seg_bind_wrap (wpAny_standAt (seg_bind_wrap (hit.take hh' le S G.its hJ hx fun v o'' s₁ hv S₁ hJ''=>?_)))
  have hJ'':J (pre++[x]).length o'':=by rw [List.length_append];exact hJ''
  have fr:=G.frame (F:=F) (s₀:=s₀) (o:=o'') hL;rw [G.put,<-fr.2] at S₁;refine seg_bind_wrap (hit.lotGo hJ'' (S₁.zz it o'' (by rw [fr.2];exact G.its)) (seg_bind_wrap (wpBot (htg.2 _ cenv F _ _ _ μ _ v hh' fr.1 S₁ (Val.mono le hv)) fun _ s₂ hq=>el12 hq fun S₂ Sm₂ C₂=>?_)));rw [List.append_nil] at C₂;refine seg_bind_wrap (wpBot (hifs _ cenv F _ s₂ hA' G.sc C₂.rel Sm₂) fun b s₃ hq=>hq.casesOn fun F₃ μ₃ hb le₃ Sm₃=>?_);rw [hb.2.1] at Sm₃;have C₃:=C₂.mono le₃
  cases b with
  | false =>
   rw [List.filter_cons_of_neg (by rw [<-hb.1];exact Bool.false_ne_true),if_neg Bool.false_ne_true];refine el12 (G.back C₃ Sm₃) fun oL' hL' Sm'=>seg_again rfl ?_;show Seg _ _ _ _ _ _ (gLoop elt target iter ifs sc₀ pos it cenv) (C.M.den (gLoop elt target iter ifs sc₀ pos it cenv)) _ _;rw [hden,compTurn_gen,Sem.onRaise_eq_wrap];exact ih he' (le.trans le₃) Sm' hJ'' hL'
  | true =>
   have hy:∀ v,yieldOut cenv v=yieldValue v:=fun v=>by simp only [yieldOut,G.sc,G.co,Bool.false_eq_true,if_false]
   rw [List.filter_cons_of_pos (by rw [<-hb.1]),List.length_cons,if_pos rfl];simp only [hy];rw [Sem.bind_eq_wrap',Sem.bind_eq_wrap',Sem.wrap_wrap,Sem.wrap_wrap];refine seg_wrap (wpBot (hb.2.2 rfl _ cenv F₃ _ s₃ hA' G.sc C₃.rel Sm₃) fun y s₄ hq=>hq.casesOn fun w F₄ μ₄ hw le₄ Sm₄ hwy=>?_);rw [hw.2] at Sm₄;rw [hw.1] at hwy;have l4:=(le.trans le₃).trans le₄;refine el12 (G.back C₃ Sm₄) fun oL' hL' Sm'=>seg_at (seg_yield rfl rfl rfl ⟨F₄,f x,o'',oL',by rw [hK,he];exact pick_at hb.1.symm,l4,hwy,Sm',fun s'' S''=>seg_again rfl ?_⟩);show Seg _ _ _ _ _ _ (gLoop elt target iter ifs sc₀ pos it cenv) (C.M.den (gLoop elt target iter ifs sc₀ pos it cenv)) _ _;rw [hden,compTurn_gen,Sem.onRaise_eq_wrap];exact ih he' l4 S'' hJ'' hL'
end
end
section
open PySem PySem.Calls PyProof.Rows
section
variable {g:Nat}{it:Addr}{pr:List Addr}{items:List V}{K:List V}
theorem seg_start {p:V->Bool}{f:V->V}(G:GIt C F₀ Z g it L pr items J sc₀ cenv)(hA:Rm A (d+1))(hK:K=(items.filter p).map f)(turn:∀ x∈items,∃ bs,cTgt (C.inGen g) sc₀ target (.v x) bs∧cIfs (C.inGen g) d sc₀ bs μ ifs fun b m=>b=p x∧m=μ∧(b=true->cE (C.inGen g) d sc₀ bs μ elt fun w m=>w=.v (f x)∧m=μ)){s₀:Shared}(le:PLe F₀ F)(S:Sim (C.inGen g) F (gZ Z pr it L s₀ o oL) μ s)(hJ:J 0 o)(hL:DictOk oL) :
  Seg C.M A (gR C μ F₀ Z g pr) (gY C μ F₀ Z g it L pr K) K.length s₀
   (.compStart (.GeneratorExp elt [⟨target,iter,ifs,0⟩] sc₀ pos) 0 (.ref it) .none cenv)
   (C.M.den (.compStart (.GeneratorExp elt [⟨target,iter,ifs,0⟩] sc₀ pos) 0 (.ref it) .none cenv)) [] s:=by
 have loop:=seg_loop (iter:=iter) (pos:=pos) G hA hK turn (pre:=[]) rfl le S hJ hL
 have hl:K.length=(items.filter p).length:=by rw [hK,List.length_map]
 rw [hl];have to:s.heap.get? it=some o:=S.zz _ _ G.its;show Seg _ A _ _ _ s₀ _ ((compStart (.GeneratorExp elt [⟨target,iter,ifs,0⟩] sc₀ pos) 0 (.ref it) .none cenv).onRaise (leaving cenv)) [] s;unfold compStart;rw [Sem.onRaise_eq_wrap];show Seg _ A _ _ _ s₀ _ ((ask>>=_).wrap _ _ _ _) [] s;refine seg_bind_wrap (wpAny_askSetting ?_);split
 ·exact seg_again rfl loop
 ·first
   | exact seg_bind_wrap (wpAny_rule (seg_bind_wrap (wpAny_standAt (seg_bind_wrap (G.iter.self 0 _ s _ _ o to hJ (seg_again rfl loop))))))
   | (refine seg_bind_wrap (wpAny_rule ?_);show Seg _ A _ _ _ s₀ _ ((standAt iter.pos>>=_).wrap _ _ _ _) [] s;exact seg_bind_wrap (wpAny_standAt (seg_bind_wrap (G.iter.self 0 _ s _ _ o to hJ (seg_again rfl loop)))))
noncomputable def GAt (C:Cx)(A:Around)(μ:Mem)(F₀ Z:PMap)(g:Nat)(it L:Addr)(pr:List Addr)(K:List V)(j:Nat)(F:PMap)(s:Shared):Prop :=
 ∃ gs o oL,s.gens[g]? = some gs∧Sim C F (gZ Z pr it L s o oL) μ s ∧
  ∀ s'',Sim (C.inGen g) F (gZ Z pr it L s'' o oL) μ s''->gs.Goes C.M A.in1 (gR C μ F₀ Z g pr) (gY C μ F₀ Z g it L pr K) (K.length-j) (.send .none) s''
theorem GIt.at (G:GIt C F₀ Z g it L pr items J sc₀ cenv)(hb:b∈pr):gZ Z pr it L s o oL b=s.heap.get? b :=
 (PSet.ne _ _ fun (q:b=L)=>G.pl (q▸hb)).trans ((PSet.ne _ _ fun (q:b=it)=>G.pi (q▸hb)).trans (if_pos hb))
theorem Zp.same {pr:List Addr}(h:∀ b∈pr,s'.heap.get? b=s.heap.get? b):Zp pr Z s'=Zp pr Z s:=by
 funext b;unfold Zp;split
 ·exact h b (by assumption)
 ·rfl
theorem GAt.fresh {p:V->Bool}{f:V->V}(G:GIt C F₀ Z g it L pr items J sc₀ cenv)(hA:Rm A.in1 (d+1))(hK:K=(items.filter p).map f)(turn:∀ x∈items,∃ bs,cTgt (C.inGen g) sc₀ target (.v x) bs∧cIfs (C.inGen g) d sc₀ bs μ ifs fun b m=>b=p x∧m=μ∧(b=true->cE (C.inGen g) d sc₀ bs μ elt fun w m=>w=.v (f x)∧m=μ))(S:Sim C F₀ (gZ Z pr it L s o oL) μ s)(hJ:J 0 o)(hL:DictOk oL)(hs:s.gens[g]? = some (.fresh (.compStart (.GeneratorExp elt [⟨target,iter,ifs,0⟩] sc₀ pos) 0 (.ref it) .none cenv))):GAt C A μ F₀ Z g it L pr K 0 F₀ s :=
 ⟨_,o,oL,hs,S,fun s'' S''=>⟨rfl,seg_start G hA hK turn (.refl _) S'' hJ hL⟩⟩
theorem GAt.next {Q:Option Value->Shared->Prop}(G:GIt C F₀ Z g it L pr items J sc₀ cenv)(hh:A.handled=none)(hroom:A.depth<recursionLimit)(hle:PLe F₀ F)(ha:∀ h:Heap,PIn F₀ h->h.IsGen a g)(hpr:∀ b∈pr,∃ ob,s.heap.get? b=some ob)(H:GAt C A μ F₀ Z g it L pr K j F s)(hj:j≤K.length)(hQ:∀ v x s' F',K[j]? = some x->PLe F₀ F'->Val C.P F' x v->GAt C A μ F₀ Z g it L pr K (j+1) F' s'->(∀ b∈pr,s'.heap.get? b=s.heap.get? b)->Q (some v) s')(hD:j=K.length->∀ s' F',PLe F₀ F'->Sim C F' (Zp pr Z s) μ s'->(∀ b∈pr,s'.heap.get? b=s.heap.get? b)->Q none s'):wpAny C.M A (pyNext (.ref a)) Q E s:=by
 refine el33 H fun gs o oL hgs S hgo=>?_;have same:∀ {F' o' oL' s₁},Sim (C.inGen g) F' (gZ Z pr it L s o' oL') μ s₁->∀ b∈pr,s₁.heap.get? b=s.heap.get? b:=fun S' b hb=>(hpr b hb).elim fun ob hob=>(S'.zz _ _ ((G.at hb).trans hob)).trans hob.symm;refine wpAny_pyNext_genexpQ (P:=fun n s₀ s₁=>n=0∧∃ F',PLe F₀ F'∧Sim (C.inGen g) F' (Zp pr Z s₀) μ s₁) (Y:=gY C μ F₀ Z g it L pr K) (n:=K.length-j) hh S.lim hroom (ha _ fun b ob e=>S.fz _ _ (hle b ob e)) hgs (hgo _ (S.into G.gs hgs)) (fun v s₁ gs' hb hv=>el45 hv fun F' x o' oL' hx le' hv' S' hkap=>?_) fun s₁ hp h' hk=>hp.elim fun hn hp=>el12 hp fun F' le' S'=>?_
 ·have S':Sim (C.inGen g) F' (gZ Z pr it L s o' oL') μ s₁:=S';have hsame:=same S'
  have hz:∀ {o oL},gZ Z pr it L s₁ o oL=gZ Z pr it L s o oL:=fun {o oL}=>by unfold gZ;rw [Zp.same hsame]
  cases e:K.length-j with
  | zero =>
   rw [e] at hkap;exact (hkap s₁ (by rw [hz];exact S')).elim
  | succ m =>
   rw [e] at hkap hx
   have e2:K.length-(j+1)=m:=by rw [Nat.sub_succ,e];rfl
   have hidx:K.length-1-(m+1-1)=j:=(Nat.sub_sub ..).trans (by rw [Nat.add_comm 1];exact (congrArg (K.length - ·) e.symm).trans (Nat.sub_sub_self hj));rw [hidx] at hx;have S₂:=S'.outof G.gs hb;exact hQ v x _ F' hx le' hv' ⟨gs',o',oL',S₂.2,by show Sim C F' (gZ Z pr it L s₁ o' oL') μ _;rw [hz];exact S₂.1,fun s'' S''=>by rw [e2];exact hkap s'' S''⟩ hsame
 ·have S₃:Sim C F' (Zp pr Z s) μ { s₁.setGen g .finished with heap:=h' }:=Sim.ext (S'.outof G.gs (x:=.finished) rfl).1 hk _;exact hD (Nat.le_antisymm hj (Nat.le_of_sub_eq_zero hn)) _ F' le' S₃ fun b hb=>(hpr b hb).elim fun ob hob=>(S₃.zz _ _ ((if_pos hb).trans hob)).trans hob.symm
end
section
variable {g:Nat}{it:Addr}{items:List V}
theorem Zp.nil:Zp [] Z s=Z:=by funext b;unfold Zp;rw [if_neg (by simp)]
theorem GAt.sim {pr:List Addr}{K:List V}(G:GIt C F₀ Z g it L pr items J sc₀ cenv)(H:GAt C A μ F₀ Z g it L pr K j F s):Sim C F (Zp pr Z s) μ s :=
 el33 H fun gs o oL hgs S hgo=>S.weakZ G.off
theorem all_loop {bs:List Bool}{R:Result->Shared->Prop}(hA:Rm A (d+1))(G:GIt C F₀ Z g it L [] items J sc₀ cenv)(ha:∀ h:Heap,PIn F₀ h->h.IsGen a g)(hR:∀ s' F',PLe F₀ F'->Sim C F' Z μ s'->R (.ok (.ret (.bool (bs.all id)))) s') :
  ∀ {j:Nat}{F:PMap}{s:Shared},j+m=bs.length->PLe F₀ F->GAt C A.in1 μ F₀ Z g it L [] (bs.map .bool) j F s->(bs.take j).all id=true->
   codeAny C.M A (.builtin "all.loop" ⟨[.ref a],[]⟩) R s:=by
 induction m using Nat.strongRecOn with
 | ind m ih =>
  intro j F s hj hle H hall;refine codeAny_builtin PySem.F.entry_all_loop ?_;rw [Around.under_plainId PySem.F.plain_all_loop _];refine wpAny_bind (H.next (A:=A.in1) G hA.hd (hA.in1).lim hle ha (fun b hb=>by cases hb) (by rw [List.length_map,<-hj];exact Nat.le_add_right ..) (fun v x s' F' hx le' hv H' _=>?_) fun e s' F' le' S' _=>?_)
  ·rw [List.getElem?_map] at hx;refine el12 (Option.map_eq_some_iff.mp hx) fun b hb e=>?_;rw [<-e] at hv;refine Val.i_bool hv (wpAny_bind (wpAny_holding (wpAny_truthy_bool (wpAny_bind (wpAny_letGo ?_)))));have hlt:j<bs.length:=(List.getElem?_eq_some_iff.mp hb).1
   cases b with
   | true =>
    have hm0:0<m:=Nat.pos_of_ne_zero fun q=>by rw [q] at hj;exact absurd hlt (Nat.not_lt_of_le (Nat.le_of_eq hj.symm))
    have htk:bs.take (j+1)=bs.take j++[true]:=by rw [List.take_add_one,hb];rfl
    exact ifT rfl (wpAny_pure ⟨plainId_quiet PySem.F.plain_all_loop _,ih (m-1) (sub_one_lt hm0) (by rw [Nat.add_assoc,Nat.add_sub_of_le hm0];exact hj) le' H' (by rw [htk,List.all_append,hall];rfl)⟩)
   | false =>
    have e:bs.all id=false:=List.all_eq_false.mpr ⟨false,List.mem_of_getElem? hb,Bool.false_ne_true⟩;rw [e] at hR;have S':=H'.sim G;rw [Zp.nil] at S';exact ifF Bool.false_ne_true (wpAny_bind (wpAny_rule (wpAny_pure (hR s' F' le' S'))))
  ·rw [Zp.nil] at S';rw [e,List.length_map,List.take_length] at hall;rw [hall] at hR;exact wpAny_bind (wpAny_rule (wpAny_pure (hR s' F' le' S')))
end
end
section
open PySem PySem.Calls PyProof.Rows
section
variable {g:Nat}{it:Addr}{items:List V}
theorem Zp.one {S:Addr}(h:b≠S):Zp [S] Z s b=Z b:=if_neg fun q=>h (List.mem_singleton.mp q)
theorem gZ.upd {S:Addr}{s:Shared}(n1:S≠L)(n2:S≠it)(ho:s'.heap.get? S=some ob'){Y:PMap}(hY:∀ b,b≠S->Y b=Z b):PSet (PSet (PSet Y it o) L oL) S ob'=gZ Z [S] it L s' o oL:=by
 funext b
 by_cases h1:b=S
 ·rw [h1,PSet.self];exact ((PSet.ne _ _ n1).trans ((PSet.ne _ _ n2).trans ((if_pos (List.mem_singleton.mpr rfl)).trans ho))).symm
 ·rw [PSet.ne _ _ h1];have e:=(hY b h1).trans (Zp.one (Z:=Z) (s:=s') h1).symm;by_cases h2:b=L
  ·rw [h2];exact (PSet.self ..).trans (PSet.self ..).symm
  ·refine (PSet.ne _ _ h2).trans (Eq.trans ?_ (PSet.ne _ _ h2).symm);by_cases h3:b=it
   ·rw [h3];exact (PSet.self ..).trans (PSet.self ..).symm
   ·exact (PSet.ne _ _ h3).trans (e.trans (PSet.ne _ _ h3).symm)
theorem GAt.upd {K:List V}{S:Addr}{ob:Obj}(G:GIt C F₀ Z g it L [S] items J sc₀ cenv)(H:GAt C A μ F₀ Z g it L [S] K j F s)(hob:s.heap.get? S=some ob)(hs:Heap.SameBut S s.heap h')(ho:h'.get? S=some ob'):GAt C A μ F₀ Z g it L [S] K j F { s with heap:=h' }:=el33 H fun gs o oL hgs SS hgo=>by
 have hm:S∈[S]:=List.mem_singleton.mpr rfl;have q:=SS.setZ (a:=S) (o:=ob) ((G.at hm).trans hob) hs ho s.toks;have e:PSet (gZ Z [S] it L s o oL) S ob'=gZ Z [S] it L { s with heap:=h' } o oL:=gZ.upd (fun (q:S=L)=>G.pl (q▸hm)) (fun (q:S=it)=>G.pi (q▸hm)) (s:=s) ho fun b h=>Zp.one h;rw [e] at q;exact ⟨gs,o,oL,hgs,q,hgo⟩
theorem take_next {l:List Int}{i:Int}(hi:l[j]? = some i):l.take (j+1)=l.take j++[i]:=by rw [List.take_add_one,hi];rfl
noncomputable def Utmost (le:Int->Int->Prop)(l:List Int)(m:Int):Prop:=m∈l∧∀ x∈l,le x m
theorem Utmost.one {le:Int->Int->Prop}(hr:∀ x,le x x){l:List Int}{i:Int}(hi:l[0]? = some i):Utmost le (l.take 1) i:=by
 rw [take_next hi];exact ⟨.head _,fun x hx=>by rw [List.mem_singleton.mp hx];exact hr i⟩
theorem Utmost.up {le:Int->Int->Prop}(hr:∀ x,le x x)(ht:∀ x y z,le x y->le y z->le x z){l:List Int}{i b:Int}(hi:l[j]? = some i)(h:Utmost le (l.take j) b)(c:le b i):Utmost le (l.take (j+1)) i:=by
 rw [take_next hi];refine ⟨List.mem_append_right _ (.head _),fun x hx=>?_⟩
 rcases List.mem_append.mp hx with q | q
 ·exact ht _ _ _ (h.2 x q) c
 ·rw [List.mem_singleton.mp q];exact hr i
theorem Utmost.st {le:Int->Int->Prop}{l:List Int}{i b:Int}(hi:l[j]? = some i)(h:Utmost le (l.take j) b)(c:le i b):Utmost le (l.take (j+1)) b:=by
 rw [take_next hi];refine ⟨List.mem_append_left _ h.1,fun x hx=>?_⟩
 rcases List.mem_append.mp hx with q | q
 ·exact h.2 x q
 ·rw [List.mem_singleton.mp q];exact c
noncomputable def lst (xs:Array Value)(c:Nat):Obj:={ cls:=.type "list",dict:=none,data:=.seq xs c,slots:=#[] }
structure Extr (M:Model)(nm lp:String)(le:Int->Int->Prop)(B:Builtin):Prop where
 entry:entryFor table lp=some B
 plain:plainId lp=true
 refl:∀ x,le x x
 trans:∀ x y z,le x y->le y z->le x z
 turn:∀ {A:Around}{E:Value->Shared->Prop}{s:Shared}{S:Addr}{it:Value}{b:Int}{t:Tok}{c:Nat}{Q:PySem.Fin->Shared->Prop},s.heap.get? S=some (lst #[.int b t,.int b t] c)->
  (∀ E,wpAny M A (pyNext it) (fun r s₁=>s₁.heap.get? S=some (lst #[.int b t,.int b t] c)∧match r with
   | none=>∀ h',(∀ x ob,x≠S->s₁.heap.get? x=some ob->h'.get? x=some ob)->Q (.done (.ret (.int b t))) { s₁ with heap:=h' }
   | some v=>∃ i u,v=.int i u∧(le b i->∀ h' c',Heap.SameBut S s₁.heap h'->h'.get? S=some (lst #[.int i u,.int i u] c')->Q (.again (.builtin lp ⟨[it,.none,.ref S],[]⟩)) { s₁ with heap:=h' })∧(le i b->Q (.again (.builtin lp ⟨[it,.none,.ref S],[]⟩)) s₁)) E s)->
  wpAny M A (B ⟨[it,.none,.ref S],[]⟩) Q E s
 first:∀ {A:Around}{E:Value->Shared->Prop}{s:Shared}{S:Addr}{it:Value}{c:Nat}{Q:PySem.Fin->Shared->Prop},s.heap.get? S=some (lst #[] c)->
  (∀ E,wpAny M A (pyNext it) (fun r s₁=>s₁.heap.get? S=some (lst #[] c)∧match r with
   | none=>False
   | some v=>∃ i u,v=.int i u∧∀ h' c',Heap.SameBut S s₁.heap h'->h'.get? S=some (lst #[.int i u,.int i u] c')->Q (.again (.builtin lp ⟨[it,.none,.ref S],[]⟩)) { s₁ with heap:=h' }) E s)->
  wpAny M A (B ⟨[it,.none,.ref S],[]⟩) Q E s
 call:∀ {A:Around}{E:Value->Shared->Prop}{s:Shared}{a:Addr}{g:Nat}{Q:Value->Shared->Prop},s.heap.IsGen a g->
  codeAny M A (.builtin lp ⟨[.ref a,.none,.ref s.heap.objs.size],[]⟩) (wants Q E) { s with heap:=s.heap.push (lst #[] 0) }->wpAny M A (call (.builtin nm) [.ref a]) Q E s
theorem upd_at {h:Heap}{S:Addr}{xs ys:Array Value}{c:Nat}(e:h.get? S=some (lst xs c)):∃ c',(h.update S (Obj.mapSeq fun _=>ys)).get? S=some (lst ys c'):=⟨_,Heap.get?_update_self _ e rfl⟩
section
variable {nm lp:String}{le:Int->Int->Prop}{B:Builtin}{S:Addr}{is:List Int}{R:Result->Shared->Prop}
theorem ext_loop (X:Extr C.M nm lp le B)(hA:Rm A (d+1))(G:GIt C F₀ Z g it L [S] items J sc₀ cenv)(hZS:Z S=none)(ha:∀ h:Heap,PIn F₀ h->h.IsGen a g)(hR:∀ s' F' m t,Utmost le is m->PLe F₀ F'->Sim C F' Z μ s'->R (.ok (.ret (.int m t))) s') :
  ∀ {j:Nat}{F:PMap}{s:Shared}{b:Int}{t:Tok}{c:Nat},j+m=is.length->Utmost le (is.take j) b->PLe F₀ F->GAt C A.in1 μ F₀ Z g it L [S] (is.map .int) j F s->
   s.heap.get? S=some (lst #[.int b t,.int b t] c)->codeAny C.M A (.builtin lp ⟨[.ref a,.none,.ref S],[]⟩) R s:=by
 induction m using Nat.strongRecOn with
 | ind m ih =>
  intro j F s b t c hj hu hle H hS;have hm:S∈[S]:=List.mem_singleton.mpr rfl;refine codeAny_builtin X.entry ?_;rw [Around.under_plainId X.plain _];refine X.turn hS fun E=>(H.next (A:=A.in1) G hA.hd (hA.in1).lim hle ha (fun x hx=>List.mem_singleton.mp hx▸⟨_,hS⟩) (by rw [List.length_map,<-hj];exact Nat.le_add_right ..) (fun v x s' F' hx le' hv H' hsm=>⟨(hsm S hm).trans hS,?_⟩) fun e s' F' le' S' hsm=>⟨(hsm S hm).trans hS,fun h' hk=>?_⟩)
  ·rw [List.getElem?_map] at hx;refine el12 (Option.map_eq_some_iff.mp hx) fun i hi e=>?_;rw [<-e] at hv;have hlt:j<is.length:=(List.getElem?_eq_some_iff.mp hi).1;have hS':=(hsm S hm).trans hS
   have hm0:0<m:=Nat.pos_of_ne_zero fun q=>by rw [q] at hj;exact absurd hlt (Nat.not_lt_of_le (Nat.le_of_eq hj.symm))
   have hj':j+1+(m-1)=is.length:=by rw [Nat.add_assoc,Nat.add_sub_of_le hm0];exact hj
   exact Val.i_int hv fun tk=>⟨i,tk,rfl,fun c1 h' c' hs ho=>⟨plainId_quiet X.plain _,ih (m-1) (Nat.sub_lt hm0 Nat.one_pos) hj' (Utmost.up X.refl X.trans hi hu c1) le' (H'.upd G hS' hs ho) ho⟩,fun c2=>⟨plainId_quiet X.plain _,ih (m-1) (Nat.sub_lt hm0 Nat.one_pos) hj' (hu.st hi c2) le' H' hS'⟩⟩
  ·rw [List.length_map] at e;rw [e,List.take_length] at hu;exact hR _ F' b t hu le' (S'.letGo (it:=S) ((if_pos hm).trans hS) hZS (fun x ob e=>(Zp.one (ne_of_none hZS e)).trans e) hk s'.toks)
theorem ext_first (X:Extr C.M nm lp le B){c:Nat}(hA:Rm A (d+1))(G:GIt C F₀ Z g it L [S] items J sc₀ cenv)(hZS:Z S=none)(ha:∀ h:Heap,PIn F₀ h->h.IsGen a g)(hR:∀ s' F' m t,Utmost le is m->PLe F₀ F'->Sim C F' Z μ s'->R (.ok (.ret (.int m t))) s')(hn:is≠[])(hle:PLe F₀ F)(H:GAt C A.in1 μ F₀ Z g it L [S] (is.map .int) 0 F s)(hS:s.heap.get? S=some (lst #[] c)):codeAny C.M A (.builtin lp ⟨[.ref a,.none,.ref S],[]⟩) R s:=by
 have hm:S∈[S]:=List.mem_singleton.mpr rfl;refine codeAny_builtin X.entry ?_;rw [Around.under_plainId X.plain _];refine X.first hS fun E=>(H.next (A:=A.in1) G hA.hd (hA.in1).lim hle ha (fun x hx=>List.mem_singleton.mp hx▸⟨_,hS⟩) (Nat.zero_le _) (fun v x s' F' hx le' hv H' hsm=>⟨(hsm S hm).trans hS,?_⟩) fun e s' F' le' S' hsm=>absurd (List.eq_nil_of_length_eq_zero ((List.length_map ..).symm.trans e.symm)) hn);rw [List.getElem?_map] at hx;refine el12 (Option.map_eq_some_iff.mp hx) fun i hi e=>?_;rw [<-e] at hv;have hlt:0<is.length:=(List.getElem?_eq_some_iff.mp hi).1;exact Val.i_int hv fun tk=>⟨i,tk,rfl,fun h' c' hs ho=>⟨plainId_quiet X.plain _,ext_loop X hA G hZS ha hR (Nat.add_sub_of_le hlt) (Utmost.one X.refl hi) le' (H'.upd G ((hsm S hm).trans hS) hs ho) ho⟩⟩
end
theorem ext_max {w:World}:Extr (model prog w) "max" "max.loop" (·≤·) Builtin.«max.loop» := by
 have hname:(toString "max" ++ toString ".loop" : String) = "max.loop" := by decide
 refine ⟨PySem.F.entry_max_loop,PySem.F.plain_max_loop,Int.le_refl,fun _ _ _ a b=>Int.le_trans a b,fun {A E s S it b t c Q} hS h=>?_,fun {A E s S it c Q} hS h=>?_,fun {A E s a g Q} hg h=>?_⟩
 ·refine wpAny_bind (m:=seqItems? (.ref S)) (wpAny_seqItems hS rfl (wpAny_bind (m:=tryCatch (pyNext it) _) (wpAny_tryCatch (wpAny_mono (h _) (fun r s₁ hq=>hq.elim fun hS' hq=>?_) fun _ _ e=>e))))
  ·cases r with
   | none=>exact wpAny_bind (m:=updateSeq S _) (wpAny_updateSeq hS' rfl (wpAny_bind (wpAny_letGo (wpAny_pure (hq _ fun x ob hx e=>(Heap.get?_update_other _ _ (Ne.symm hx)).trans e)))))
   | some v =>
    refine el23 hq fun i u e h1 h2=>?_;rw [e];refine wpAny_bind (m:=tryCatch (holding [_,_] (richCompare .Gt (.int i u) (.int b t)>>=_)) _) (wpAny_tryCatch (wpAny_holding (wpAny_bind (PyProof.Rows.gt_int (a:=i) (b:=b) (t:=u) (u:=t) (wpAny_bind (wpAny_holding (wpAny_truthy_bool (wpAny_bind (wpAny_letGo (wpAny_pure ?_))))))))));rw [<-hname] at h1 h2;by_cases hc:i > b
    ·exact ifT (decide_eq_true hc) (wpAny_bind (m:=updateSeq S _) (wpAny_updateSeq hS' rfl (wpAny_bind (wpAny_letGo (wpAny_pure ((upd_at hS').elim fun c' ho=>h1 (Int.le_of_lt hc) _ c' (Heap.SameBut.update ..) ho))))))
    ·exact ifF (by rw [decide_eq_false hc];exact Bool.false_ne_true) (wpAny_bind (wpAny_letGo (wpAny_pure (h2 (Int.not_lt.mp hc)))))
 ·refine wpAny_bind (m:=seqItems? (.ref S)) (wpAny_seqItems hS rfl (wpAny_bind (m:=tryCatch (pyNext it) _) (wpAny_tryCatch (wpAny_mono (h _) (fun r s₁ hq=>hq.elim fun hS' hq=>?_) fun _ _ e=>e))))
  cases r with
  | none=>exact hq.elim
  | some v =>
   refine el22 hq fun i u e h1=>?_;rw [e];rw [<-hname] at h1;exact wpAny_bind (m:=updateSeq S _) (wpAny_updateSeq hS' rfl ((upd_at hS').elim fun c' ho=>wpAny_pure (h1 _ c' (Heap.SameBut.update ..) ho)))
 ·refine call_function_tree PySem.F.kind_max PySem.F.plain_max PySem.F.entry_max (PySem.F.args_max1 _) ?_;refine wpAny_bind (m:=Builtin.Builtins.bindParams "max" ["key", "default"] 0 ⟨[],[]⟩) (wpAny_of_eq (show Builtin.Builtins.bindParams "max" ["key", "default"] 0 ⟨[],[]⟩=pure [none,none] from rfl) ?_);refine wpAny_bind (wpAny_pure (wpAny_bind (wpAny_pyIter_gen hg (wpAny_bind (wpAny_newObj_type ?_ (by size_fits))))));rw [hname];exact wpAny_pure ⟨plainId_quiet PySem.F.plain_max_loop _,h⟩
theorem ext_min {w:World}:Extr (model prog w) "min" "min.loop" (· ≥ ·) Builtin.«min.loop» := by
 have hname:(toString "min" ++ toString ".loop" : String) = "min.loop" := by decide
 refine ⟨PySem.F.entry_min_loop,PySem.F.plain_min_loop,Int.le_refl,fun _ _ _ a b=>Int.le_trans b a,fun {A E s S it b t c Q} hS h=>?_,fun {A E s S it c Q} hS h=>?_,fun {A E s a g Q} hg h=>?_⟩
 ·refine wpAny_bind (m:=seqItems? (.ref S)) (wpAny_seqItems hS rfl (wpAny_bind (m:=tryCatch (pyNext it) _) (wpAny_tryCatch (wpAny_mono (h _) (fun r s₁ hq=>hq.elim fun hS' hq=>?_) fun _ _ e=>e))))
  ·cases r with
   | none=>exact wpAny_bind (m:=updateSeq S _) (wpAny_updateSeq hS' rfl (wpAny_bind (wpAny_letGo (wpAny_pure (hq _ fun x ob hx e=>(Heap.get?_update_other _ _ (Ne.symm hx)).trans e)))))
   | some v =>
    refine el23 hq fun i u e h1 h2=>?_;rw [e];refine wpAny_bind (m:=tryCatch (holding [_,_] (richCompare .Lt (.int i u) (.int b t)>>=_)) _) (wpAny_tryCatch (wpAny_holding (wpAny_bind (PyProof.Rows.lt_int (a:=i) (b:=b) (t:=u) (u:=t) (wpAny_bind (wpAny_holding (wpAny_truthy_bool (wpAny_bind (wpAny_letGo (wpAny_pure ?_))))))))));rw [<-hname] at h1 h2;by_cases hc:i<b
    ·exact ifT (decide_eq_true hc) (wpAny_bind (m:=updateSeq S _) (wpAny_updateSeq hS' rfl (wpAny_bind (wpAny_letGo (wpAny_pure ((upd_at hS').elim fun c' ho=>h1 (Int.le_of_lt hc) _ c' (Heap.SameBut.update ..) ho))))))
    ·exact ifF (by rw [decide_eq_false hc];exact Bool.false_ne_true) (wpAny_bind (wpAny_letGo (wpAny_pure (h2 (Int.not_lt.mp hc)))))
 ·refine wpAny_bind (m:=seqItems? (.ref S)) (wpAny_seqItems hS rfl (wpAny_bind (m:=tryCatch (pyNext it) _) (wpAny_tryCatch (wpAny_mono (h _) (fun r s₁ hq=>hq.elim fun hS' hq=>?_) fun _ _ e=>e))))
  cases r with
  | none=>exact hq.elim
  | some v =>
   refine el22 hq fun i u e h1=>?_;rw [e];rw [<-hname] at h1;exact wpAny_bind (m:=updateSeq S _) (wpAny_updateSeq hS' rfl ((upd_at hS').elim fun c' ho=>wpAny_pure (h1 _ c' (Heap.SameBut.update ..) ho)))
 ·refine call_function_tree PySem.F.kind_min PySem.F.plain_min PySem.F.entry_min (PySem.F.args_min1 _) ?_;refine wpAny_bind (m:=Builtin.Builtins.bindParams "min" ["key", "default"] 0 ⟨[],[]⟩) (wpAny_of_eq (show Builtin.Builtins.bindParams "min" ["key", "default"] 0 ⟨[],[]⟩=pure [none,none] from rfl) ?_);refine wpAny_bind (wpAny_pure (wpAny_bind (wpAny_pyIter_gen hg (wpAny_bind (wpAny_newObj_type ?_ (by size_fits))))));rw [hname];exact wpAny_pure ⟨plainId_quiet PySem.F.plain_min_loop _,h⟩
end
end
section
open PySem PySem.Calls PyProof.Rows
theorem mem_uniq {x y:O}(hn:(μ.map (·.1)).Nodup)(h1:(a,x)∈μ)(h2:(a,y)∈μ):x=y:=by
 induction μ with
 | nil=>cases h1
 | cons p r ih =>
  have hn:=List.nodup_cons.mp hn;have no:∀ {u v:O},(a,u)=p->(a,v)∈r->False:=fun q m=>hn.1 (show p.1∈_ from (congrArg (·.1) q:a=p.1)▸List.mem_map_of_mem (f:=(·.1)) m);exact (List.mem_cons.mp h1).elim (fun q=>(List.mem_cons.mp h2).elim (fun q2=>congrArg (·.2) (q.trans q2.symm)) fun q2=>(no q q2).elim) fun q=>(List.mem_cons.mp h2).elim (fun q2=>(no q2 q).elim) fun q2=>ih hn.2 q q2
section
theorem Sim.tabbed (S:Sim C F Z μ s){P:Addr}(hm:(P,O.tab)∈μ)(hx:Heap.ExtBut P s.heap h'){ps:Array Value}(hP:h'.get? P=some { cls:=.none,data:=.fields ps })(ht:TriplesOk ps.toList)(t:Nat) :
  Sim C F Z μ { s with heap:=h',toks:=t }:=by
 refine el03 (S.own _ _ hm) fun h1 h2 _=>?_;refine ⟨S.base,fun a o e=>hx a o (fun q=>by rw [q,h1] at e;cases e) (S.fz a o e),fun a o e=>hx a o (fun q=>by rw [q,h2] at e;cases e) (S.zz a o e),S.dis,fun a x hm'=>?_,S.nod,S.os,S.gens⟩;obtain ⟨g1,g2,ob,g3,g4⟩:=S.own a x hm';by_cases e:a=P
 ·subst e;have:x=O.tab:=mem_uniq S.nod.1 hm' hm;subst this;exact ⟨g1,g2,_,hP,ps,rfl,ht⟩
 ·exact ⟨g1,g2,ob,hx a ob e g3,g4⟩
theorem Sim.pushG (S:Sim C F Z μ s){x:GenState}(hx:x.bare=true):Sim C F Z μ { s with gens:=s.gens.push x }∧(∀ p∈C.gs,p.1≠s.gens.size) :=
 have lt:∀ p∈C.gs,p.1<s.gens.size:=fun p hp=>(Array.getElem?_eq_some_iff.mp (S.gens.2 p hp)).1
 ⟨⟨S.base,S.fz,S.zz,S.dis,S.own,S.nod,S.os,S.gens.1.push hx,fun p hp=>by
  rw [Array.getElem?_push,if_neg (Nat.ne_of_lt (lt p hp))];exact S.gens.2 p hp⟩,fun p hp=>Nat.ne_of_lt (lt p hp)⟩
theorem genexprCode_at {qualname:Str}{scope:Scope}{Q:Value->Shared->Prop}(hg:C.gen=false)(hT:∀ P∈C.tabs,(P,O.tab)∈μ)(R:EnvRel C F Z env ε)(S:Sim C F Z μ s)(S':Sim C F Z' μ s)(hQ:∀ code s',Sim C F Z' μ s'->(∀ a,Z' a=none->True)->s'.gens=s.gens->Q code s'):wpAny C.M A (genexprCode env pos qualname scope) Q (fun _ _=>False) s:=by
 obtain ⟨_,c,P,hc,hat,hP⟩:=R.blt.2 hg;have hm:=hT P hP;obtain ⟨h1,h2,ob,h3,ps,h4,h5⟩:=S.own _ _ hm;subst h4;obtain ⟨hcode,htab⟩:=hat s.heap ps S.keep h3 h5
 cases hf:codeAmong pos ps.toList with
 | some c'=>exact wpAny_genexprCode_hit hc hcode hf (hQ _ _ S' (fun _ _=>trivial) rfl)
 | none =>
  refine wpAny_genexprCodeX hc hcode htab hf fun c' h' tk hx hle hlt hcode' _ htab' _=>?_;obtain ⟨o,vs,file,tf,flags,tg,inF,text,tt,op,g1,g2,g3,g4,g5,g6,g7,g8,g9,g10,g11⟩:=hcode';exact hQ _ _ (S'.tabbed hm hx htab'.2 g10 tk) (fun _ _=>trivial) rfl
end
structure GNew (C:Cx)(F Z:PMap)(μ:Mem)(e:Expr)(items:List V)(sc₀:Scope)(a:Addr)(g:Nat)(it L:Addr)(J:Nat->Obj->Prop)(cenv:Env)(o oL:Obj)(s:Shared):Prop where
 git:GIt C F Z g it L [] items J sc₀ cenv
 sim:Sim C F (PSet (PSet Z it o) L oL) μ s
 j0:J 0 o
 dk:DictOk oL
 fr:s.gens[g]? = some (.fresh (.compStart e 0 (.ref it) .none cenv))
 isg:∀ h:Heap,PIn F h->h.IsGen a g
section
theorem gen_make {Q:Value->Shared->Prop}(hg:C.gen=false)(hk:sc₀.kind=.function)(h0:sc₀.names.lookup (".0" : Str)=some NameKind.local)(hnc:sc₀.names.all (fun y=>y.2 != .cell&&y.2 != .free)=true)(hco:sc₀.isCoroutine=false)(hs:∀ env x,genFold iter env x=pure x)(hA:Rm A d)(hsc:env.scope=sc)(R:EnvRel C F Z env ε)(S:Sim C F Z μ s){Post:List V->Mem->Prop}(h:cE C d sc ε μ iter fun w μ₁=>∃ P,cIter C d μ₁ w P∧(∀ Pt∈C.tabs,(Pt,O.tab)∈μ₁)∧∀ items,P items->Post items μ₁)(hQ:∀ (items:List V) (μ₁:Mem) (F':PMap) (s':Shared) (a:Addr) (g:Nat) (it L:Addr) (J:Nat->Obj->Prop) (cenv:Env) (o oL:Obj),Post items μ₁->PLe F F'->
   GNew C F' Z μ₁ (.GeneratorExp elt [⟨target,iter,ifs,0⟩] sc₀ pos) items sc₀ a g it L J cenv o oL s'->Q (.ref a) s') :
  wpAny C.M A (eval (.GeneratorExp elt [⟨target,iter,ifs,0⟩] sc₀ pos) env) Q (fun _ _=>False) s:=by
 have hcl:closureFor sc₀ env=pure []:=by
  have e:=closureFor_eq (sc₀:=sc₀) (env:=env) (fun x hx q=>by have:=List.all_eq_true.mp hnc x hx;rw [q] at this;simp at this);rw [e]
  have:∀ (names:List (Str×NameKind)) (acc:List (Str×Addr)),names.all (fun y=>y.2 != .cell&&y.2 != .free)=true->closL env.cells names acc=acc:=by
   intro names
   induction names with
   | nil=>intro acc _;rfl
   | cons y r ih =>
    intro acc q;obtain ⟨n,kd⟩:=y;rw [List.all_cons,Bool.and_eq_true_iff] at q;unfold closL
    have:(kd == NameKind.free)=false:=by
     have:=q.1;simp only [Bool.and_eq_true,bne_iff_ne,ne_eq] at this
     simpa using this.2
    rw [if_neg (by rw [this];decide)];exact ih acc q.2
  rw [this _ _ hnc]
 refine wpAny_GeneratorExp_make hco hcl (fun y hy q=>by have:=List.all_eq_true.mp hnc y hy;rw [q] at this;simp at this) h0 hk hA.lim ?_ (hs env);refine wpBot (h A env F Z s hA hsc R S) fun xv s₁ hq=>?_;obtain ⟨w,F₁,μ₁,⟨P,hit,hT,hP⟩,le₁,S₁,hw⟩:=hq;refine wpBot (hit A F₁ Z s₁ xv hA S₁ hw) fun itv s₂ hq=>?_;obtain ⟨it,items,J,F₂,o,e1,hpi,le₂,S₂,hz,hJ,hIt⟩:=hq;subst e1;have R₂:EnvRel C F₂ Z env ε:=R.mono (le₁.trans le₂);have lez:PLe Z (PSet Z it o):=PSet.le hz;refine ⟨S₂.lim,genexprCode_at hg hT R₂ (S₂.weakZ lez) S₂ fun code s₃ S₃ _ hgens=>?_⟩;refine el21 (C.bmod) fun bm ob BM=>?_;have BM':=BM.keeps S₃.keep;refine wpAny_builtinsFor (bm:=bm) (o:=ob) (by rw [R₂.glob];exact BM'.ns) BM'.name BM'.ne BM'.obj BM'.cls BM'.dict BM'.data ?_;intro h' hn hsb;refine el03 (fresh_none S₃) fun nF nZ nM=>?_;have S₄:=S₃.pushZ (o:={ cls:=.type "frame",data:=.dict #[] }) rfl;refine el34 (StrKeys.of_ns hn) fun oL es n hoL hdL hkL _=>?_;have S₅:=S₄.setZ (a:=s₃.heap.objs.size) (PSet.self ..) hsb hoL (s₃.toks+1+1+1);rw [PSet.twice] at S₅;refine el13 (Sim.pushF S₅ (o:={ cls:=.type "generator",data:=.fields #[.int s₃.gens.size 0,.str "<genexpr>" (s₃.toks+1),.str (env.qual ++ "<genexpr>") (s₃.toks+1+1)] }) rfl) fun F' le' hF' S₆=>?_;obtain ⟨S₇,hgs⟩:=S₆.pushG (x:=.fresh (.compStart (.GeneratorExp elt [⟨target,iter,ifs,0⟩] sc₀ pos) 0 (.ref it) .none (genEnv sc₀ [] s₃.heap.objs.size code builtinsNs env))) rfl
 have hLz:Z s₃.heap.objs.size=none:=by
  by_cases q:s₃.heap.objs.size=it
  ·rw [q];exact hz
  ·rw [PSet.ne _ _ q] at nZ;exact nZ
 have hLi:s₃.heap.objs.size≠it:=fun q=>by rw [q,PSet.self] at nZ;cases nZ
 refine hQ items μ₁ F' _ _ s₃.gens.size it s₃.heap.objs.size J (genEnv sc₀ [] s₃.heap.objs.size code builtinsNs env) o oL (hP items hpi) ((le₁.trans le₂).trans le') ⟨⟨?_,hz,hLz,hLi,by simp,by simp,rfl,rfl,R.glob,rfl,hk,hnc,hco,hgs⟩,S₇,hJ,⟨es,n,hdL,hkL⟩,Array.getElem?_push_size ..,fun hh hp=>⟨_,_,_,hp _ _ hF',rfl,rfl,rfl⟩⟩;exact ⟨hIt.shape,fun i x A s Q E o a1 a2 a3 a4 a5 a6=>hIt.item i x A s Q E o a1 (fun b p q=>a2 b p (le' b p q)) a3 a4 a5 fun v h' o' tk hv=>a6 v h' o' tk (Val.mono le' hv),fun i A s Q E o a1 a2=>hIt.done i A s Q E o a1 fun b p q=>a2 b p (le' b p q),hIt.self⟩
end
end
section
open PySem PySem.Calls PyProof.Rows
section
noncomputable def Turn (C:Cx)(d:Nat)(sc₀:Scope)(target:Expr)(ifs:List Expr)(elt:Expr)(μ:Mem)(items:List V)(p:V->Bool)(f:V->V):Prop :=
 ∀ g,∀ x∈items,∃ bs,cTgt (C.inGen g) sc₀ target (.v x) bs∧cIfs (C.inGen g) d sc₀ bs μ ifs fun b m=>b=p x∧m=μ∧(b=true->cE (C.inGen g) d sc₀ bs μ elt fun w m=>w=.v (f x)∧m=μ)
noncomputable def cGen (C:Cx)(d:Nat)(sc:Scope)(ε:Env1)(μ:Mem)(fe ge:Expr)(pos:Pos)(k:PostW):Prop:=cE C d sc ε μ (.Call fe [ge] [] pos) k
theorem cE_gn (h:cGen C d sc ε μ (.Name x px) (.GeneratorExp elt [⟨target,iter,ifs,0⟩] sc₀ gp) pos k):cE C d sc ε μ (.Call (.Name x px) [.GeneratorExp elt [⟨target,iter,ifs,0⟩] sc₀ gp] [] pos) k:=h
theorem gen_call {id:String}(hg:C.gen=false)(hev:∀ env,eval (.Call fe [.GeneratorExp elt [⟨target,iter,ifs,0⟩] sc₀ gp] [] pos) env=(eval fe env>>=fun f=>callWith pos f [] (backTo pos (starEach [.GeneratorExp elt [⟨target,iter,ifs,0⟩] sc₀ gp] env)) []))(hst:∀ env,starEach [.GeneratorExp elt [⟨target,iter,ifs,0⟩] sc₀ gp] env=(false,eval (.GeneratorExp elt [⟨target,iter,ifs,0⟩] sc₀ gp) env)::starEach [] env)(hk:sc₀.kind=.function)(h0:sc₀.names.lookup (".0" : Str)=some NameKind.local)(hnc:sc₀.names.all (fun y=>y.2 != .cell&&y.2 != .free)=true)(hco:sc₀.isCoroutine=false)(hs:∀ env x,genFold iter env x=pure x){Pt:List V->Mem->Prop}(use:∀ (A:Around) (items:List V) (μ₁:Mem) (F Z:PMap) (s:Shared) (a:Addr) (g:Nat) (it L:Addr) (J:Nat->Obj->Prop) (cenv:Env) (o oL:Obj),Rm A d->Pt items μ₁->
   GNew C F Z μ₁ (.GeneratorExp elt [⟨target,iter,ifs,0⟩] sc₀ gp) items sc₀ a g it L J cenv o oL s->wpAny C.M A (call (.builtin id) [.ref a]) (Post C Z k F) (fun _ _=>False) s)(h:cE C d sc ε μ fe fun fw μ₁=>fw=.v (.glob (.builtin id))∧cE C d sc ε μ₁ iter fun w μ₂=>∃ P,cIter C d μ₂ w P∧(∀ Pt∈C.tabs,(Pt,O.tab)∈μ₂)∧∀ items,P items->Pt items μ₂) :
  cGen C d sc ε μ fe (.GeneratorExp elt [⟨target,iter,ifs,0⟩] sc₀ gp) pos k:=fun A env F Z s hA hsc R S=>by
 rw [hev];refine wpAny_bind (wpBot (h A env F Z s hA hsc R S) fun v s₁ hq=>?_);obtain ⟨fw,F₁,μ₁,⟨hfw,h₁⟩,le₁,S₁,hv⟩:=hq;subst hfw
 cases hv
 refine callWith_at (C:=C) (Z:=Z) (.inr (.inl ⟨_,rfl⟩)) (by rw [hst];rfl) ?_;refine wpAny_items_cons ?_ (hst env);refine gen_make hg hk h0 hnc hco hs hA hsc (R.mono le₁) S₁ h₁ fun items μ₂ F₂ s₂ a g it L J cenv o oL hP le₂ N=>?_;refine wpAny_items_nil ⟨N.sim.kin,?_⟩;exact wpBot (use A items μ₂ F₂ Z s₂ a g it L J cenv o oL hA hP N) fun _ _ q=>q.trans (le₁.trans le₂)
theorem cGen_all (hg:C.gen=false)(hev:∀ env,eval (.Call fe [.GeneratorExp elt [⟨target,iter,ifs,0⟩] sc₀ gp] [] pos) env=(eval fe env>>=fun f=>callWith pos f [] (backTo pos (starEach [.GeneratorExp elt [⟨target,iter,ifs,0⟩] sc₀ gp] env)) []))(hst:∀ env,starEach [.GeneratorExp elt [⟨target,iter,ifs,0⟩] sc₀ gp] env=(false,eval (.GeneratorExp elt [⟨target,iter,ifs,0⟩] sc₀ gp) env)::starEach [] env)(hk:sc₀.kind=.function)(h0:sc₀.names.lookup (".0" : Str)=some NameKind.local)(hnc:sc₀.names.all (fun y=>y.2 != .cell&&y.2 != .free)=true)(hco:sc₀.isCoroutine=false)(hs:∀ env x,genFold iter env x=pure x)(h:cE C (d+3) sc ε μ fe fun fw μ₁=>fw=.v (.glob (.builtin "all"))∧cE C (d+3) sc ε μ₁ iter fun w μ₂=>∃ P,cIter C (d+3) μ₂ w P∧(∀ Pt∈C.tabs,(Pt,O.tab)∈μ₂)∧∀ items,P items->
   ∃ (p:V->Bool) (f:V->Bool),Turn C d sc₀ target ifs elt μ₂ items p (fun x=>.bool (f x))∧k (.v (.bool (((items.filter p).map f).all id))) μ₂) :
  cGen C (d+3) sc ε μ fe (.GeneratorExp elt [⟨target,iter,ifs,0⟩] sc₀ gp) pos k:=by
 refine gen_call hg hev hst hk h0 hnc hco hs (fun A items μ₁ F Z s a g it L J cenv o oL hA hP N=>?_) h
 (refine el22 hP fun p f turn hk'=>?_;try clear hP)
 refine call_function_tree PySem.F.kind_all PySem.F.plain_all PySem.F.entry_all (PySem.F.args_all1 _) ?_;unfold Builtin.«all»;refine wpAny_bind (m:=oneArg "all" _) (wpAny_pure ?_);refine wpAny_bind (wpAny_pyIter_gen (N.isg _ N.sim.fz) ?_)
 have hK:((items.filter p).map f).map V.bool=(items.filter p).map fun x=>.bool (f x):=by rw [List.map_map];rfl
 have H:GAt C A.in1 μ₁ F Z g it L [] (((items.filter p).map f).map V.bool) 0 F s:=GAt.fresh (d:=d) N.git (Rm.in1 (Rm.in1 hA)) hK (turn g) (by unfold gZ;rw [Zp.nil];exact N.sim) N.j0 N.dk N.fr;refine wpAny_pure ⟨plainId_quiet PySem.F.plain_all_loop _,all_loop (d:=d+2) hA N.git N.isg (fun s' F' le' S'=>?_) (Nat.zero_add _) (.refl _) H rfl⟩;exact ⟨_,F',μ₁,hk',le',S',.bool _⟩
theorem cGen_ext {nm lp:String}{le:Int->Int->Prop}{B:Builtin}(X:Extr C.M nm lp le B)(hg:C.gen=false)(hev:∀ env,eval (.Call fe [.GeneratorExp elt [⟨target,iter,ifs,0⟩] sc₀ gp] [] pos) env=(eval fe env>>=fun f=>callWith pos f [] (backTo pos (starEach [.GeneratorExp elt [⟨target,iter,ifs,0⟩] sc₀ gp] env)) []))(hst:∀ env,starEach [.GeneratorExp elt [⟨target,iter,ifs,0⟩] sc₀ gp] env=(false,eval (.GeneratorExp elt [⟨target,iter,ifs,0⟩] sc₀ gp) env)::starEach [] env)(hk:sc₀.kind=.function)(h0:sc₀.names.lookup (".0" : Str)=some NameKind.local)(hnc:sc₀.names.all (fun y=>y.2 != .cell&&y.2 != .free)=true)(hco:sc₀.isCoroutine=false)(hs:∀ env x,genFold iter env x=pure x)(h:cE C (d+3) sc ε μ fe fun fw μ₁=>fw=.v (.glob (.builtin nm))∧cE C (d+3) sc ε μ₁ iter fun w μ₂=>∃ P,cIter C (d+3) μ₂ w P∧(∀ Pt∈C.tabs,(Pt,O.tab)∈μ₂)∧∀ items,P items->
   ∃ (p:V->Bool) (f:V->Int),Turn C d sc₀ target ifs elt μ₂ items p (fun x=>.int (f x))∧items.filter p≠[]∧∀ m,Utmost le ((items.filter p).map f) m->k (.v (.int m)) μ₂) :
  cGen C (d+3) sc ε μ fe (.GeneratorExp elt [⟨target,iter,ifs,0⟩] sc₀ gp) pos k:=by
 refine gen_call hg hev hst hk h0 hnc hco hs (fun A items μ₁ F Z s a g it L J cenv o oL hA hP N=>el23 hP fun p f turn hne hk'=>X.call (N.isg _ N.sim.fz) ?_) h
 have hK:((items.filter p).map f).map V.int=(items.filter p).map fun x=>.int (f x):=by rw [List.map_map];rfl
 have nZ:=(fresh_none N.sim).2.1
 have n1:s.heap.objs.size≠L:=fun q=>by rw [q,PSet.self] at nZ;cases nZ
 rw [PSet.ne _ _ n1] at nZ
 have n2:s.heap.objs.size≠it:=fun q=>by rw [q,PSet.self] at nZ;cases nZ
 rw [PSet.ne _ _ n2] at nZ;have G':GIt C F Z g it L [s.heap.objs.size] items J sc₀ cenv:=⟨N.git.iter,N.git.zi,N.git.zl,N.git.ne,fun q=>n2 (List.mem_singleton.mp q).symm,fun q=>n1 (List.mem_singleton.mp q).symm,N.git.sc,N.git.lo,N.git.gl,N.git.bl,N.git.kd,N.git.nc,N.git.co,N.git.gs⟩;have hS:(s.heap.push (lst #[] 0)).get? s.heap.objs.size=some (lst #[] 0):=Heap.get?_push_size _ rfl;have S₁:=N.sim.pushZ (o:=lst #[] 0) rfl;rw [gZ.upd (s':={ s with heap:=s.heap.push (lst #[] 0) }) (s:=s) n1 n2 hS fun _ _=>rfl] at S₁;exact ext_first (d:=d+2) X hA G' nZ N.isg (fun s' F' m t hu le' S'=>⟨_,F',μ₁,hk' m hu,le',S',.int _ _⟩) (fun q=>hne (List.map_eq_nil_iff.mp q)) (.refl _) (GAt.fresh (d:=d) G' (Rm.in1 (Rm.in1 hA)) hK (turn g) S₁ N.j0 N.dk N.fr) hS
end
end
section
open PySem PySem.Calls PyProof.Rows
mutual
noncomputable def toD:V->PyData
 | .none=>.none
 | .bool b=>.bool b
 | .int i=>.int i
 | .str x=>.str x
 | .tup vs=>.tuple (toDs vs)
 | .list vs=>.list (toDs vs)
 | .glob _=>.dict []
 | .dict _=>.dict []
 | .set _=>.dict []
 | .inst _ _=>.dict []
 | .rng _ _=>.dict []
noncomputable def toDs:List V->List PyData
 | []=>[]
 | v::r=>toD v::toDs r
end
theorem toDs_map:∀ (vs:List V),toDs vs=vs.map toD:=fun vs=>List.rec rfl (fun v r ih=>congrArg (toD v::·) ih) vs
section
variable {h:Heap}
theorem Val.reads (hF:PIn F h){d:V}{v:Value}(q:(toD d).canLay0=true)(x:Val P F d v):∃ as,Reads h v (toD d) as :=
 Val.rec (motive_1:=fun d v _=>(toD d).canLay0=true->∃ as,Reads h v (toD d) as) (motive_2:=fun d v _=>PyData.canLayAll0 (toDs d)=true->∃ as,ReadsAll h v (toDs d) as) (motive_3:=fun _ _ _=>True) (motive_4:=fun _ _ _=>True)
  (fun _=>⟨_,.none⟩) (fun b _=>⟨_,.bool b⟩) (fun i t _=>⟨_,.int i t⟩) (fun x t _=>⟨_,.str x t⟩) (fun _ _ q=>(Bool.false_ne_true q).elim)
  (fun h1 _ r q=>(r q).elim fun _ ra=>⟨_,.tuple (hF _ _ h1) rfl rfl ra⟩) (fun h1 _ r q=>(r q).elim fun _ ra=>⟨_,.list (hF _ _ h1) rfl rfl ra⟩)
  (fun _ _ _ _ _ _ _ q=>(Bool.false_ne_true q).elim) (fun _ _ _ _ _ _ q=>(Bool.false_ne_true q).elim) (fun _ _ _ _ _ _ q=>(Bool.false_ne_true q).elim) (fun _ q=>(Bool.false_ne_true q).elim)
  (fun _=>⟨_,.nil⟩) (fun _ _ a b q=>have q:=Bool.and_eq_true_iff.mp q;(a q.1).elim fun _ ra=>(b q.2).elim fun _ rb=>⟨_,.cons ra rb⟩)
  trivial (fun _ _ _ _ _ _=>trivial) trivial (fun _ _ _ _ _=>trivial) x q
theorem Vals.reads (hF:PIn F h){d:List V}{v:List Value}(q:PyData.canLayAll0 (toDs d)=true)(x:Vals P F d v):∃ as,ReadsAll h v (toDs d) as :=
 Vals.rec (motive_1:=fun d v _=>(toD d).canLay0=true->∃ as,Reads h v (toD d) as) (motive_2:=fun d v _=>PyData.canLayAll0 (toDs d)=true->∃ as,ReadsAll h v (toDs d) as) (motive_3:=fun _ _ _=>True) (motive_4:=fun _ _ _=>True)
  (fun _=>⟨_,.none⟩) (fun b _=>⟨_,.bool b⟩) (fun i t _=>⟨_,.int i t⟩) (fun x t _=>⟨_,.str x t⟩) (fun _ _ q=>(Bool.false_ne_true q).elim)
  (fun h1 _ r q=>(r q).elim fun _ ra=>⟨_,.tuple (hF _ _ h1) rfl rfl ra⟩) (fun h1 _ r q=>(r q).elim fun _ ra=>⟨_,.list (hF _ _ h1) rfl rfl ra⟩)
  (fun _ _ _ _ _ _ _ q=>(Bool.false_ne_true q).elim) (fun _ _ _ _ _ _ q=>(Bool.false_ne_true q).elim) (fun _ _ _ _ _ _ q=>(Bool.false_ne_true q).elim) (fun _ q=>(Bool.false_ne_true q).elim)
  (fun _=>⟨_,.nil⟩) (fun _ _ a b q=>have q:=Bool.and_eq_true_iff.mp q;(a q.1).elim fun _ ra=>(b q.2).elim fun _ rb=>⟨_,.cons ra rb⟩)
  trivial (fun _ _ _ _ _ _=>trivial) trivial (fun _ _ _ _ _=>trivial) x q
end
section
theorem Rm.u64 (h:Rm A (d+4)):A.units+66<cLine:=by have:=h.un;lia
theorem v_eqD {a b:V}(ha:SeqAt.shaped (toD a)=true)(hb:SeqAt.shaped (toD b)=true)(h:k (.v (.bool (PyData.eqv (toD a) (toD b)))) μ):cV2 C (d+4) μ (.v a) (.v b) (compareOp .Eq) k:=fun A F Z s u v hA S hu hv=>by
 obtain ⟨as,ra⟩:=Val.reads S.fz (SeqAt.canLay_of_shaped ha) hu;obtain ⟨bs,rb⟩:=Val.reads S.fz (SeqAt.canLay_of_shaped hb) hv;exact eq_dataH ra rb ha hb (by have:=hA.u64;lia) ⟨_,F,μ,h,.refl _,S,.bool _⟩
theorem v_neD {a b:V}(ha:SeqAt.shaped (toD a)=true)(hb:SeqAt.shaped (toD b)=true)(h:k (.v (.bool (!PyData.eqv (toD a) (toD b)))) μ):cV2 C (d+4) μ (.v a) (.v b) (compareOp .NotEq) k:=fun A F Z s u v hA S hu hv=>by
 obtain ⟨as,ra⟩:=Val.reads S.fz (SeqAt.canLay_of_shaped ha) hu;obtain ⟨bs,rb⟩:=Val.reads S.fz (SeqAt.canLay_of_shaped hb) hv;exact ne_dataH ra rb ha hb (by have:=hA.u64;lia) ⟨_,F,μ,h,.refl _,S,.bool _⟩
theorem WsAt.vals {vs:List V}{us:List Value}(h:WsAt P F (vs.map .v) us):Vals P F vs us:=Vals.of (frozen_map vs) h
theorem has_reads {x:W}{vs:List V}{u:Value}(S:Sim C F Z μ s)(hH:Has μ x (.list (vs.map .v)))(hw:WAt C.P F x u)(hc:PyData.canLayAll0 (toDs vs)=true):∃ as,Reads s.heap u (.list (toDs vs)) as:=by
 cases x with
 | l a =>
  refine WAt.i_l hw ?_;obtain ⟨_,_,ob,h3,ws,n,h4,h5⟩:=S.own _ _ hH;obtain ⟨as,r⟩:=Vals.reads S.fz hc (WsAt.vals h5);subst h4;exact ⟨_,.list h3 rfl rfl r⟩
 | v dd =>
  cases dd with
  | list ds =>
   have e:vs.map W.v=ds.map W.v:=by
    have:O.list (vs.map .v)=O.list (ds.map .v):=hH;injection this
   have e2:vs=ds:=by
    have hi:Function.Injective W.v:=fun a b q=>by injection q
    exact (List.map_inj_right (fun x y q=>by injection q)).mp e
   subst e2;exact Val.reads (d:=.list vs) S.fz hc hw
  | _=>first | exact hH.elim | cases hH
theorem any_toDs {vs:List V}{q:PyData}:((toDs vs).any fun y=>PyData.eqv y q)=vs.any fun y=>PyData.eqv (toD y) q:=by
 rw [toDs_map,List.any_map];rfl
theorem v_inL {x:W}{vs:List V}{a:V}(hH:Has μ x (.list (vs.map .v)))(hc:PyData.canLayAll0 (toDs vs)=true)(ha:SeqAt.shaped (toD a)=true)(h:k (.v (.bool (vs.any fun y=>PyData.eqv (toD y) (toD a)))) μ) :
  cV2 C (d+4) μ (.v a) x (compareOp .In) k:=fun A F Z s u v hA S hu hv=>by
 obtain ⟨as,ra⟩:=Val.reads S.fz (SeqAt.canLay_of_shaped ha) hu;obtain ⟨bs,rb⟩:=has_reads S hH hv hc;exact SeqAt.in_list_reads rb ra hc (SeqAt.canLay_of_shaped ha) (PyProof.Rows.room_in_shaped ha (by have:=hA.u64;lia)) (by rw [any_toDs];exact ⟨_,F,μ,h,.refl _,S,.bool _⟩)
theorem v_notInL {x:W}{vs:List V}{a:V}(hH:Has μ x (.list (vs.map .v)))(hc:PyData.canLayAll0 (toDs vs)=true)(ha:SeqAt.shaped (toD a)=true)(h:k (.v (.bool (!vs.any fun y=>PyData.eqv (toD y) (toD a)))) μ) :
  cV2 C (d+4) μ (.v a) x (compareOp .NotIn) k:=fun A F Z s u v hA S hu hv=>by
 obtain ⟨as,ra⟩:=Val.reads S.fz (SeqAt.canLay_of_shaped ha) hu;obtain ⟨bs,rb⟩:=has_reads S hH hv hc;exact SeqAt.notIn_list_reads rb ra hc (SeqAt.canLay_of_shaped ha) (PyProof.Rows.room_in_shaped ha (by have:=hA.u64;lia)) (by rw [any_toDs];exact ⟨_,F,μ,h,.refl _,S,.bool _⟩)
end
theorem eqvAll_map {α:Type}[DecidableEq α]{f:α->PyData}(hf:∀ x y,PyData.eqv (f x) (f y)=decide (x=y))(xs:List α):∀ (ys:List α),PyData.eqvAll (xs.map f) (ys.map f)=decide (xs=ys):=by
 induction xs with
 | nil=>intro ys;cases ys<;>rfl
 | cons x xs ih =>
  intro ys
  cases ys with
  | nil=>rfl
  | cons y ys =>
   show (PyData.eqv (f x) (f y)&&PyData.eqvAll (xs.map f) (ys.map f))=_;rw [hf,ih ys,<-Bool.decide_and];exact decide_eq_decide.mpr ⟨fun h=>by rw [h.1,h.2],fun h=>by injection h with a b;exact ⟨a,b⟩⟩
theorem canLayAll_map {α:Type}{f:α->PyData}:∀ (xs:List α),(∀ x∈xs,(f x).canLay0=true)->PyData.canLayAll0 (xs.map f)=true
 | [],_=>rfl
 | x::xs,h=>by
  simp only [List.map_cons,PyData.canLayAll0,h x (.head _),canLayAll_map xs fun y hy=>h y (.tail _ hy),Bool.and_self]
theorem depthAll_map {α:Type}{f:α->PyData}:∀ (xs:List α),(∀ x∈xs,(f x).depth≤n)->PyData.depthAll (xs.map f)≤n
 | [],_=>Nat.zero_le _
 | x::xs,h=>by
  simp only [List.map_cons,PyData.depthAll];exact Nat.max_le.mpr ⟨h x (.head _),depthAll_map xs fun y hy=>h y (.tail _ hy)⟩
noncomputable def sOk (x:Str):Bool:=(PyData.str x).canLay0
theorem toD_tup {vs:List V}:toD (.tup vs)=.tuple (vs.map toD):=congrArg PyData.tuple (toDs_map vs)
theorem toD_list {vs:List V}:toD (.list vs)=.list (vs.map toD):=congrArg PyData.list (toDs_map vs)
theorem eqv_str (x y:Str):PyData.eqv (.str x) (.str y)=decide (x=y):=by
 simp only [PyData.eqv];by_cases h:x=y<;>simp [h]
theorem map_toD_str (xs:List Str):(xs.map V.str).map toD=xs.map PyData.str:=by rw [List.map_map];rfl
theorem eqv_strs (xs ys:List Str):PyData.eqv (toD (.list (xs.map .str))) (toD (.list (ys.map .str)))=decide (xs=ys):=by
 rw [toD_list,toD_list,map_toD_str,map_toD_str];simp only [PyData.eqv];exact eqvAll_map eqv_str xs ys
theorem eqv_stup (xs ys:List Str):PyData.eqv (toD (.tup (xs.map .str))) (toD (.tup (ys.map .str)))=decide (xs=ys):=by
 rw [toD_tup,toD_tup,map_toD_str,map_toD_str];simp only [PyData.eqv];exact eqvAll_map eqv_str xs ys
theorem sh_str (h:sOk x=true):SeqAt.shaped (toD (.str x))=true:=by
 unfold SeqAt.shaped;rw [Bool.and_eq_true_iff];exact ⟨h,by show decide ((PyData.str x).depth≤_)=true;simp [PyData.depth]⟩
theorem sh_strs {xs:List Str}(h:∀ x∈xs,sOk x=true):SeqAt.shaped (toD (.list (xs.map .str)))=true:=by
 unfold SeqAt.shaped;rw [Bool.and_eq_true_iff,toD_list,map_toD_str];refine ⟨by simp only [PyData.canLay0];exact canLayAll_map xs h,decide_eq_true ?_⟩
 have:=depthAll_map (f:=PyData.str) (n:=0) xs fun x _=>by simp [PyData.depth]
 simp only [PyData.depth];lia
theorem dp_stup (x:List Str):(toD (.tup (x.map .str))).depth≤1:=by
 rw [toD_tup,map_toD_str]
 have:=depthAll_map (f:=PyData.str) (n:=0) x fun x _=>by simp [PyData.depth]
 simp only [PyData.depth];lia
theorem cl_stup {x:List Str}(h:∀ y∈x,sOk y=true):(toD (.tup (x.map .str))).canLay0=true:=by
 rw [toD_tup,map_toD_str];simp only [PyData.canLay0];exact canLayAll_map x h
theorem sh_stup {x:List Str}(h:∀ y∈x,sOk y=true):SeqAt.shaped (toD (.tup (x.map .str)))=true:=by
 unfold SeqAt.shaped;rw [Bool.and_eq_true_iff];exact ⟨cl_stup h,decide_eq_true (Nat.le_trans (dp_stup x) (by decide))⟩
theorem cl_toDs {α:Type}{f:α->V}{xs:List α}(h:∀ x∈xs,SeqAt.shaped (toD (f x))=true):PyData.canLayAll0 (toDs (xs.map f))=true:=by
 rw [toDs_map,List.map_map];exact canLayAll_map xs fun x hx=>SeqAt.canLay_of_shaped (h x hx)
theorem sOk_N:sOk tN=true:=by decide +kernel
end
section
open PySem PySem.Calls PyProof.Rows Builtin
section
theorem cCode.mono {fv:Value}(h:cCode C d μ fv xs kws k)(hk:∀ x m,k x m->k' x m):cCode C d μ fv xs kws k':=fun A F Z s vs kvs a b c e =>
 codeAny_mono (h A F Z s vs kvs a b c e) fun r s' q=>by
  cases r with
  | error _=>exact q
  | ok f =>
   cases f with
   | ret v=>obtain ⟨x,F',μ',q,r1,r2,r3⟩:=q;exact ⟨x,F',μ',hk _ _ q,r1,r2,r3⟩
   | _=>exact q
theorem cCall.deep {fv:Value}{d':Nat}(h:cCall C d' μ fv xs kws k)(hd:d'≤d):cCall C d μ fv xs kws k:=fun A F Z s vs kvs a=>h A F Z s vs kvs (a.mono hd)
theorem cCode.deep {fv:Value}{d':Nat}(h:cCode C d' μ fv xs kws k)(hd:d'≤d):cCode C d μ fv xs kws k:=fun A F Z s vs kvs a=>h A F Z s vs kvs (a.mono hd)
noncomputable abbrev Cx.noGen (C:Cx):Cx:={ C with gen:=false }
theorem cCall.noGen {fv:Value}(h:cCall C.noGen d μ fv xs kws k):cCall C d μ fv xs kws k:=fun A F Z s vs kvs a S hv hkv =>
 wpBot (h A F Z s vs kvs a ⟨S.base,S.fz,S.zz,S.dis,S.own,S.nod,S.os,S.gens⟩ hv hkv) fun _ _ ⟨x,F',μ',q,le,S',hw⟩=>⟨x,F',μ',q,le,⟨S'.base,S'.fz,S'.zz,S'.dis,S'.own,S'.nod,S'.os,S'.gens⟩,hw⟩
theorem t_none (h:kb false μ):cB1 C d μ (.v .none) truthy kb:=fun A F Z s a hA S hv=>by
 refine Val.i_none hv ?_;exact PyProof.Rows.truthy_none ⟨F,μ,h,.refl _,S⟩
theorem t_tup {vs:List V}(hz:vs.length≤100000)(h:kb (!vs.isEmpty) μ):cB1 C d μ (.v (.tup vs)) truthy kb:=fun A F Z s a hA S hv=>by
 refine Val.i_tup hv fun b ws n h1 h2=>?_;have e:=h2.toList;refine PyProof.Rows.truthy_tuple (items:=ws) ⟨_,S.fz _ _ h1,rfl,_,rfl⟩ (by rw [Array.length_toList] at e;lia) ⟨F,μ,?_,.refl _,S.tok _⟩
 have:ws.isEmpty=vs.isEmpty:=by
  rw [<-Array.isEmpty_toList]
  cases vs with
  | nil=>cases hw:ws.toList with
   | nil=>rfl
   | cons x r=>rw [hw] at e;cases e
  | cons y r=>cases hw:ws.toList with
   | nil=>rw [hw] at e;cases e
   | cons x r=>rfl
 rw [this];exact h
theorem tup_list {vs:List V}(hz:vs.length≤100000)(h:k (.v (.tup vs)) μ):cCall C d μ (.type "tuple") [.v (.list vs)] [] k:=fun A F Z s us kvs hA S hv hkv=>by
 refine KwAt.i_nil hkv ?_;refine WsAt.i1 hv fun u hu=>?_;refine Val.i_list hu fun a ws n h1 h2=>?_;refine call_tuple_list (l:=a) (items:=ws) ⟨_,S.fz _ _ h1,rfl,_,rfl⟩ (fun h' hk=>?_) (by have:=h2.toList;rw [Array.length_toList] at this;unfold sizeLine;lia);have S₁:=S.ext hk s.toks;refine el13 (Sim.pushF S₁ (o:={ cls:=.type "tuple",data:=.seq ws }) rfl) fun F' le e S₂=>?_;exact ⟨_,F',μ,h,le,S₂,.tup e (Vals.mono le h2)⟩
theorem len_inst {f:Addr}{fs:List (Str×V)}(hs:PySem.W.findIn C.K (.ref c) "__len__" = some (some (.ref f)))(hf:PySem.W.typeIn C.K (.ref f)=some (.type "function"))(h:cCall C d μ (.ref f) [.v (.inst c fs)] [] fun w μ₁=>∃ n:Int,w=.v (.int n)∧0≤n∧n<100000∧k (.v (.int n)) μ₁):cCall C (d+1) μ (.builtin "len") [.v (.inst c fs)] [] k:=fun A F Z s us kvs hA S hv hkv=>by
 refine KwAt.i_nil hkv ?_;refine WsAt.i1 hv fun u hu=>?_;refine Val.i_inst hu fun _ _ _ _ _ h1 h2 h3 h4 h5=>?_;refine Calls.call_function_entry kind_len plain_len entry_len (args_len1 _) ?_;unfold Builtin.«len»;refine wpAny_bind (m:=oneArg "len" _) (wpAny_pure ?_);refine wpAny_bind (m:=callSpecial? (.ref _) (Str.ofString "__len__")) (PySem.W.special_fn S.kin (S.inst h1 h2) hs hf (wpBot (h A.in1 F Z s _ _ hA.in1 S (.cons (Val.inst h1 h2 h3 h4 h5) .nil) .nil) fun r s' hr=>?_));obtain ⟨w,F',μ',⟨n,e,hn,hn2,hk⟩,le,S',hw⟩:=hr;subst e;refine Val.i_int hw fun _=>?_;refine wpAny_bind (wpAny_holding (wpAny_pure ?_));refine wpAny_bind (wpAny_letGo ?_);show wpAny _ _ (if n<0 then _ else _) _ _ _;rw [if_neg (by lia)];show wpAny _ _ (if n ≥ 2 ^ 63 then _ else _) _ _ _;rw [if_neg (by lia)];exact wpAny_bind (wpAny_mkInt (wpAny_pure ⟨_,rfl,.v (.int n),F',μ',hk,le,S'.tok _,.int _ _⟩))
end
end
section
open PySem PySem.Calls PyProof.Rows Builtin
section
theorem cSl_mk {v:Expr}{p:Pos}(ht:∀ o r,letTemporaryGo v o r=pure ())(h:cE C d sc ε μ v fun w μ₁=>∃ a items vs,w=.v (.glob (.ref a))∧C.B.IsList a items∧Vals C.P (fun _=>none) vs items.toList∧items.size≤100000 ∧
  cE C d sc ε μ₁ e fun u μ₂=>∃ b:Nat,u=.v (.int b)∧k (.v (.list (vs.take b))) μ₂):cE C d sc ε μ (.Subscript v (.Slice none (some e) none p) pos) k:=fun A env F Z s hA hs R S=>by
 refine wpAny_Subscript_list_slice (wpBot (h A env F Z s hA hs R S) fun o s₁ ⟨w,F₁,μ₁,⟨a,items,vs,hw,hl,hvs,hz,h₂⟩,le₁,S₁,hv⟩=>?_) ht;subst hw
 cases hv
 rw [show evalPart (none:Option Expr) env=pure .none from rfl];refine wpAny_pure ?_;show wpAny _ A (eval e env) _ _ _;refine wpBot (h₂ A env F₁ Z s₁ hA hs (R.mono le₁) S₁) fun u s₂ hq=>?_;obtain ⟨w,F₂,μ₂,⟨b,hw,hk⟩,le₂,S₂,hu⟩:=hq;subst hw;refine Val.i_int hu fun tk=>?_;refine ⟨a,items,none,some (b:Int),rfl,?_,by unfold sizeLine;lia,.none,.int _ _,?_⟩
 ·(refine el13 hl fun o ho hc qr=>?_;try clear hl;obtain ⟨n,hd⟩:=qr)
  exact ⟨o,S₂.keep _ _ ho,hc,n,hd⟩
 have S₃:=S₂.ext (h':=s₂.heap.push { cls:=.type "slice",data:=.fields #[.none,.int (b:Int) tk,.none] }) (fun _ _ e=>Heap.get?_push_of_some _ e) s₂.toks;refine el13 (Sim.pushF S₃ (o:={ cls:=.type "list",data:=.seq (slicePick items none (some (b:Int)) none) }) rfl) fun F' le e S₄=>?_;rw [Heap.size_push] at e;refine ⟨_,F',μ₂,hk,(le₁.trans le₂).trans le,S₄,.list e ?_⟩;rw [slicePick_upto']
 have tk2:∀ {n:Nat}{ds:List V}{us:List Value},Vals C.P (fun _=>none) ds us->Vals C.P F' (ds.take n) (us.take n):=fun {n ds us} q=>by
  induction n generalizing ds us with
  | zero=>rw [List.take_zero,List.take_zero];exact .nil
  | succ n ih=>cases q with
   | nil=>exact .nil
   | cons a b=>exact .cons (Val.mono (fun _ _ q=>by cases q) a) (ih b)
 exact tk2 hvs
theorem cE_listSt (hk:sc₀.kind=.function)(hn:decide (sc₀.names.map (·.1)).Nodup=true)(hfree:(sc₀.names.all fun x=>x.2 != .free||(sc.names.lookup x.1 == some .cell||sc.names.lookup x.1 == some .free))=true)(hs:∀ env x,foldedSetIterable iter env x=pure x)(hx:sc₀.names.lookup x=some .local∨sc₀.names.lookup x=some .cell)(h:cE C d sc ε μ iter fun w μ₁=>∃ (n:Nat),w=.v (.rng 0 n)∧n<1000∧∃ (M:Nat->Mem) (g:Nat->V),M 0=μ₁ ∧
   (∀ i,i<n->∀ acc L,cE C d (relS sc₀ sc) ((x,.v (.int i))::dropN sc₀ ε) ((acc,L)::M i) elt fun w m=>w=.v (g i)∧m=(acc,L)::M (i+1))∧k (.v (.list ((List.range n).map g))) (M n)) :
  cE C d sc ε μ (.ListComp elt [⟨.Name x px,iter,[],0⟩] sc₀ pos) k:=by
 refine cE.fzR (cE_comp (compL_ok hk (of_decide_eq_true hn) hfree hs) (fun env=>rfl) ?_);refine cE.mono h (fun w μ₁ hh=>?_);obtain ⟨n,rfl,hn2,M,g,hM,turn,hk'⟩:=hh;refine ⟨_,it_rng (by decide) (by decide) (by lia) (by lia),fun items hpi=>?_⟩;subst hpi;refine fun acc=>⟨fun i m=>m=(acc,.list (((List.range i).map g).map .v))::M i,by show _=_::M 0;rw [hM];rfl,fun i y μ' hx' hm=>?_,fun μ' hm=>?_⟩
 ·subst hm;obtain ⟨hi,rfl⟩:=rngV_get hx'
  have hi':i<n:=by lia
  refine ⟨_,tgt_name hx,ifs_nil ⟨fun _=>u_list ?_,fun q=>by cases q⟩⟩
  have e:(0:Int)+(i:Int)=i:=by lia
  rw [e];refine cE.mono (turn i hi' acc _) fun w m hq=>?_;obtain ⟨hw,hm⟩:=hq;subst hw;subst hm;refine v_append .here (by simp only [List.length_map,List.length_range];lia) ?_;show _=_;rw [List.range_succ];simp
 ·subst hm
  have e:(rngV 0 (n:Int)).length=n:=by unfold rngV;simp
  rw [e];exact ⟨_,.v (.list ((List.range n).map g)),M n,fz_obj (.head _) (.list (frozen_map _)) .here (FrzT.refl _),.put,hk'⟩
end
noncomputable def gsM {ι:Type}(ad:ι->Addr)(ks:ι->List Key)(L:List ι):Mem:=L.map fun i=>(ad i,O.set (ks i))
theorem UpdAt.app {x y:O}{r r':Mem}(h:UpdAt a x y r r'):∀ (l:Mem),UpdAt a x y (l++r) (l++r')
 | []=>h
 | _::l=>.there (UpdAt.app h l)
theorem UpdAt.gs {ι:Type}[DecidableEq ι]{ad:ι->Addr}{ks:ι->List Key}{i:ι}{new:List Key}{r:Mem}:∀ {L:List ι},L.Nodup->i∈L->UpdAt (ad i) (.set (ks i)) (.set new) (gsM ad ks L++r) (gsM ad (fun x=>if x=i then new else ks x) L++r)
 | j::L,hn,hi=>by
  obtain ⟨h1,h2⟩:=List.nodup_cons.mp hn;by_cases e:j=i
  ·subst e
   have:L.map (fun x=>(ad x,O.set (if x=j then new else ks x)))=L.map fun x=>(ad x,O.set (ks x)):=List.map_congr_left fun x hx=>by
    have:x≠j:=fun q=>h1 (q▸hx);simp [this]
   show UpdAt _ _ _ ((ad j,O.set (ks j))::(L.map _++r)) ((ad j,O.set (if j=j then new else ks j))::(L.map (fun x=>(ad x,O.set (if x=j then new else ks x)))++r));rw [this,if_pos rfl];exact .here
  ·show UpdAt _ _ _ ((ad j,O.set (ks j))::(L.map _++r)) ((ad j,O.set (if j=i then new else ks j))::(L.map (fun x=>(ad x,O.set (if x=i then new else ks x)))++r));rw [if_neg e];refine .there (UpdAt.gs h2 ?_)
   rcases List.mem_cons.mp hi with q | q
   ·exact absurd q.symm e
   ·exact q
theorem mem_gs {ι:Type}{ad:ι->Addr}{ks:ι->List Key}{i:ι}{L:List ι}{r:Mem}(h:i∈L):(ad i,O.set (ks i))∈gsM ad ks L++r:=List.mem_append_left _ (List.mem_map_of_mem (f:=fun i=>(ad i,O.set (ks i))) h)
theorem Fz.trans {ρ ρ':W->W->Prop}{μ'':Mem}(h:Fz C ρ μ μ')(h':Fz C ρ' μ' μ''):Fz C (fun w w''=>∃ w',ρ w w'∧ρ' w' w'') μ μ'':=fun F Z s S=>by
 refine el13 (h F Z s S) fun F₁ le₁ S₁ q₁=>?_;refine el13 (h' F₁ Z s S₁) fun F₂ le₂ S₂ q₂=>?_;exact ⟨F₂,le₁.trans le₂,S₂,fun w w'' v ⟨w',a,b⟩ hw=>q₂ _ _ _ b (q₁ _ _ _ a hw)⟩
theorem Fz.imp {ρ ρ':W->W->Prop}(h:Fz C ρ μ μ')(hi:∀ w w',ρ' w w'->ρ w w'):Fz C ρ' μ μ':=fun F Z s S=>by
 refine el13 (h F Z s S) fun F₁ le₁ S₁ q₁=>?_;exact ⟨F₁,le₁,S₁,fun w w' v a hw=>q₁ _ _ _ (hi _ _ a) hw⟩
theorem fz_gs {ι:Type}[DecidableEq ι]{K:ι->Key}{ad:ι->Addr}{ks:ι->List Key}{dom:List ι}{r:Mem}:∀ (L:List ι),
  Fz C (fun w w'=>w=w') (gsM ad ks L++(D,.dict (dom.map fun i=>(K i,if i∈L then W.l (ad i) else W.v (.set (ks i)))))::r) ((D,.dict (dom.map fun i=>(K i,W.v (.set (ks i)))))::r)
 | []=>by simpa [gsM] using Fz.refl
 | j::L=>by
  have h1:Fz C (FrzW (ad j) (.set (ks j))) (gsM ad ks (j::L)++(D,.dict (dom.map fun i=>(K i,if i∈j::L then W.l (ad i) else W.v (.set (ks i)))))::r)
    (gsM ad ks L++(D,.dict (dom.map fun i=>(K i,if i∈L then W.l (ad i) else W.v (.set (ks i)))))::r):=by
   refine fz_obj (o:=.set (ks j)) (.head _) .set .here (FrzT.append (FrzT.refl _) (.cons (.dict ?_) (FrzT.refl _)))
   induction dom with
   | nil=>exact .nil
   | cons x dom ih =>
    refine .cons ?_ ih;by_cases e1:x∈L
    ·rw [if_pos e1,if_pos (.tail _ e1)];exact .same _
    ·rw [if_neg e1];by_cases e2:x=j
     ·subst e2;rw [if_pos (.head _)];exact .put
     ·rw [if_neg (by simp [e1,e2])];exact .same _
  exact (h1.trans (fz_gs L)).imp fun w w' q=>⟨w,.same _,q⟩
section
theorem gs_ext {ι:Type}[DecidableEq ι]{K:ι->Key}{ad:ι->Addr}{ks:ι->List Key}{L:List ι}{i:ι}{l:List Key}(hout:i∉L) :
  gsM (fun x=>if x=i then a else ad x) (fun x=>if x=i then l else ks x) (L++[i]).reverse=(a,O.set l)::gsM ad ks L.reverse∧(L++[i]).map (fun x=>(K x,W.l (if x=i then a else ad x)))=L.map (fun x=>(K x,W.l (ad x)))++[(K i,W.l a)]:=by
 have ne:∀ {x},x∈L->x≠i:=fun hx q=>hout (q▸hx);rw [List.reverse_append,List.map_append];refine ⟨?_,?_⟩
 ·show ((if i=i then a else ad i),O.set (if i=i then l else ks i))::gsM _ _ L.reverse=_;rw [if_pos rfl,if_pos rfl];exact congrArg _ (List.map_congr_left fun x hx=>by dsimp only;rw [if_neg (ne (List.mem_reverse.mp hx)),if_neg (ne (List.mem_reverse.mp hx))])
 ·show _++[(K i,W.l (if i=i then a else ad i))]=_;rw [if_pos rfl];exact congrArg (·++_) (List.map_congr_left fun x hx=>by rw [if_neg (ne hx)])
abbrev DictG (C:Cx)(d:Nat)(sc₀ sc:Scope)(ε:Env1)(μ₁:Mem)(target kx vx:Expr)(items:List V)(ι:Type)(k:PostW):Prop :=
 ∃ (L:List ι) (K:ι->Key) (R:ι->List Key->Prop) (κ:Nat),(κ≠2∧(∀ i,(K i).kind=κ)∧∀ i∈L,∀ j∈L,K i=K j->i=j)∧items=L.map (fun i=>(K i).val)∧L.Nodup∧L.length≤10000 ∧
   (∀ i∈L,∃ bs,cTgt C sc₀ target (.v (K i).val) bs∧∀ m,cE C d (relS sc₀ sc) (bs++dropN sc₀ ε) m kx fun w m'=>w=.v (K i).val∧m'=m ∧
    cE C d (relS sc₀ sc) (bs++dropN sc₀ ε) m vx fun w m'=>∃ a l,w=.l a∧m'=(a,.set l)::m∧R i l) ∧
   ∀ D ad ks,(∀ i∈L,R i (ks i))->k (.l D) (gsM ad ks L.reverse++(D,.dict (L.map fun i=>(K i,W.l (ad i))))::μ₁)
inductive DgI {ι:Type}(μ₁:Mem) (K:ι->Key) (R:ι->List Key->Prop) (acc:Addr) (L:List ι) (m:Mem):Prop
 | mk (ad:ι->Addr) (ks:ι->List Key) (hR:∀ i∈L,R i (ks i)) (e:m=gsM ad ks L.reverse++(acc,.dict (L.map fun i=>(K i,W.l (ad i))))::μ₁):DgI μ₁ K R acc L m
theorem DgI.ext {ι:Type}[DecidableEq ι]{K:ι->Key}{R:ι->List Key->Prop}{acc:Addr}{L:List ι}{ad:ι->Addr}{ks:ι->List Key}{i:ι}{l:List Key}(hR:∀ i∈L,R i (ks i))(hout:i∉L)(hRl:R i l) :
  DgI μ₁ K R acc (L++[i]) ((a,.set l)::(gsM ad ks L.reverse++(acc,.dict (L.map (fun i=>(K i,W.l (ad i)))++[(K i,W.l a)]))::μ₁)):=by
 have g:=gs_ext (K:=K) (ad:=ad) (ks:=ks) (a:=a) (l:=l) hout;refine ⟨fun x=>if x=i then a else ad x,fun x=>if x=i then l else ks x,fun x hx=>?_,by rw [g.1,g.2];rfl⟩;by_cases e:x=i
 ·rw [e,if_pos rfl];exact hRl
 ·rw [if_neg e];exact (List.mem_append.mp hx).elim (hR x) fun q=>absurd (List.mem_singleton.mp q) e
theorem nod_out {α:Type}{L:List α}{t:Nat}{i:α}(hn:L.Nodup)(hi:L[t]? = some i):i∉L.take t:=fun h=>by
 rw [<-List.take_append_drop t L] at hn;refine (List.nodup_append.mp hn).2.2 i h i ?_ rfl;rw [List.drop_eq_getElem_cons (List.getElem?_eq_some_iff.mp hi).1,(List.getElem?_eq_some_iff.mp hi).2];exact .head _
theorem dictG_items {ι:Type}[DecidableEq ι]{items:List V}(h:DictG C d sc₀ sc ε μ target kx vx items ι k):cItems C d sc₀ sc ε μ target [] (emitD kx vx) (.dict []) items fun a μ'=>k (.l a) μ':=fun acc=>h.elim fun L h=>h.elim fun K h=>h.elim fun R h=>h.elim fun κ h=>by
 have hκ:=h.1.2.1;rw [h.2.1];refine ⟨fun t=>DgI μ K R acc (L.take t),⟨fun _=>0,fun _=>[],fun i q=>(nomatch q),rfl⟩,fun t x μ' hx hI=>hI.casesOn fun ad ks hR em=>?turn,fun μ' hI=>?fin⟩
 case turn =>
  rw [List.getElem?_map] at hx;refine el12 (Option.map_eq_some_iff.mp hx) fun i hi' ex=>?_;have hout:=nod_out h.2.2.1 hi'
  have htk:L.take (t+1)=L.take t++[i]:=by rw [List.take_add_one,hi'];rfl
  have hkey:K i∉((L.take t).map fun i=>(K i,W.l (ad i))).map (·.1):=fun q=>by
   rw [List.map_map] at q;exact el12 (List.mem_map.mp q) fun y hy e=>hout (h.1.2.2 y (List.mem_of_mem_take hy) i (List.mem_of_getElem? hi') e▸hy)
  rw [<-ex,em];refine el12 (h.2.2.2.2.1 i (List.mem_of_getElem? hi')) fun bs htg hel=>⟨bs,htg,ifs_nil ⟨fun _=>u_dict (cE.mono (hel _) fun w m' hq=>el03 hq fun hw hm hv=>?_),fun q=>by cases q⟩⟩;rw [hw,hm];refine cE.mono hv fun w m' hq=>el23 hq fun a l hw hm hRl=>?_;rw [hw,hm];refine ds_dict (.there (UpdAt.app .here _)) (fun p hp=>el12 (List.mem_map.mp hp) fun x _ e=>?_) (by rw [hκ];exact h.1.1) (by rw [List.length_map];exact ok_of (Nat.le_trans (List.length_take_le' ..) h.2.2.2.1)) ?_
  ·rw [<-e];exact (hκ x).trans (hκ i).symm
  ·rw [kput_new hkey];show DgI μ K R acc (L.take (t+1)) _;rw [htk];exact DgI.ext hR hout hRl
 case fin =>
  replace hI:DgI μ K R acc (L.take (L.map fun i=>(K i).val).length) μ':=hI;rw [List.length_map,List.take_length] at hI;exact hI.casesOn fun ad ks hR e=>e▸h.2.2.2.2.2 acc ad ks hR
theorem cE_dictG {ι:Type}[DecidableEq ι](hk:sc₀.kind=.function)(hn:decide (sc₀.names.map (·.1)).Nodup=true)(hfree:(sc₀.names.all fun x=>x.2 != .free||(sc.names.lookup x.1 == some .cell||sc.names.lookup x.1 == some .free))=true)(hs:∀ env x,foldedSetIterable iter env x=pure x)(h:cE C d sc ε μ iter fun w μ₁=>∃ P,cIter C d μ₁ w P∧∀ items,P items->DictG C d sc₀ sc ε μ₁ target kx vx items ι k) :
  cE C d sc ε μ (.DictComp kx vx [⟨target,iter,[],0⟩] sc₀ pos) k :=
 cE_comp (compD_ok hk (of_decide_eq_true hn) hfree hs) (fun env=>rfl) (cE.mono h fun w μ₁ hq=>el12 hq fun P hi hP=>⟨P,hi,fun items hpi=>dictG_items (hP items hpi)⟩)
end
end
section
open PySem PySem.Calls PyProof.Rows Builtin
section
inductive PV (P:Params) (F:PMap):List (Key×V)->List (Str×Value)->Prop
 | nil:PV P F [] []
 | cons {x:Str}{v:V}{u:Value}{kvs:List (Key×V)}{ps:List (Str×Value)}:Val P F v u->PV P F kvs ps->PV P F ((Key.s x,v)::kvs) ((x,u)::ps)
end
inductive VHits (kb:List (Key×V)):List (Key×V)->Bool->Prop
 | nil:VHits kb [] true
 | hit {k:Key}{v u:V}{r:List (Key×V)}{b:Bool}:(k,u)∈kb->SeqAt.shaped (toD v)=true->SeqAt.shaped (toD u)=true->VHits kb r b->VHits kb ((k,v)::r) (PyData.eqv (toD v) (toD u)&&b)
section
end
end
section
open PySem PySem.Calls PyProof.Rows Builtin
theorem UpdAt.carry {x y:O}{r r':Mem}(h:UpdAt a x y r r'){z:O}(hm:(c,z)∈r):(c,z)∈r'∨(c=a∧z=x∧(a,y)∈r'):=by
 induction h with
 | here =>
  rcases List.mem_cons.mp hm with q | q
  ·cases q;exact .inr ⟨rfl,rfl,.head _⟩
  ·exact .inl (.tail _ q)
 | there h ih =>
  rcases List.mem_cons.mp hm with q | q
  ·subst q;exact .inl (.head _)
  ·rcases ih q with e | ⟨e1,e2,e3⟩
   ·exact .inl (.tail _ e)
   ·exact .inr ⟨e1,e2,.tail _ e3⟩
theorem UpdAt.inApp {x y:O}{l l':Mem}(h:UpdAt a x y l l')(r:Mem):UpdAt a x y (l++r) (l'++r):=by
 induction h with
 | here=>exact .here
 | there _ ih=>exact .there ih
structure Box (B:Mem)(kk:List (Key×W))(κ n:Nat):Prop where
 val:∀ p∈kk,p.1.kind=κ∧∃ b vs,p.2=.l b∧(b,O.list vs)∈B∧vs.length≤n
 len:kk.length≤n
theorem Box.nil {B:Mem}{κ:Nat}:Box B [] κ n:=⟨by simp,Nat.zero_le _⟩
theorem Box.mono {B:Mem}{kk:List (Key×W)}{κ:Nat}(h:Box B kk κ n)(le:n≤m):Box B kk κ m:=⟨fun p hp=>let ⟨a,b,vs,c,d,e⟩:=h.val p hp;⟨a,b,vs,c,d,Nat.le_trans e le⟩,Nat.le_trans h.len le⟩
theorem Box.cons {B:Mem}{kk:List (Key×W)}{κ:Nat}(h:Box B kk κ n)(q:Addr×O):Box (q::B) kk κ n:=⟨fun p hp=>let ⟨a,b,vs,c,d,e⟩:=h.val p hp;⟨a,b,vs,c,.tail _ d,e⟩,h.len⟩
theorem Box.upd {B B':Mem}{kk:List (Key×W)}{κ:Nat}{vs:List W}{w:W}(h:Box B kk κ n)(hv:vs.length≤n)(hU:UpdAt b (.list vs) (.list (vs++[w])) B B'):Box B' kk κ (n+1) :=
 ⟨fun p hp=>by
  obtain ⟨a,b',vs',c,d,e⟩:=h.val p hp
  rcases hU.carry d with q | ⟨q1,q2,q3⟩
  ·exact ⟨a,b',vs',c,q,by lia⟩
  ·exact ⟨a,b',vs++[w],c,q1▸q3,by rw [List.length_append,List.length_singleton];lia⟩,by have:=h.len;lia⟩
theorem mem_kput {p:Key×W}{k:Key}{w:W}:∀ {kvs:List (Key×W)},p∈kput kvs k w->p∈kvs∨p=(k,w)
 | [],h=>.inr (List.mem_singleton.mp h)
 | (k',w')::r,h=>by
  unfold kput at h;by_cases e:k'=k
  ·rw [if_pos e] at h
   rcases List.mem_cons.mp h with q | q
   ·exact .inr (by rw [q,e])
   ·exact .inl (.tail _ q)
  ·rw [if_neg e] at h
   rcases List.mem_cons.mp h with q | q
   ·exact .inl (by rw [q];exact .head _)
   ·rcases mem_kput q with e | e
    ·exact .inl (.tail _ e)
    ·exact .inr e
theorem Box.put {B:Mem}{kk:List (Key×W)}{κ:Nat}{key:Key}(h:Box B kk κ n)(hk:key.kind=κ)(hb:(b,O.list [])∈B):Box B (kput kk key (.l b)) κ (n+1) :=
 ⟨fun p hp=>by
  rcases mem_kput hp with q | q
  ·obtain ⟨a,b,vs,c,d,e⟩:=h.val p q;exact ⟨a,b,vs,c,d,by lia⟩
  ·subst q;exact ⟨hk,b,[],rfl,hb,Nat.zero_le _⟩,by
  have e:=congrArg List.length (kput_keys (kvs:=kk) (k:=key) (w:=.l b));rw [List.length_map] at e;rw [e];have:=h.len;split
  ·rw [List.length_map];lia
  ·rw [List.length_append,List.length_map,List.length_singleton];lia⟩
theorem mem_kput_self {k:Key}{w:W}:∀ {kvs:List (Key×W)},k∉kvs.map (·.1)->(k,w)∈kput kvs k w:=fun {kvs} h=>by rw [kput_new h];simp
end
section
open PySem PySem.Calls PyProof.Rows Builtin
section
theorem c_updateU (hm:(a,O.set ks)∈μ)(hks:∀ x∈ks,x.kind=0)(hlo:∀ x∈lo,x.kind=0)(hz:ks.length+lo.length<390)(h:∀ ks',(∀ x,x∈ks'↔x∈ks∨x∈lo)->ks'.Nodup->∃ μ',UpdAt a (.set ks) (.set ks') μ μ'∧k (.v .none) μ'):cCall C d μ (.builtin "set.update") [.l a,.v (.set lo)] [] k:=fun A F Z s vs kvs hA S hv hkv=>by
 refine c_update (k:=k) hm hks hlo hz (fun ks' μ' hU h1 h2=>?_) A F Z s vs kvs hA S hv hkv;refine el12 (h ks' h1 h2) fun μ'' hU' hk=>?_;rw [hU.uniq hU' S.nod.1];exact hk
end
end
section
open PySem PySem.Calls PyProof.Rows
theorem hexL {nx:Str}(h:swapsWith (.ListComp elt [⟨target,iter,ifs,0⟩] sc₀ pos) (some (.Name nx px)) spos.line env=pure true) :
  exec (.Assign [.Name nx px] (.ListComp elt [⟨target,iter,ifs,0⟩] sc₀ pos) spos) env=(do standAt spos;let _ ← comprehension (.ListComp elt [⟨target,iter,ifs,0⟩] sc₀ pos) sc₀ env (firstIterPos [⟨target,iter,ifs,0⟩] pos) (newList []) false (eval iter env) (some (assign (.Name nx px) env));pure .next):=by
 rw [exec_Assign_Name_used _ _ _ _ h,arm_evalThenUse_ListComp];simp only [bind_assoc,pure_bind];rfl
section
theorem cS1_listVM {nx:Str}(hk:sc₀.kind=.function)(hn:decide (sc₀.names.map (·.1)).Nodup=true)(hfree:(sc₀.names.all fun x=>x.2 != .free||(sc.names.lookup x.1 == some .cell||sc.names.lookup x.1 == some .free))=true)(hs:∀ env x,foldedSetIterable iter env x=pure x)(hsw:∀ env:Env,env.scope=sc->swapsWith (.ListComp elt [⟨target,iter,ifs,0⟩] sc₀ pos) (some (.Name nx px)) spos.line env=pure true)(hnx:sc.names.lookup nx=some .local∨sc.names.lookup nx=some .cell)(h:cE C d sc ε μ iter fun w μ₁=>∃ P,cIter C d μ₁ w P∧∀ items,P items->∃ (p:V->Bool) (g:V->V),items.length<100000 ∧
   (∀ x∈items,∃ bs,cTgt C sc₀ target (.v x) bs∧∀ acc L,cIfs C d (relS sc₀ sc) (bs++dropN sc₀ ε) ((acc,L)::μ₁) ifs fun b m=>b=p x∧m=(acc,L)::μ₁ ∧
    (b=true->cE C d (relS sc₀ sc) (bs++dropN sc₀ ε) ((acc,L)::μ₁) elt fun w m=>w=.v (g x)∧m=(acc,L)::μ₁))∧∀ a,kf .next ((nx,.l a)::ε) ((a,.list (((items.filter p).map g).map .v))::μ₁)) :
  cS1 C d sc ε μ (.Assign [.Name nx px] (.ListComp elt [⟨target,iter,ifs,0⟩] sc₀ pos) spos) kf:=by
 refine cS1_comp (compL_ok hk (of_decide_eq_true hn) hfree hs) (fun env he=>hexL (hsw env he)) hnx ?_;refine cE.mono h fun w μ₁ ⟨P,hi,hP⟩=>⟨P,hi,fun items hpi=>?_⟩;refine el23 (hP items hpi) fun p g hsz turn hk'=>?_;refine fun acc=>⟨fun i m=>m=(acc,.list ((((items.take i).filter p).map g).map .v))::μ₁,by simp,fun i x μ' hx hm=>?_,fun μ' hm=>?_⟩
 ·subst hm;have hlt:i<items.length:=(List.getElem?_eq_some_iff.mp hx).1
  have htk:items.take (i+1)=items.take i++[x]:=by rw [List.take_add_one,hx];rfl
  refine el12 (turn x (List.mem_of_getElem? hx)) fun bs ht hif=>?_;refine ⟨bs,ht,cIfs.mono (hif acc _) fun b m ⟨hb,hm,he⟩=>?_⟩;subst hm;refine ⟨fun q=>u_list (cE.mono (he q) fun w m ⟨hw,hm⟩=>?_),fun q=>?_⟩
  ·subst hw;subst hm;refine v_append .here ?_ ?_
   ·simp only [List.length_map];have:=List.length_filter_le p (items.take i);have:=List.length_take_le i items;lia
   ·show _=_;rw [htk,List.filter_append];simp [hb▸q]
  ·show _=_;rw [htk,List.filter_append];simp [show p x=false from hb▸q]
 ·subst hm;rw [List.take_length];exact hk' acc
end
section
end
end
section
open PySem PySem.Calls
section
variable (C:Cx)(d:Nat)(sc:Scope)(ε:Env1)
@[reducible] noncomputable def kR2 (x:W)(f:Value->Value->Sem Value)(k:PostW):PostW:=fun y μ=>cV2 C d μ x y f k
@[reducible] noncomputable def kR (r:Expr)(f:Value->Value->Sem Value)(k:PostW):PostW:=fun x μ=>cE C d sc ε μ r (kR2 C d x f k)
@[reducible] noncomputable def kTst (kb:Bool->Mem->Prop):PostW:=fun z μ=>∃ b,z=.v (.bool b)∧kb b μ
@[reducible] noncomputable def kU2 (ow:W)(k:PostW):PostW:=fun iw μ=>SubOk C μ ow∧cV2 C d μ ow iw getItem k
@[reducible] noncomputable def kU (slice:Expr)(k:PostW):PostW:=fun ow μ=>cE C d sc ε μ slice (kU2 C d ow k)
@[reducible] noncomputable def kCall (fv:Value)(k:PostW):List W->Mem->Prop:=fun xs μ=>cCall C d μ fv xs [] k
@[reducible] noncomputable def kF (args:List Expr)(k:PostW):PostW:=fun fw μ=>∃ fv,fw=.v (.glob fv)∧KeepOk C fv∧cEs C d sc ε μ args (kCall C d fv k)
@[reducible] noncomputable def kCallF (fv:Value)(first:List W)(k:PostW):List W->Mem->Prop:=fun xs μ=>cCall C d μ fv (first++xs) [] k
@[reducible] noncomputable def kMA (args:List Expr)(k:PostW):Value->List W->Mem->Prop:=fun fv first μ=>KeepOk C fv∧cEs C d sc ε μ args (kCallF C d fv first k)
@[reducible] noncomputable def kM (name:Str)(args:List Expr)(k:PostW):PostW:=fun ow μ=>cMeth C d μ ow name (kMA C d sc ε args k)
@[reducible] noncomputable def kE2 (x:W)(kl:List W->Mem->Prop):List W->Mem->Prop:=fun xs μ=>kl (x::xs) μ
@[reducible] noncomputable def kE1 (es:List Expr)(kl:List W->Mem->Prop):PostW:=fun x μ=>cEs C d sc ε μ es (kE2 x kl)
@[reducible] noncomputable def kG (name:Str)(k:PostW):PostW:=fun ow μ=>cAttr C d μ ow name k
@[reducible] noncomputable def kRet (kf:PostF):PostW:=fun x μ=>kf (.ret x) ε μ
@[reducible] noncomputable def kIf (body orelse:List Stmt)(kf:PostF):Bool->Mem->Prop:=fun b μ=>(b=true->cS C d sc ε μ body kf)∧(b=false->cS C d sc ε μ orelse kf)
@[reducible] noncomputable def kAs (x:Str)(kf:PostF):PostW:=fun w μ=>kf .next ((x,w)::ε) μ
@[reducible] noncomputable def kNx (kf:PostF):Env1->Mem->Prop:=fun ε μ=>kf .next ε μ
@[reducible] noncomputable def kAT (t:Expr)(kf:PostF):PostW:=fun w μ=>cAsg C d sc ε μ t w (kNx kf)
@[reducible] noncomputable def kX (kf:PostF):PostW:=fun _ μ=>kf .next ε μ
@[reducible] noncomputable def kSE (ke:Env1->Mem->Prop):Mem->Prop:=fun μ=>ke ε μ
@[reducible] noncomputable def kSU2 (ow w:W)(ke:Env1->Mem->Prop):PostW:=fun iw μ=>cSetI C d μ ow iw w (kSE ε ke)
@[reducible] noncomputable def kSU (ie:Expr)(w:W)(ke:Env1->Mem->Prop):PostW:=fun ow μ=>cE C d sc ε μ ie (kSU2 C d ε ow w ke)
@[reducible] noncomputable def kSA (name:Str)(w:W)(ke:Env1->Mem->Prop):PostW:=fun ow μ=>cSetA C d μ ow name w (kSE ε ke)
@[reducible] noncomputable def kNot (kb:Bool->Mem->Prop):Bool->Mem->Prop:=fun b=>kb (!b)
@[reducible] noncomputable def kTV (kb:Bool->Mem->Prop):PostW:=fun x μ=>cB1 C d μ x truthy kb
@[reducible] noncomputable def kAnd (es:List Expr)(kb:Bool->Mem->Prop):Bool->Mem->Prop:=fun b μ=>(b=true->cAll C d sc ε μ .And es kb)∧(b=false->kb false μ)
@[reducible] noncomputable def kOr (es:List Expr)(kb:Bool->Mem->Prop):Bool->Mem->Prop:=fun b μ=>(b=false->cAll C d sc ε μ .Or es kb)∧(b=true->kb true μ)
@[reducible] noncomputable def kIfE (x y:Expr)(k:PostW):Bool->Mem->Prop:=fun b μ=>(b=true->cE C d sc ε μ x k)∧(b=false->cE C d sc ε μ y k)
@[reducible] noncomputable def kAnd2 (y:Expr)(k:PostW):Bool->Mem->Prop:=fun b μ=>(b=true->cE C d sc ε μ y k)∧(b=false->k (.v (.bool false)) μ)
@[reducible] noncomputable def kOr2 (y:Expr)(k:PostW):Bool->Mem->Prop:=fun b μ=>(b=false->cE C d sc ε μ y k)∧(b=true->k (.v (.bool true)) μ)
@[reducible] noncomputable def kFor (t:Expr)(body:List Stmt)(kf:PostF):PostW:=fun w μ=>∃ P,cIter C d μ w P∧∀ items,P items->cFor C d sc ε μ t body items kf
@[reducible] noncomputable def kTurn (t:Expr)(body:List Stmt)(kf:PostF)(J:Nat->Env1->Mem->Prop)(i:Nat)(x:V)(ε:Env1)(μ:Mem):Prop:=cAsg C d sc ε μ t (.v x) fun ε₁ μ₁=>cS C d sc ε₁ μ₁ body (forK J i kf)
end
section
variable {ke:Env1->Mem->Prop}
noncomputable def locV (sc:Scope)(ε:Env1)(x:Str):Option W :=
 cond (!(x == ("__debug__" : Str))&&(!(x == ("__classdict__" : Str))&&(sc.names.lookup x == some .local||(sc.names.lookup x == some .cell||sc.names.lookup x == some .free)))) (ε.lookup x) none
noncomputable def evC (c:Const):Option W:=by
 cases c with
 | int i=>exact some (.v (.int i))
 | str x=>exact some (.v (.str x))
 | bool b=>exact some (.v (.bool b))
 | none=>exact some (.v .none)
 | _=>exact none
noncomputable def ev (sc:Scope)(ε:Env1)(e:Expr):Option W:=by
 cases e with
 | Name x _=>exact locV sc ε x
 | Constant c _ _=>exact evC c
 | _=>exact none
noncomputable def evs (sc:Scope)(ε:Env1)(es:List Expr):Option (List W) :=
 List.rec (some []) (fun e _ r=>Option.rec none (fun w=>Option.rec none (fun ws=>some (w::ws)) r) (ev sc ε e)) es
theorem cE_loc {w:W}(hx:locV sc ε x=some w)(h:k w μ):cE C d sc ε μ (.Name x pos) k:=by
 unfold locV at hx
 cases hb:(!(x == ("__debug__" : Str))&&(!(x == ("__classdict__" : Str))&&(sc.names.lookup x == some .local||(sc.names.lookup x == some .cell||sc.names.lookup x == some .free)))) with
 | false=>rw [hb] at hx;exact nomatch hx
 | true =>
  rw [hb] at hx;have h1:=Bool.and_eq_true_iff.mp hb;have h2:=Bool.and_eq_true_iff.mp h1.2;exact cE_name hx h ((Bool.or_eq_true_iff.mp h2.2).imp (eq_of_beq ·) fun q=>(Bool.or_eq_true_iff.mp q).imp (eq_of_beq ·) (eq_of_beq ·)) ((Bool.not_eq_true' _).mp h1.1) ((Bool.not_eq_true' _).mp h2.1)
theorem some_el {a w:W}{P:W->Prop}(hx:some a=some w)(h:P w):P a:=Option.some.inj hx▸h
theorem no_ev {p:Prop}{w:W}(hx:none=some w):p:=nomatch hx
theorem cE_evC {c:Const}{kd:Nat}{w:W}(hx:evC c=some w)(h:k w μ):cE C d sc ε μ (.Constant c kd pos) k:=by
 cases c with
 | int i=>exact cE_int (some_el (P:=fun w=>k w μ) hx h)
 | str x=>exact cE_str (some_el (P:=fun w=>k w μ) hx h)
 | bool b=>exact cE_bool (some_el (P:=fun w=>k w μ) hx h)
 | none=>exact cE_none (some_el (P:=fun w=>k w μ) hx h)
 | _=>exact no_ev hx
noncomputable def EvIs (sc:Scope)(ε:Env1)(w:W)(e:Expr):Prop:=(∃ x pos,e=.Name x pos∧locV sc ε x=some w)∨∃ c kd pos,e=.Constant c kd pos∧evC c=some w
theorem ev_is {w:W}:ev sc ε e=some w->EvIs sc ε w e :=
 Expr.casesOn (motive_1:=fun e=>ev sc ε e=some w->EvIs sc ε w e) e (fun _ _ _=>no_ev) (fun _ _ _=>no_ev) (fun _ _ _ _=>no_ev) (fun _ _ _=>no_ev) (fun _ _ _ _=>no_ev) (fun _ _ _ _=>no_ev) (fun _ _ _=>no_ev) (fun _ _ _=>no_ev) (fun _ _ _ _=>no_ev) (fun _ _ _ _=>no_ev) (fun _ _ _ _ _=>no_ev) (fun _ _ _ _=>no_ev) (fun _ _=>no_ev) (fun _ _=>no_ev) (fun _ _=>no_ev) (fun _ _ _ _=>no_ev) (fun _ _ _ _=>no_ev) (fun _ _ _ _=>no_ev) (fun _ _=>no_ev) (fun _ _ _ h=>.inr ⟨_,_,_,rfl,h⟩) (fun _ _ _=>no_ev) (fun _ _ _=>no_ev) (fun _ _=>no_ev) (fun _ _ h=>.inl ⟨_,_,rfl,h⟩) (fun _ _=>no_ev) (fun _ _ _=>no_ev) (fun _ _ _ _=>no_ev)
theorem cE_ev {w:W}(hx:ev sc ε e=some w)(h:k w μ):cE C d sc ε μ e k:=by
 rcases ev_is hx with ⟨x,p,rfl,h1⟩ | ⟨c,kd,p,rfl,h1⟩
 ·exact cE_loc h1 h
 ·exact cE_evC h1 h
theorem ev_plain {es:List Expr}{w:W}(hx:ev sc ε e=some w)(env:Env):starEach (e::es) env=(false,eval e env)::starEach es env:=by
 rcases ev_is hx with ⟨x,p,rfl,h1⟩ | ⟨c,kd,p,rfl,h1⟩<;>rfl
theorem both_some {a:Option W}{b:Option (List W)}(h:(Option.rec none (fun w=>Option.rec none (fun ws=>some (w::ws)) b) a:Option (List W))=some ws):∃ w ws',a=some w∧b=some ws'∧ws=w::ws':=by
 cases a with
 | none=>exact nomatch h
 | some w=>cases b with
  | none=>exact nomatch h
  | some ws'=>cases h;exact ⟨w,ws',rfl,rfl,rfl⟩
theorem cEs_ev {es:List Expr}{w:List W}(hx:evs sc ε es=some w)(h:kl w μ):cEs C d sc ε μ es kl:=by
 induction es generalizing w kl with
 | nil=>cases hx;exact cEs_nil h
 | cons e es ih =>
  refine el23 (both_some hx) fun w' ws' h1 h2 h3=>?_;subst h3;exact cEs_cons (cE_ev h1 (ih h2 h)) (ev_plain h1)
theorem cE_globK {w:Value}(g:Glob C x w)(hv:PySem.W.handedIn w=true)(hk:sc.names.lookup x=some .globalImplicit)(hd:(x == ("__debug__" : Str))=false)(h:k (.v (.glob w)) μ) :
  cE C d sc ε μ (.Name x pos) k:=cE_glob g hv h hk hd
theorem cE_binopK {l r:Expr}{op:Operator}(h:cE C d sc ε μ l (kR C d sc ε r (binaryOp op) k)):cE C d sc ε μ (.BinOp l op r pos) k:=cE_binop h
theorem cE_cmpK {l r:Expr}{op:CmpOp}(hm:behindInMarks op r=false)(h:cE C d sc ε μ l (kR C d sc ε r (compareOp op) k)):cE C d sc ε μ (.Compare l [op] [r] pos) k:=cE_cmp h hm
theorem cT_cmpK {l r:Expr}{op:CmpOp}(hm:behindInMarks op r=false)(h:cE C d sc ε μ l (kR C d sc ε r (compareOp op) (kTst kb))):cT C d sc ε μ (.Compare l [op] [r] pos) kb:=cT_cmp h hm
theorem kTst_b {b:Bool}(h:kb b μ):kTst kb (.v (.bool b)) μ:=⟨b,rfl,h⟩
theorem cU1K {value slice:Expr}(hsl:∀ o i,subscripted slice false o i=operate [o,i] (getItem o i))(h:cE C d sc ε μ value (kU C d sc ε slice k)):cE C d sc ε μ (.Subscript value slice pos) k:=cE_sub hsl h
theorem cC0K {args:List Expr}(hev:∀ env,eval (.Call fe args [] pos) env=(eval fe env>>=fun f=>callWith pos f [] (backTo pos (starEach args env)) []))(hpl:∀ env,(backTo pos (starEach args env)).any (·.1)=false)(h:cE C d sc ε μ fe (kF C d sc ε args k)):cE C d sc ε μ (.Call fe args [] pos) k:=cE_call hev hpl h
theorem kF_st {fv:Value}{args:List Expr}(hk:KeepOk C fv)(h:cEs C d sc ε μ args (kCall C d fv k)):kF C d sc ε args k (.v (.glob fv)) μ:=⟨fv,rfl,hk,h⟩
theorem cC0G {w:Value}{args:List Expr}(g:Glob C x w)(hv:PySem.W.handedIn w=true)(hk:sc.names.lookup x=some .globalImplicit)(hd:(x == ("__debug__" : Str))=false)(hev:∀ env,eval (.Call (.Name x px) args [] pos) env=(eval (.Name x px) env>>=fun f=>callWith pos f [] (backTo pos (starEach args env)) []))(hpl:∀ env,(backTo pos (starEach args env)).any (·.1)=false)(hkeep:KeepOk C w)(h:cEs C d sc ε μ args (kCall C d w k)):cE C d sc ε μ (.Call (.Name x px) args [] pos) k :=
 cC0K hev hpl (cE_globK g hv hk hd (kF_st hkeep h))
theorem cC1K {o:Expr}{name:Str}{apos:Pos}{args:List Expr}(hbase:∀ env,attributeBase o name env (eval o env)=eval o env)(hfew:∀ env,methodCallForm (args.length+([]:List Keyword).length) (backTo pos (starEach args env)) (backToKw pos (keywordEach [] env))=true)(hline:(apos.endLine == pos.line)=true)(hpl:∀ env,(backTo pos (starEach args env)).any (·.1)=false)(h:cE C d sc ε μ o (kM C d sc ε name args k)):cE C d sc ε μ (.Call (.Attribute o name apos) args [] pos) k:=cE_mcall hbase hfew hline hpl h
theorem cEsK {es:List Expr}(he:∀ env,starEach (e::es) env=(false,eval e env)::starEach es env)(h:cE C d sc ε μ e (kE1 C d sc ε es kl)):cEs C d sc ε μ (e::es) kl:=cEs_cons h he
theorem cG1K {o:Expr}{name:Str}(hbase:∀ env,attributeBase o name env (eval o env)=eval o env)(h:cE C d sc ε μ o (kG C d name k)):cE C d sc ε μ (.Attribute o name pos) k:=cE_attr hbase h
theorem cS1_returnK (h:cE C d sc ε μ e (kRet ε kf)):cS1 C d sc ε μ (.Return (some e) pos) kf:=cS1_return h
theorem cS1_ifK {t:Expr}{body orelse:List Stmt}(h:cT C d sc ε μ t (kIf C d sc ε body orelse kf)):cS1 C d sc ε μ (.If t body orelse pos) kf:=cS1_if h
theorem cA1K (hk:sc.names.lookup x=some .local∨sc.names.lookup x=some .cell)(hsw:∀ env:Env,env.scope=sc->swapsWith e (some (.Name x px)) pos.line env=pure false)(h:cE C d sc ε μ e (kAs ε x kf)):cS1 C d sc ε μ (.Assign [.Name x px] e pos) kf:=cS1_assign h hk hsw
theorem cATK {t:Expr}(hsw:∀ env:Env,env.scope=sc->swapsWithSole [t] e pos.line env=pure false)(hst:∀ env:Env,env.scope=sc->swappedStores [t] e env=pure none)(he:∀ env,(assignEach [t] env).map (·.2)=[assign t env])(h:cE C d sc ε μ e (kAT C d sc ε t kf)):cS1 C d sc ε μ (.Assign [t] e pos) kf:=cS1_asg h hsw hst he
theorem cX1K (hsw:∀ env:Env,env.scope=sc->swapsWith e none pos.line env=pure false)(hk:sc.kind=.function)(h:cE C d sc ε μ e (kX ε kf)):cS1 C d sc ε μ (.Expr e pos) kf:=cS1_expr h hsw hk
theorem cAsg_uK {oe ie:Expr}{w:W}(h:cE C d sc ε μ oe (kSU C d sc ε ie w ke)):cAsg C d sc ε μ (.Subscript oe ie pos) w ke:=asg_sub h
theorem asg_attrK {oe:Expr}{name:Str}{w:W}(h:cE C d sc ε μ oe (kSA C d ε name w ke)):cAsg C d sc ε μ (.Attribute oe name pos) w ke:=asg_attr h
theorem cT_notK {x:Expr}(h:cT C d sc ε μ x (kNot kb)):cT C d sc ε μ (.UnaryOp .Not x pos) kb:=cT_not h
theorem cT_valK (h:cE C d sc ε μ e (kTV C d kb))(he:∀ env whole,isTrue e env whole=(do let v ← whole;standAt e.pos;holding [v] (truthy v))):cT C d sc ε μ e kb:=cT_val h he
theorem cAll_andK {es:List Expr}(h:cT C d sc ε μ e (kAnd C d sc ε es kb)):cAll C d sc ε μ .And (e::es) kb:=cAll_and h
theorem cAll_orK {es:List Expr}(h:cT C d sc ε μ e (kOr C d sc ε es kb)):cAll C d sc ε μ .Or (e::es) kb:=cAll_or h
theorem cE_ifexpK {t x y:Expr}(h:cT C d sc ε μ t (kIfE C d sc ε x y k)):cE C d sc ε μ (.IfExp t x y pos) k:=cE_ifexp h
theorem cE_and2K {x y:Expr}(h:cE C d sc ε μ x (kTst (kAnd2 C d sc ε y k))):cE C d sc ε μ (.BoolOp .And [x,y] pos) k:=cE_and2 h
theorem cE_or2K {x y:Expr}(h:cE C d sc ε μ x (kTst (kOr2 C d sc ε y k))):cE C d sc ε μ (.BoolOp .Or [x,y] pos) k:=cE_or2 h
theorem cF1K {t:Expr}{body:List Stmt}(hs:∀ env x,foldedSetIterable iter env x=pure x)(h:cE C d sc ε μ iter (kFor C d sc ε t body kf)):cS1 C d sc ε μ (.For t iter body [] pos) kf:=cS1_for hs h
theorem gen {α:Sort _}{G:Prop}(e:α)(k:∀ x,x=e->G):G:=k e rfl
theorem for_is {t:Expr}{body:List Stmt}{w:W}{L:List V}(hit:cIter C d μ w (· = L))(h:cFor C d sc ε μ t body L kf):kFor C d sc ε t body kf w μ:=⟨_,hit,fun _ e=>by subst e;exact h⟩
theorem at_map {α:Type}{f:α->V}{l:List α}(t:Nat)(x:V)(h:(l.map f)[t]? = some x):∃ a,x=f a∧l[t]? = some a:=by
 rw [List.getElem?_map] at h;exact el12 (Option.map_eq_some_iff.mp h) fun a h1 h2=>⟨a,h2.symm,h1⟩
theorem at_rng (t:Nat)(x:V)(h:(rngV 0 (n:Int))[t]? = some x):∃ _:Unit,x=.int t∧t<n :=
 e2 (rngV_get h) fun h1 h2=>⟨(),by rw [h2,Int.zero_add],by rw [Int.sub_zero] at h1;exact h1⟩
section
variable {t:Expr}{body:List Stmt}
theorem iv0 {E:Env1}(P:Env1->Mem->Prop)(e:ε'=E)(h:∃ m,μ'=m∧P E m):P ε' μ':=h.elim fun m h=>by subst e;rw [h.1];exact h.2
theorem frB {items:List V}{β:Type}{f:Nat->β->V}{At:Nat->β->Prop}(hat:∀ i x,items[i]? = some x->∃ y,x=f i y∧At i y)(Inv:Nat->Env1->Mem->Prop)(h0:Inv 0 ε μ)(turn:∀ J:Nat->Env1->Mem->Prop,(∀ {i ε μ},Inv i ε μ->J i ε μ)->∀ i y,At i y->∀ ε' μ',Inv i ε' μ'->kTurn C d sc t body kf J i (f i y) ε' μ')(fin:∀ ε' μ',Inv items.length ε' μ'->kf .next ε' μ'):cFor C d sc ε μ t body items kf :=
 cFor_mk Inv h0 (fun J hJ i x ε' μ' hx h=>(hat i x hx).elim fun y e=>by rw [e.1];exact turn J hJ i y e.2 ε' μ' h) fin
theorem iv000 {E:Env1}{M:Nat->Mem}{Inv:Nat->Env1->Mem->Prop}(hI:∀ i ε μ,Inv i ε μ=(ε=E∧μ=M i))(P:Env1->Mem->Prop)(k:P E (M i))(ε':Env1)(μ':Mem)(h:Inv i ε' μ'):P ε' μ' :=
 have h:=cast (hI i ε' μ') h
 iv0 P h.1 (have h:=h.2;⟨_,h,k ⟩)
theorem fr000 {items:List V}{β:Type}{f:Nat->β->V}{At:Nat->β->Prop}{E:Env1}{M:Nat->Mem}(hat:∀ i x,items[i]? = some x->∃ y,x=f i y∧At i y)(Inv:Nat->Env1->Mem->Prop)(hI:∀ i ε μ,Inv i ε μ=(ε=E∧μ=M i))(h0:Inv 0 ε μ)(turn:∀ J:Nat->Env1->Mem->Prop,(∀ {i ε μ},Inv i ε μ->J i ε μ)->∀ i y,At i y->kTurn C d sc t body kf J i (f i y) E (M i))(fin:kf .next E (M items.length)):cFor C d sc ε μ t body items kf :=
 frB hat Inv h0 (fun J hJ i y h=>iv000 hI _ (turn J hJ i y h)) (iv000 hI (kf .next) fin)
theorem iv101 {α0:Type}{E:Env1}{M:Nat->α0->Mem}{s0:Nat->α0->Prop}{Inv:Nat->Env1->Mem->Prop}(hI:∀ i ε μ,Inv i ε μ=(ε=E∧∃ a0,μ=M i a0∧s0 i a0))(P:Env1->Mem->Prop)(k:∀ a0,s0 i a0->P E (M i a0))(ε':Env1)(μ':Mem)(h:Inv i ε' μ'):P ε' μ' :=
 have h:=cast (hI i ε' μ') h
 iv0 P h.1 (have h:=h.2;h.elim fun a0 h=>⟨_,h.1,k a0 h.2⟩)
theorem fr101 {items:List V}{β:Type}{f:Nat->β->V}{At:Nat->β->Prop}{α0:Type}{E:Env1}{M:Nat->α0->Mem}{s0:Nat->α0->Prop}(hat:∀ i x,items[i]? = some x->∃ y,x=f i y∧At i y)(Inv:Nat->Env1->Mem->Prop)(hI:∀ i ε μ,Inv i ε μ=(ε=E∧∃ a0,μ=M i a0∧s0 i a0))(h0:Inv 0 ε μ)(turn:∀ J:Nat->Env1->Mem->Prop,(∀ {i ε μ},Inv i ε μ->J i ε μ)->∀ i y a0,At i y->s0 i a0->kTurn C d sc t body kf J i (f i y) E (M i a0))(fin:∀ a0,s0 items.length a0->kf .next E (M items.length a0)):cFor C d sc ε μ t body items kf :=
 frB hat Inv h0 (fun J hJ i y h=>iv101 hI _ fun a0=>turn J hJ i y a0 h) (iv101 hI (kf .next) fin)
theorem iv102 {α0:Type}{E:Env1}{M:Nat->α0->Mem}{s0:Nat->α0->Prop}{s1:Nat->α0->Prop}{Inv:Nat->Env1->Mem->Prop}(hI:∀ i ε μ,Inv i ε μ=(ε=E∧∃ a0,μ=M i a0∧s0 i a0∧s1 i a0))(P:Env1->Mem->Prop)(k:∀ a0,s0 i a0->s1 i a0->P E (M i a0))(ε':Env1)(μ':Mem)(h:Inv i ε' μ'):P ε' μ' :=
 have h:=cast (hI i ε' μ') h
 iv0 P h.1 (have h:=h.2;h.elim fun a0 h=>⟨_,h.1,k a0 h.2.1 h.2.2⟩)
theorem fr102 {items:List V}{β:Type}{f:Nat->β->V}{At:Nat->β->Prop}{α0:Type}{E:Env1}{M:Nat->α0->Mem}{s0:Nat->α0->Prop}{s1:Nat->α0->Prop}(hat:∀ i x,items[i]? = some x->∃ y,x=f i y∧At i y)(Inv:Nat->Env1->Mem->Prop)(hI:∀ i ε μ,Inv i ε μ=(ε=E∧∃ a0,μ=M i a0∧s0 i a0∧s1 i a0))(h0:Inv 0 ε μ)(turn:∀ J:Nat->Env1->Mem->Prop,(∀ {i ε μ},Inv i ε μ->J i ε μ)->∀ i y a0,At i y->s0 i a0->s1 i a0->kTurn C d sc t body kf J i (f i y) E (M i a0))(fin:∀ a0,s0 items.length a0->s1 items.length a0->kf .next E (M items.length a0)):cFor C d sc ε μ t body items kf :=
 frB hat Inv h0 (fun J hJ i y h=>iv102 hI _ fun a0=>turn J hJ i y a0 h) (iv102 hI (kf .next) fin)
theorem iv110 {α0:Type}{E:Env1}{M:Nat->α0->Mem}{r0:Nat->α0->Prop}{Inv:Nat->Env1->Mem->Prop}(hI:∀ i ε μ,Inv i ε μ=(ε=E∧∃ a0,r0 i a0∧μ=M i a0))(P:Env1->Mem->Prop)(k:∀ a0,r0 i a0->P E (M i a0))(ε':Env1)(μ':Mem)(h:Inv i ε' μ'):P ε' μ' :=
 have h:=cast (hI i ε' μ') h
 iv0 P h.1 (have h:=h.2;h.elim fun a0 h=>⟨_,h.2,k a0 h.1⟩)
theorem fr110 {items:List V}{β:Type}{f:Nat->β->V}{At:Nat->β->Prop}{α0:Type}{E:Env1}{M:Nat->α0->Mem}{r0:Nat->α0->Prop}(hat:∀ i x,items[i]? = some x->∃ y,x=f i y∧At i y)(Inv:Nat->Env1->Mem->Prop)(hI:∀ i ε μ,Inv i ε μ=(ε=E∧∃ a0,r0 i a0∧μ=M i a0))(h0:Inv 0 ε μ)(turn:∀ J:Nat->Env1->Mem->Prop,(∀ {i ε μ},Inv i ε μ->J i ε μ)->∀ i y a0,At i y->r0 i a0->kTurn C d sc t body kf J i (f i y) E (M i a0))(fin:∀ a0,r0 items.length a0->kf .next E (M items.length a0)):cFor C d sc ε μ t body items kf :=
 frB hat Inv h0 (fun J hJ i y h=>iv110 hI _ fun a0=>turn J hJ i y a0 h) (iv110 hI (kf .next) fin)
theorem iv202 {α0:Type}{α1:Type}{E:Env1}{M:Nat->α0->α1->Mem}{s0:Nat->α0->α1->Prop}{s1:Nat->α0->α1->Prop}{Inv:Nat->Env1->Mem->Prop}(hI:∀ i ε μ,Inv i ε μ=(ε=E∧∃ a0 a1,μ=M i a0 a1∧s0 i a0 a1∧s1 i a0 a1))(P:Env1->Mem->Prop)(k:∀ a0 a1,s0 i a0 a1->s1 i a0 a1->P E (M i a0 a1))(ε':Env1)(μ':Mem)(h:Inv i ε' μ'):P ε' μ' :=
 have h:=cast (hI i ε' μ') h
 iv0 P h.1 (have h:=h.2;h.elim fun a0 h=>h.elim fun a1 h=>⟨_,h.1,k a0 a1 h.2.1 h.2.2⟩)
theorem fr202 {items:List V}{β:Type}{f:Nat->β->V}{At:Nat->β->Prop}{α0:Type}{α1:Type}{E:Env1}{M:Nat->α0->α1->Mem}{s0:Nat->α0->α1->Prop}{s1:Nat->α0->α1->Prop}(hat:∀ i x,items[i]? = some x->∃ y,x=f i y∧At i y)(Inv:Nat->Env1->Mem->Prop)(hI:∀ i ε μ,Inv i ε μ=(ε=E∧∃ a0 a1,μ=M i a0 a1∧s0 i a0 a1∧s1 i a0 a1))(h0:Inv 0 ε μ)(turn:∀ J:Nat->Env1->Mem->Prop,(∀ {i ε μ},Inv i ε μ->J i ε μ)->∀ i y a0 a1,At i y->s0 i a0 a1->s1 i a0 a1->kTurn C d sc t body kf J i (f i y) E (M i a0 a1))(fin:∀ a0 a1,s0 items.length a0 a1->s1 items.length a0 a1->kf .next E (M items.length a0 a1)):cFor C d sc ε μ t body items kf :=
 frB hat Inv h0 (fun J hJ i y h=>iv202 hI _ fun a0 a1=>turn J hJ i y a0 a1 h) (iv202 hI (kf .next) fin)
theorem iv320 {α0:Type}{α1:Type}{α2:Type}{E:Env1}{M:Nat->α0->α1->α2->Mem}{r0:Nat->α0->α1->α2->Prop}{r1:Nat->α0->α1->α2->Prop}{Inv:Nat->Env1->Mem->Prop}(hI:∀ i ε μ,Inv i ε μ=(ε=E∧∃ a0 a1 a2,r0 i a0 a1 a2∧r1 i a0 a1 a2∧μ=M i a0 a1 a2))(P:Env1->Mem->Prop)(k:∀ a0 a1 a2,r0 i a0 a1 a2->r1 i a0 a1 a2->P E (M i a0 a1 a2))(ε':Env1)(μ':Mem)(h:Inv i ε' μ'):P ε' μ' :=
 have h:=cast (hI i ε' μ') h
 iv0 P h.1 (have h:=h.2;h.elim fun a0 h=>h.elim fun a1 h=>h.elim fun a2 h=>⟨_,h.2.2,k a0 a1 a2 h.1 h.2.1⟩)
theorem fr320 {items:List V}{β:Type}{f:Nat->β->V}{At:Nat->β->Prop}{α0:Type}{α1:Type}{α2:Type}{E:Env1}{M:Nat->α0->α1->α2->Mem}{r0:Nat->α0->α1->α2->Prop}{r1:Nat->α0->α1->α2->Prop}(hat:∀ i x,items[i]? = some x->∃ y,x=f i y∧At i y)(Inv:Nat->Env1->Mem->Prop)(hI:∀ i ε μ,Inv i ε μ=(ε=E∧∃ a0 a1 a2,r0 i a0 a1 a2∧r1 i a0 a1 a2∧μ=M i a0 a1 a2))(h0:Inv 0 ε μ)(turn:∀ J:Nat->Env1->Mem->Prop,(∀ {i ε μ},Inv i ε μ->J i ε μ)->∀ i y a0 a1 a2,At i y->r0 i a0 a1 a2->r1 i a0 a1 a2->kTurn C d sc t body kf J i (f i y) E (M i a0 a1 a2))(fin:∀ a0 a1 a2,r0 items.length a0 a1 a2->r1 items.length a0 a1 a2->kf .next E (M items.length a0 a1 a2)):cFor C d sc ε μ t body items kf :=
 frB hat Inv h0 (fun J hJ i y h=>iv320 hI _ fun a0 a1 a2=>turn J hJ i y a0 a1 a2 h) (iv320 hI (kf .next) fin)
end
end
end
section
open PySem PySem.Calls
theorem EnvRel.grow (h:PLe Z Z')(R:EnvRel C F Z env ε):EnvRel C F Z' env ε :=
 ⟨R.kind,R.glob,R.blt,el34 R.ns fun o es n h1 h2 h3 h4=>⟨o,es,n,h _ _ h1,h2,h3,h4⟩,
  fun x k=>el34 (R.cell x k) fun c o u h1 h2 h3 h4=>⟨c,o,u,h1,h _ _ h2,h3,h4⟩⟩
structure ClsmOk (C:Cx)(c:Addr)(name:Str)(f:Addr):Prop where
 ga:PySem.W.specialIn C.K (.ref c) "__getattribute__" = some (some (.builtin "type.__getattribute__"))
 rd:∃ mc p rest,PySem.W.readsIn C.K c mc=true∧PySem.W.findCls C.K (.ref c) mc name=some (.get (.builtin "classmethod.__get__") (.ref p) .none (.ref c))∧PySem.W.recIn C.K p "classmethod" = some (.ref f::rest)
 fn:PySem.W.fnIn C.K f=true
section
theorem cE_clsm {o:Expr}{f:Addr}{name:Str}{apos:Pos}{args:List Expr}(hbase:∀ env,attributeBase o name env (eval o env)=eval o env)(hfew:∀ env,methodCallForm (args.length+([]:List Keyword).length) (backTo pos (starEach args env)) (backToKw pos (keywordEach [] env))=true)(hline:(apos.endLine == pos.line)=true)(hpl:∀ env,(backTo pos (starEach args env)).any (·.1)=false)(ok:ClsmOk C c name f)(h:cE C d sc ε μ o fun ow μ₁=>ow=.v (.glob (.ref c))∧cEs C d sc ε μ₁ args fun xs μ₂=>cCode C d μ₂ (.ref f) (.v (.glob (.ref c))::xs) [] k) :
  cE C d sc ε μ (.Call (.Attribute o name apos) args [] pos) k:=fun A env F Z s hA hs R S=>by
 rw [arm_eval_Call,hbase];refine wpAny_bind (wpBot (h A env F Z s hA hs R S) fun ov s₁ ⟨ow,F₁,μ₁,h₁,le₁,S₁,hv⟩=>wpAny_bind (wpAny_standAt ?_));obtain ⟨rfl,h₁⟩:=h₁;obtain ⟨mc,p,rest,hr,e,hp⟩:=ok.rd;have hv':=hv
 cases hv
 have hpos:methodCallPos true o env apos pos=pure pos:=by unfold methodCallPos;simp [hline]
 unfold methodCall;rw [hfew];refine wpAny_bind (wpAny_holding (PySem.W.method_cls S₁.kin ok.ga (PySem.W.cls_bind S₁.kin hr e (wpAny_call (PySem.W.cm_get (s:={ s₁ with toks:=s₁.toks+1 }) S₁.kin hp (PySem.W.handed_on rfl ?_))))));have S₂:=(S₁.tok (s₁.toks+1)).pushZ (o:=PySem.W.methodObj (.ref f) (.ref c)) rfl;refine wpAny_bind (wpAny_of_eq hpos ?_);have nZ:=(fresh_none S₁).2.1
 refine PySem.W.callWith_of (P:=PySem.W.MethP C.K s₁.heap.objs.size f (.ref c)) (by rw [hpl env];rfl) (fun hp X=>PySem.W.keeps_M ok.fn hp X)
  (evalArgs_gen (hpl env) (wpBot (h₁ A env F₁ _ _ pos hA hs ((R.mono le₁).grow fun a ob e=>by rw [PSet.ne _ _ (ne_of_none nZ e)];exact e) S₂) fun vs s₃ ⟨xs,F₃,μ₃,h₃,le₃,S₃,hxs⟩=>?_))
 have hq:=S₃.zz _ _ (PSet.self ..);refine ⟨⟨hq,S₃.kin⟩,wpAny_call (PySem.W.method_call hq ?_)⟩;have S₄:Sim C F₃ Z μ₃ s₃:=S₃.letGo (h':=s₃.heap) (PSet.self ..) nZ (fun a ob e=>by rw [PSet.ne _ _ (ne_of_none nZ e)];exact e) (fun b o _ e=>e) s₃.toks
 exact codeAny_mono (h₃ A F₃ Z s₃ (.ref c::vs) [] hA S₄ (.cons (hv'.mono le₃) hxs) .nil) fun r s' q=>by
  cases r with
  | error e=>exact q.elim
  | ok fl=>cases fl with
   | ret v=>exact q.trans (le₁.trans le₃)
   | _=>exact q.elim
theorem evalArgs_gk {M:Model}{f:Value}{args:List (Bool×Sem Value)}{kws:List (Option Str×Sem Value)}{Q:Args->Shared->Prop}(h0:args.any (·.1)=false)(hall:kws.all (·.1.isSome)=true)(h:wpAny M A (spliced args) (fun vs s₁=>wpAny M A (evalAll (kws.map (·.2))) (fun ks s₂=>Q ⟨vs,(kws.filterMap (·.1)).zip ks⟩ s₂) E s₁) E s):wpAny M A (evalArgs f true args kws) Q E s:=by
 cases args with
 | nil =>
  unfold evalArgs;show wpAny M A (spliced []>>=_) Q E s;refine wpAny_bind (wpAny_mono h (fun vs s₁ h₁=>?_) fun _ _ x=>x);refine wpAny_bind (wpAny_pure ?_);refine wpAny_holding ?_;rw [if_pos hall];refine wpAny_bind (wpAny_mono h₁ (fun ks s₂ h₂=>?_) fun _ _ x=>x);exact wpAny_bind (wpAny_pure (wpAny_pure h₂))
 | cons x r =>
  obtain ⟨b,t⟩:=x
  cases b with
  | true=>exact absurd h0 (by simp)
  | false=>exact evalArgs_kw hall h
theorem callWith_k1 {Z:PMap}{fv:Value}{kp:Pos}{first:List Value}{args:List (Bool×Sem Value)}{kn:Str}{ke:Expr}{Q:Value->Shared->Prop}(hk:KeepOk C fv)(h0:args.any (·.1)=false)(h:wpAny C.M A (spliced args) (fun vs s₁=>wpAny C.M A (eval ke env) (fun y s₂=>C.K.In s₂.heap∧wpAny C.M A (call fv (first++vs) [(kn,y)]) Q (fun _ _=>False) s₂) (fun _ _=>False) s₁) (fun _ _=>False) s) :
  wpAny C.M A (callWith pos fv first args (backToKw pos (keywordEach [⟨some kn,ke,kp⟩] env))) Q (fun _ _=>False) s :=
 PySem.W.callWith_of (P:=fun hp=>C.K.In hp) (by rw [h0];rfl) (fun hp X=>hk.looks hp X) (evalArgs_gk h0 rfl (wpAny_mono h (fun vs s₁ h₁=>PyProof.Rows.kwAll_cons (wpAny_mono h₁ (fun y s₂ h₂=>wpAny_evalAll_nil h₂) fun _ _ x=>x)) fun _ _ x=>x))
theorem cE_call1k {args:List Expr}{kn:Str}{ke:Expr}{kp:Pos}(hev:∀ env,eval (.Call fe args [⟨some kn,ke,kp⟩] pos) env=(eval fe env>>=fun f=>callWith pos f [] (backTo pos (starEach args env)) (backToKw pos (keywordEach [⟨some kn,ke,kp⟩] env))))(hpl:∀ env,(backTo pos (starEach args env)).any (·.1)=false)(h:cE C d sc ε μ fe fun fw μ₁=>∃ fv,fw=.v (.glob fv)∧KeepOk C fv∧cEs C d sc ε μ₁ args fun xs μ₂=>cE C d sc ε μ₂ ke fun y μ₃=>cCall C d μ₃ fv xs [(kn,y)] k) :
  cE C d sc ε μ (.Call fe args [⟨some kn,ke,kp⟩] pos) k:=fun A env F Z s hA hs R S=>by
 rw [hev];refine wpAny_bind (wpBot (h A env F Z s hA hs R S) fun v s₁ hq=>?_);obtain ⟨fw,F₁,μ₁,⟨fv,hfw,hk,h₁⟩,le₁,S₁,hv⟩:=hq;subst hfw
 cases hv
 refine callWith_k1 (C:=C) (Z:=Z) hk (hpl env) (wpBot (h₁ A env F₁ Z s₁ pos hA hs (R.mono le₁) S₁) fun vs s₂ ⟨xs,F₂,μ₂,h₂,le₂,S₂,hxs⟩=>wpBot (h₂ A env F₂ Z s₂ hA hs (R.mono (le₁.trans le₂)) S₂) fun y s₃ ⟨yw,F₃,μ₃,h₃,le₃,S₃,hy⟩=>⟨S₃.kin,?_⟩);exact wpBot (h₃ A F₃ Z s₃ vs [(kn,y)] hA S₃ (hxs.mono le₃) (.cons hy .nil)) fun _ _ p=>p.trans ((le₁.trans le₂).trans le₃)
theorem cE_mcall1k {o:Expr}{name:Str}{apos:Pos}{args:List Expr}{kn:Str}{ke:Expr}{kp:Pos}(hbase:∀ env,attributeBase o name env (eval o env)=eval o env)(hfew:∀ env,methodCallForm (args.length+([⟨some kn,ke,kp⟩]:List Keyword).length) (backTo pos (starEach args env)) (backToKw pos (keywordEach [⟨some kn,ke,kp⟩] env))=true)(hline:(apos.endLine == pos.line)=true)(hpl:∀ env,(backTo pos (starEach args env)).any (·.1)=false)(h:cE C d sc ε μ o fun ow μ₁=>cMeth C d μ₁ ow name fun fv first μ₂=>KeepOk C fv∧cEs C d sc ε μ₂ args fun xs μ₃=>cE C d sc ε μ₃ ke fun y μ₄=>cCall C d μ₄ fv (first++xs) [(kn,y)] k) :
  cE C d sc ε μ (.Call (.Attribute o name apos) args [⟨some kn,ke,kp⟩] pos) k:=fun A env F Z s hA hs R S=>by
 rw [arm_eval_Call,hbase];refine wpAny_bind (wpBot (h A env F Z s hA hs R S) fun ov s₁ ⟨ow,F₁,μ₁,h₁,le₁,S₁,hv⟩=>wpAny_bind (wpAny_standAt ?_))
 have hpos:methodCallPos true o env apos pos=pure pos:=by unfold methodCallPos;simp [hline]
 unfold methodCall;rw [hfew];refine wpAny_bind (wpAny_holding (wpBot (h₁ A F₁ Z s₁ ov _ hA S₁ hv) fun p s₂ hq=>?_));obtain ⟨ws,F₂,μ₂,⟨hk,h₂⟩,le₂,S₂,hws⟩:=hq;obtain ⟨fv,first⟩:=p;refine wpAny_bind (wpAny_of_eq hpos ?_);refine callWith_k1 (C:=C) (Z:=Z) hk (hpl env) (wpBot (h₂ A env F₂ Z s₂ pos hA hs (R.mono (le₁.trans le₂)) S₂) fun vs s₃ ⟨xs,F₃,μ₃,h₃,le₃,S₃,hxs⟩=>wpBot (h₃ A env F₃ Z s₃ hA hs (R.mono ((le₁.trans le₂).trans le₃)) S₃) fun y s₄ ⟨yw,F₄,μ₄,h₄,le₄,S₄,hy⟩=>⟨S₄.kin,?_⟩)
 have hap:∀ {a:List W}{b:List Value},WsAt C.P F₄ a b->WsAt C.P F₄ (a++xs) (b++vs):=fun x=>by
  induction x with
  | nil=>exact hxs.mono le₄
  | cons p _ ih=>exact .cons p ih
 exact wpBot (h₄ A F₄ Z s₄ (first++vs) [(kn,y)] hA S₄ (hap (hws.mono (le₃.trans le₄))) (.cons hy .nil)) fun _ _ p=>p.trans (((le₁.trans le₂).trans le₃).trans le₄)
end
end
section
open PySem PySem.Calls
section
theorem v_addS (hz:x.length+y.length≤10000)(h:k (.v (.str (x++y))) μ):cV2 C d μ (.v (.str x)) (.v (.str y)) (binaryOp .Add) k:=fun A F Z s u v hA S hu hv=>by
 obtain ⟨t,rfl⟩:=(show ∃ t,u=.str x t by cases hu;exact ⟨_,rfl⟩);obtain ⟨t',rfl⟩:=(show ∃ t,v=.str y t by cases hv;exact ⟨_,rfl⟩);exact P.add_str (SB.post_add (by unfold sizeLine;lia) fun t' tk=>⟨_,F,μ,h,.refl _,S.tok _,.str _ _⟩)
theorem m_upper {kk:Value->List W->Mem->Prop}(h:kk (.builtin "str.upper") [.v (.str x)] μ):cMeth C d μ (.v (.str x)) "upper" kk:=fun A F Z s v pl hA S hv=>by
 obtain ⟨t,rfl⟩:=(show ∃ t,v=.str x t by cases hv;exact ⟨_,rfl⟩);exact GM.upper ⟨_,F,μ,h,.refl _,S,.cons (.str _ _) .nil⟩
theorem c_upper (he:Txt.upper x=y)(hz:Builtin.Str.tooLong y.length=false)(h:k (.v (.str y)) μ):cCall C d μ (.builtin "str.upper") [.v (.str x)] [] k:=fun A F Z s vs kvs hA S hv hkv=>by
 refine KwAt.i_nil hkv ?_;refine WsAt.i1 hv fun u hu=>?_;refine Val.i_str hu fun _=>?_;exact PySem.SC.upper (by rw [he];exact hz) (by rw [he];exact ⟨_,F,μ,h,.refl _,S.tok _,.str _ _⟩)
noncomputable def cJ (C:Cx)(d:Nat)(sc:Scope)(ε:Env1)(μ:Mem)(out:Str)(es:List Expr)(k:PostW):Prop :=
 ∀ (A:Around) (env:Env) (F Z:PMap) (s:Shared),Rm A d->env.scope=sc->EnvRel C F Z env ε->Sim C F Z μ s->wpAny C.M A (joinParts out (evalEach es env)) (Post C Z k F) (fun _ _=>False) s
theorem cE_joined {e₁ e₂:Expr}{es:List Expr}(h:cJ C d sc ε μ Str.empty (e₁::e₂::es) k):cE C d sc ε μ (.JoinedStr (e₁::e₂::es) pos) k:=fun A env F Z s hA hs R S =>
 PyProof.Rows.JoinedStr_many (h A env F Z s hA hs R S)
theorem cJ_nil {out:Str}(hz:out.length≤10000)(h:k (.v (.str out)) μ):cJ C d sc ε μ out [] k:=fun A env F Z s hA hs R S =>
 PyProof.Rows.joinParts_nil ⟨_,F,μ,h,.refl _,S.tok _,.str _ _⟩ (by unfold sizeLine;lia)
theorem cJ_val {out:Str}{es:List Expr}(h:cE C d sc ε μ e fun w μ'=>∃ x:Str,w=.v (.str x)∧(out++x).length≤10000∧cJ C d sc ε μ' (out++x) es k):cJ C d sc ε μ out (.FormattedValue e (-1) none pos::es) k:=fun A env F Z s hA hs R S =>
 PyProof.Rows.joinParts_cons (PyProof.Rows.FormattedValue_plain (wpBot (h A env F Z s hA hs R S) fun v s₁ ⟨w,F₁,μ₁,⟨x,hw,hz,h₁⟩,le₁,S₁,hv⟩=>by
  subst hw;refine Val.i_str hv fun t=>?_;refine PyProof.Rows.formatField_str (fun t' tk=>?_) (by have:(out++x).length=out.length+x.length:=strLen_append ..;unfold sizeLine;lia)
  exact ⟨by unfold sizeLine;lia,wpBot (h₁ A env F₁ Z _ hA hs (R.mono le₁) (S₁.tok tk)) fun _ _ p=>p.trans le₁⟩))
end
end
section
open PySem PySem.Calls
section
structure IterG (C:Cx)(G:Mem->Prop)(F:PMap)(it:Addr)(items:List W)(J:Nat->Obj->Prop):Prop where
 shape:∀ i o,J i o->∃ n vs,o.cls=.type n∧o.data=.fields vs∧(["enumerate", "zip", "dict_itemiterator", "dict_reverseitemiterator", "odict_iterator", "itertools.zip_longest", "itertools.pairwise"].contains n)=false
 item:∀ (i:Nat) (x:W) (A:Around) (s:Shared) (Q:Option Value->Shared->Prop) (E:Value->Shared->Prop) (o:Obj) (F' Y:PMap) (μ:Mem),A.handled=none->PLe F F'->Sim C F' Y μ s->G μ->s.heap.get? it=some o->J i o->items[i]? = some x->
  (∀ v h' o' tk,WAt C.P F' x v->Heap.SameBut it s.heap h'->h'.get? it=some o'->J (i+1) o'->Q (some v) { s with heap:=h',toks:=tk })->wpAny C.M A (pyNext (.ref it)) Q E s
 done:∀ (i:Nat) (A:Around) (s:Shared) (Q:Option Value->Shared->Prop) (E:Value->Shared->Prop) (o:Obj) (F' Y:PMap) (μ:Mem),A.handled=none->PLe F F'->Sim C F' Y μ s->G μ->s.heap.get? it=some o->J i o->items[i]? = none->
  (∀ h' tk,(∀ b o,b≠it->s.heap.get? b=some o->h'.get? b=some o)->Q none { s with heap:=h',toks:=tk })->wpAny C.M A (pyNext (.ref it)) Q E s
inductive PostG (C:Cx) (Z:PMap) (μ:Mem) (items:List W) (G:Mem->Prop) (F:PMap) (itv:Value) (s':Shared):Prop
 | mk (it:Addr) (J:Nat->Obj->Prop) (F':PMap) (o:Obj) (e:itv=.ref it) (le:PLe F F') (S:Sim C F' (PSet Z it o) μ s') (hz:Z it=none) (hj:J 0 o) (hi:IterG C G F' it items J):PostG C Z μ items G F itv s'
noncomputable def cIterG (C:Cx)(d:Nat)(μ:Mem)(x:W)(items:List W)(G:Mem->Prop):Prop :=
 ∀ (A:Around) (F Z:PMap) (s:Shared) (v:Value),Rm A d->Sim C F Z μ s->WAt C.P F x v->wpAny C.M A (pyIter v) (PostG C Z μ items G F) (fun _ _=>False) s
noncomputable def cForG (C:Cx)(d:Nat)(sc:Scope)(ε:Env1)(μ:Mem)(t:Expr)(body:List Stmt)(items:List W)(G:Mem->Prop)(kf:PostF):Prop :=
 ∃ Inv:Nat->Env1->Mem->Prop,Inv 0 ε μ∧(∀ i ε' μ',Inv i ε' μ'->G μ') ∧
  (∀ i x ε' μ',items[i]? = some x->Inv i ε' μ'->cAsg C d sc ε' μ' t x fun ε₁ μ₁=>cS C d sc ε₁ μ₁ body (forK Inv i kf)) ∧
  ∀ ε' μ',Inv items.length ε' μ'->kf .next ε' μ'
theorem IterG.lotGo {G:Mem->Prop}{it:Addr}{items:List W}(hi:IterG C G F it items J){t:Expr}{v:Value}(hJ:J i o){Q:Unit->Shared->Prop}(h3:s.heap.get? it=some o)(hQ:Q () s) :
  wpAny C.M A (letOwnedTupleGo t (.ref it) v) Q E s:=el23 (hi.shape _ _ hJ) fun nm vs c1 c2 c3=>by
 have core:∀ (b:Addr) (es:List Expr) c p,wpAny C.M A (letOwnedTupleGo (.Tuple es c p) (.ref it) (.ref b)) Q E s:=fun b es c p=>by
  refine wpAny_bind (wpAny_load h3 ?_);rw [c1,c2];show wpAny C.M A (if (_&&_)=true then _ else _) Q E s;rw [c3,Bool.false_and,if_neg Bool.false_ne_true];exact wpAny_pure hQ
 cases t with
 | Tuple es c p=>cases v with
  | ref b=>exact core b es c p
  | _=>exact wpAny_pure hQ
 | List es p=>cases v with
  | ref b=>exact core b es 0 p
  | _=>exact wpAny_pure hQ
 | _=>exact wpAny_pure hQ
inductive ForG (C:Cx) (Z F₂:PMap) (it:Addr) (items:List W) (J:Nat->Obj->Prop) (Inv:Nat->Env1->Mem->Prop) (env:Env) (n:Nat) (s:Shared):Prop
 | mk (i:Nat) (ε:Env1) (μ:Mem) (F:PMap) (o:Obj) (hn:n=items.length-i) (hi:i≤items.length) (le:PLe F₂ F) (SS:SimS C F (PSet Z it o) μ s env ε) (hJ:J i o) (hInv:Inv i ε μ):ForG C Z F₂ it items J Inv env n s
theorem cS1_forG {t:Expr}{body:List Stmt}(hs:∀ env x,foldedSetIterable iter env x=pure x)(h:cE C d sc ε μ iter fun w μ₁=>∃ items G,cIterG C d μ₁ w items G∧cForG C d sc ε μ₁ t body items G kf):cS1 C d sc ε μ (.For t iter body [] pos) kf:=fun A env F Z s hA hsc SS=>by
 refine wpAny_For (el13 SS fun S₀ hS hR hO=>?_) (hs env);refine wpBot (h A env F _ s hA hsc hR hS) fun v s₁ hq=>hq.casesOn fun w F₁ μ₁ hq le₁ S₁ hw=>el22 hq fun items G hI hF=>?_;refine wpBot (hI A F₁ _ s₁ v hA S₁ hw) fun itv s₂ hq=>hq.casesOn fun it J F₂ o e le₂ S₂ hz hJ hit=>?_;subst e;refine hF.elim fun Inv hF=>?_;obtain ⟨inv0,hG,turn,fin⟩:=hF;clear hI h hq hS S₁ hw
 refine codeAny_loop' rfl (ForG C Z F₂ it items J Inv env) (fun n s' hI=>hI.casesOn fun i ε' μ' F' o' hn hi le' SS hJ' hInv=>?_) items.length
  ⟨0,ε,μ₁,F₂,o,rfl,Nat.zero_le _,.refl _,.take S₂ hz hR hO (le₁.trans le₂),hJ,inv0⟩
 have zit:=(PUn.noBoth hz).1;refine kpost fun K hK=>?_;refine wpAny_noted (wpAny_bind (wpAny_standAt (wpAny_bind (kpost fun K' hK'=>wpAny_onRaise ?_))));rw [show A.under (.forLoop t (.ref it) body [] env)=A from Around.under_of_weight rfl];have hto:s'.heap.get? it=some o':=el13 SS fun _ a _ _=>a.zz _ _ (by rw [PUn.pset];exact PSet.self ..);have hle:PLe F F':=(le₁.trans le₂).trans le';refine el13 (id SS) fun S₉ q9 _ _=>?_
 rcases Nat.lt_or_ge i items.length with hlt | hge
 ·have hx:items[i]? = some items[i]:=List.getElem?_eq_getElem hlt;refine hit.item i items[i] A s' _ _ o' F' _ μ' hA.hd le' q9 (hG i ε' μ' hInv) hto hJ' hx fun v h' o'' tk hv hsb ho'' hJ''=>hK' _ _ ?_;refine wpAny_bind (hit.lotGo hJ'' ho'' (wpAny_bind ?_));refine wpBot (turn i items[i] ε' μ' hx hInv A env F' _ _ v hA hsc (SS.item hsb ho'' tk) hv) fun _ s₄ hq=>hq.casesOn fun ε₁ μ₃ F₃ hb le₃ S₃=>wpAny_bind ?_;refine wpBot (hb A env F₃ _ s₄ hA hsc S₃) fun f s₅ hq=>hq.casesOn fun fl ε₂ μ₂ F₄ hk hfl le₄ S₄=>?_;have le5:PLe F' F₄:=le₃.trans le₄;have back:SimS C F₄ Z μ₂ s₅ env ε₂:=S₄.leave (h':=s₅.heap) zit (fun _ _ _ e=>e) s₅.toks
  have on:∀ ε₃ μ₄,(∀ x w,ε₃.lookup x=some w->ε₂.lookup x=some w)->μ₄.Sublist μ₂->Inv (i+1) ε₃ μ₄->K (.again (.forLoop t (.ref it) body [] env)) s₅:=fun ε₃ μ₄ k1 k2 k3 =>
   hK _ _ (.inl ⟨rfl,items.length-(i+1),hn▸Nat.sub_lt_sub_left hlt (Nat.lt_succ_self i),i+1,ε₃,μ₄,F₄,o'',rfl,hlt,le'.trans le5,S₄.weaken k1 k2,hJ'',k3⟩)
  cases fl with
  | next=>cases hfl;exact el22 hk fun ε₃ μ₄ k k3=>wpAny_pure (on ε₃ μ₄ k.1 k.2 k3)
  | cont=>cases hfl;exact el22 hk fun ε₃ μ₄ k k3=>wpAny_pure (on ε₃ μ₄ k.1 k.2 k3)
  | brk=>cases hfl;exact wpAny_pure (hK _ _ ⟨.next,ε₂,μ₂,F₄,hk,rfl,hle.trans le5,back⟩)
  | ret w=>exact el12 hfl fun vr e hw'=>by subst e;exact wpAny_pure (hK _ _ ⟨.ret w,ε₂,μ₂,F₄,hk,⟨vr,rfl,hw'⟩,hle.trans le5,back⟩)
 ·have hie:i=items.length:=Nat.le_antisymm hi hge;refine hit.done i A s' _ _ o' F' _ μ' hA.hd le' q9 (hG i ε' μ' hInv) hto hJ' (List.getElem?_eq_none_iff.mpr hge) fun h' tk hk=>hK' _ _ ?_;exact wpAny_pure (hK _ _ (.inr ⟨rfl,codeAny_block (wpAny_execs_nil ⟨.next,ε',μ',F',fin ε' μ' (hie▸hInv),rfl,hle,SS.leave zit hk tk⟩)⟩))
theorem Sim.ownList (S:Sim C F Z μ s)(hm:(a,O.list xs)∈μ):∃ ws n,s.heap.IsList a ws∧WsAt C.P F xs ws.toList∧s.heap.get? a=some { cls:=.type "list",data:=.seq ws n }:=by
 obtain ⟨_,_,ob,h3,ws,n,e,hw⟩:=S.own a _ hm;subst e;exact ⟨ws,n,⟨_,h3,rfl,n,rfl⟩,hw,h3⟩
theorem it_own (hm:(a,O.list xs)∈μ):cIterG C d μ (.l a) xs fun μ'=>(a,O.list xs)∈μ':=fun A F Z s v hA S hv=>by
 refine WAt.i_l hv ?_;obtain ⟨ws,n,hL,_,_⟩:=S.ownList hm;refine wpAny_pyIter_list hL ⟨s.heap.objs.size,fun i o=>o.cls=.type "list_iterator" ∧ o.data=.fields #[.ref a,.int i 0],F,_,rfl,.refl _,S.pushZ rfl,(fresh_none S).2.1,⟨rfl,rfl⟩,?_⟩;refine ⟨fun i o h=>⟨_,_,h.1,h.2,by decide⟩,fun i x A s' Q E o F' Y μ' hh le S' hG ho hJ hx hQ=>?_,fun i A s' Q E o F' Y μ' hh le S' hG ho hJ hx hQ=>?_⟩
 ·obtain ⟨ws',n',hL',hw',_⟩:=S'.ownList hG;obtain ⟨y,hy,hyw⟩:=hw'.get hx;refine wpAny_pyNext_list_item ⟨o,ho,hJ.1,hJ.2⟩ hL' (by rw [<-Array.getElem?_toList];exact hy) fun h' hit hs=>?_;obtain ⟨o',ho',hc',hd'⟩:=hit;exact hQ y h' o' s'.toks hyw hs ho' ⟨hc',hd'⟩
 ·obtain ⟨ws',n',hL',hw',_⟩:=S'.ownList hG;refine wpAny_pyNext_list_end hh ⟨o,ho,hJ.1,hJ.2⟩ hL' ?_ fun h' hs=>hQ h' s'.toks hs
  have e:ws'.size=xs.length:=by rw [<-Array.length_toList,hw'.length]
  rw [Array.getElem?_eq_none_iff,e];exact List.getElem?_eq_none_iff.mp hx
noncomputable def signsV (x:Str):List V:=x.cps.toList.map fun c=>.str ⟨#[c]⟩
theorem it_str (ha:x.cps.all (·<128)=true):cIter C d μ (.v (.str x)) (· = signsV x):=fun A F Z s v hA S hv=>by
 refine Val.i_str hv fun t=>?_;refine wpAny_pyIter_ascii ha ⟨s.heap.objs.size,signsV x,fun i o=>o.cls=.type "str_ascii_iterator" ∧ o.data=.fields #[.str x t,.int i 0],F,_,rfl,rfl,.refl _,S.pushZ rfl,(fresh_none S).2.1,⟨rfl,rfl⟩,?_⟩;refine ⟨fun i o h=>⟨_,_,h.1,h.2,by decide⟩,fun i y A s' Q E o hh hF ho hJ hx hQ=>?_,fun i A s' Q E o hh hF ho hJ hx hQ=>?_,fun i A s' Q E o ho hJ h=>wpAny_pyIter_striter_ascii ⟨o,ho,hJ.1,hJ.2⟩ h⟩
 ·unfold signsV at hx;rw [List.getElem?_map] at hx;refine el12 (Option.map_eq_some_iff.mp hx) fun c hc e=>?_;subst e;refine wpAny_pyNext_ascii_item ⟨o,ho,hJ.1,hJ.2⟩ (by rw [<-Array.getElem?_toList];exact hc) fun h' hit hs=>?_;obtain ⟨o',ho',hc',hd'⟩:=hit;exact hQ _ h' o' _ (.str _ _) hs ho' ⟨hc',hd'⟩
 ·unfold signsV at hx;rw [List.getElem?_map] at hx;refine wpAny_pyNext_ascii_end hh ⟨o,ho,hJ.1,hJ.2⟩ (by rw [<-Array.getElem?_toList];exact Option.map_eq_none_iff.mp hx) fun h' hs=>hQ h' s'.toks hs
end
end
section
open PySem PySem.Calls PyProof.Rows
section
variable {w:World}
theorem adjust_last (hn:2≤n):Builtin.Slice.sliceAdjust (some (-2)) none 1 (n:Int)=(((n-2:Nat):Int),(n:Int)):=by
 unfold Builtin.Slice.sliceAdjust
 have h1:¬ ((1:Int)<0):=by omega
 have h2:((-2:Int)<0):=by omega
 simp only [h1,h2,if_false,if_true]
 congr 1
 rw [show (-2:Int)+(n:Int)=((n-2:Nat):Int) by rw [Int.ofNat_sub hn,Int.add_comm];rfl];exact Int.max_eq_left (Int.natCast_nonneg _)
theorem sliceApplied_last {sl:Addr}{u:Tok}{Q:Int×Int×Nat->Shared->Prop}(hs:s.heap.IsSliceOf sl (.int (-2) u) .none .none)(hn:2≤n)(h:Q (((n-2:Nat):Int),1,n-(n-2)) s) :
  wpAny (model prog w) A (Builtin.Slice.sliceApplied (.ref sl) (pure (n:Int))) Q E s:=by
 obtain ⟨os,hos,hcs,hds⟩:=id hs;unfold Builtin.Slice.sliceApplied Builtin.Slice.sliceFields;refine wpAny_bind (wpAny_bind (wpAny_field hos hds (x:=.int (-2) u) rfl (wpAny_bind (wpAny_field hos hds (x:=.none) rfl (wpAny_bind (wpAny_field hos hds (x:=.none) rfl (wpAny_pure ?_)))))));refine wpAny_bind (slicePart_none ?_);show wpAny _ _ (if ((1:Int) == 0)=true then _ else _) _ _ s;rw [if_neg (by decide)];refine wpAny_bind (slicePart_int (wpAny_bind (slicePart_none (wpAny_bind (wpAny_pure ?_)))));show wpAny _ _ (match Builtin.Slice.sliceAdjust (some (-2:Int)) none 1 (n:Int) with | (lo,hi)=>pure (lo,(1:Int),Builtin.Slice.slicePlaces lo hi 1)) _ _ s;rw [adjust_last hn];show wpAny _ _ (pure (((n-2:Nat):Int),(1:Int),Builtin.Slice.slicePlaces ((n-2:Nat):Int) (n:Int) 1)) _ _ s;rw [places_from (n-2) n (by omega)];exact wpAny_pure h
theorem getItem_last {t sl:Addr}{items:Array Value}{u:Tok}{Q:Value->Shared->Prop}(ht:IsTup s.heap t items)(hs:s.heap.IsSliceOf sl (.int (-2) u) .none .none)(h1:3≤items.size)(h:Q (.ref s.heap.objs.size) { s with heap:=s.heap.push { cls:=.type "tuple",data:=.seq (items.toList.drop (items.size-2)).toArray } })(hsz:items.size≤sizeLine):wpAny (model prog w) A (getItem (.ref t) (.ref sl)) Q E s:=by
 have hdrop:sizeOk (.seq (items.toList.drop (items.size-2)).toArray):=by
  show (items.toList.drop (items.size-2)).toArray.size≤sizeLine;rw [List.size_toArray,List.length_drop,Array.length_toList];exact Nat.le_trans (Nat.sub_le ..) hsz
 obtain ⟨os,hos,hcs,hds⟩:=id hs;have hTs:s.TypeIs (.ref sl) "slice" := ⟨os,hos,hcs⟩;unfold getItem
 try with_reducible refine wpAny_holding ?_
 first | refine wpAny_bind (wpAny_pure ?_) | skip
 refine wpAny_bind (wpAny_sequenceKey ht.typeIs (by decide) ?_)
 refine wpAny_bind (wpAny_callSpecial?_slot (name:=Str.ofString "__getitem__") ht.typeIs slot_tuple_getitem
  (wpAny_call_entry slot_tuple_getitem ht.typeIs entry_tuple_getitem ?_ (args_tuple_getitem _ _)))
 show wpAny _ _ (Builtin.Tuple.tupleItemsOf (.ref t)>>=_) _ _ s;refine wpAny_bind (tupleItemsOf_ ht ?_);refine wpAny_bind (wpAny_typeOf hTs ?_);rw [if_pos (by decide)];refine wpAny_bind (sliceApplied_last hs (by omega) ?_)
 have hno:¬ ((((items.size-2:Nat):Int) == 0&&(1:Int) == 1&&(items.size-(items.size-2)) == items.size)=true):=by
  have:(((items.size-2:Nat):Int) == 0)=false:=by rw [beq_eq_false_iff_ne];exact fun e=>absurd (Int.ofNat.inj e) (Nat.ne_of_gt (Nat.sub_pos_of_lt h1))
  rw [this];simp
 show wpAny _ _ (if (((items.size-2:Nat):Int) == 0&&(1:Int) == 1&&(items.size-(items.size-2)) == items.size)=true then _ else _) _ _ s;rw [if_neg hno,pick_from items (items.size-2) (by omega)]
 first
  | exact wpAny_bind (m:=Builtin.Tuple.tupleExact _) (wpAny_newObj_type (wpAny_pure ⟨_,rfl,wpAny_pure h⟩) hdrop)
  | exact wpAny_bind (m:=Builtin.Tuple.tupleExact _) (wpAny_newObj_type (wpAny_bind (wpAny_pure (wpAny_pure ⟨_,rfl,wpAny_pure h⟩))) hdrop)
  | exact wpAny_bind (wpAny_bind (m:=Builtin.Tuple.tupleExact _) (wpAny_newObj_type (wpAny_pure (wpAny_pure ⟨_,rfl,wpAny_pure h⟩)) hdrop))
  | exact wpAny_bind (wpAny_bind (m:=Builtin.Tuple.tupleExact _) (wpAny_newObj_type (wpAny_pure ⟨_,rfl,wpAny_pure h⟩) hdrop))
end
section
theorem cE_neg {a:Int}{kd:Nat}{p:Pos}(h:k (.v (.int (-a))) μ):cE C d sc ε μ (.UnaryOp .USub (.Constant (.int a) kd p) pos) k:=fun A env F Z s hA hs R S =>
 wpAny_UnaryOp (wpAny_Constant_int (PyProof.Rows.neg_int ⟨_,F,μ,h,.refl _,(S.tok _).tok _,.int _ _⟩))
theorem Vals.drop {ds:List V}{us:List Value}(q:Vals P F ds us):Vals P F (ds.drop n) (us.drop n):=by
 induction n generalizing ds us with
 | zero=>exact q
 | succ n ih=>cases q with
  | nil=>exact .nil
  | cons a b=>exact ih b
end
end
section
open PySem PySem.Calls
open PyProof.Rows (sortedHeap sortedHeap_old sortedHeap_at pairsOf pairsOf_toList pairsOf_size arrOf strKind_oneLt SortedToK list_sort_treeK)
theorem Fz.pick (h:∀ p∈μ',p∈μ)(hn:(μ.map (·.1)).Nodup->(μ'.map (·.1)).Nodup):Fz C (fun w w'=>w=w') μ μ':=fun F Z s S =>
 ⟨F,.refl _,⟨S.base,S.fz,S.zz,S.dis,fun a o q=>S.own a o (h _ q),⟨hn S.nod.1,fun a ha=>by
  obtain ⟨p,hp,rfl⟩:=List.mem_map.mp ha
  exact S.nod.2 _ (List.mem_map_of_mem (h _ hp))⟩,S.os,S.gens⟩,fun w w' v e x=>e▸x⟩
section
theorem cCall.nod {fv:Value}(h:(μ.map (·.1)).Nodup->cCall C d μ fv xs kws k):cCall C d μ fv xs kws k:=fun A F Z s vs kvs a S=>h S.nod.1 A F Z s vs kvs a S
theorem cAsg.nod {t:Expr}{w:W}{ke:Env1->Mem->Prop}(h:(μ.map (·.1)).Nodup->cAsg C d sc ε μ t w ke):cAsg C d sc ε μ t w ke:=fun A env F Z s v a b c=>c.elim fun S q=>h q.1.nod.1 A env F Z s v a b ⟨S,q⟩
theorem nod_eq (hn:(μ.map (·.1)).Nodup){x y:O}(h1:(a,x)∈μ)(h2:(a,y)∈μ):x=y:=by
 induction μ with
 | nil=>cases h1
 | cons p r ih =>
  obtain ⟨hn1,hn2⟩:=List.nodup_cons.mp hn
  rcases List.mem_cons.mp h1 with q | q
  ·rcases List.mem_cons.mp h2 with q' | q'
   ·subst q;injection q' with _ q';exact q'.symm
   ·subst q;exact absurd (List.mem_map_of_mem (f:=(·.1)) q') hn1
  ·rcases List.mem_cons.mp h2 with q' | q'
   ·subst q';exact absurd (List.mem_map_of_mem (f:=(·.1)) q) hn1
   ·exact ih hn2 q q'
theorem cIter.toG {w:W}{vs:List V}(h:cIter C d μ w (· = vs)):cIterG C d μ w (vs.map .v) fun _=>True:=fun A F Z s v hA S hv=>by
 refine wpBot (h A F Z s v hA S hv) fun itv s₂ hq=>hq.casesOn fun it items J F₂ o e hp le₂ S₂ hz hJ hit=>?_;subst hp;refine ⟨it,J,F₂,o,e,le₂,S₂,hz,hJ,hit.shape,fun i x A s' Q E o' F' Y μ' hh le S' _ ho hJ' hx hQ=>?_,fun i A s' Q E o' F' Y μ' hh le S' _ ho hJ' hx hQ=>?_⟩
 ·rw [List.getElem?_map] at hx;obtain ⟨v',hv',rfl⟩:=Option.map_eq_some_iff.mp hx;exact hit.item i v' A s' Q E o' hh (fun a ob e=>S'.fz a ob (le a ob e)) ho hJ' hv' fun v'' h' o'' tk a b c d=>hQ v'' h' o'' tk (Val.mono le a) b c d
 ·rw [List.getElem?_map] at hx;exact hit.done i A s' Q E o' hh (fun a ob e=>S'.fz a ob (le a ob e)) ho hJ' (Option.map_eq_none_iff.mp hx) hQ
noncomputable def gL (ad:Str->Addr)(c:Str->List V)(L:List Str):Mem:=L.map fun i=>(ad i,O.list ((c i).map .v))
theorem fz_gL {K:Str->Key}{ad:Str->Addr}{c:Str->List V}{r:Mem}:∀ (L:List Str),
  Fz C (fun w w'=>w=w') (gL ad c L++(D,.dict (dom.map fun i=>(K i,if i∈L then W.l (ad i) else W.v (.list (c i)))))::r) ((D,.dict (dom.map fun i=>(K i,W.v (.list (c i)))))::r)
 | []=>by simpa [gL] using Fz.refl
 | j::L=>by
  have h1:Fz C (FrzW (ad j) (.list (c j))) (gL ad c (j::L)++(D,.dict (dom.map fun i=>(K i,if i∈j::L then W.l (ad i) else W.v (.list (c i)))))::r)
    (gL ad c L++(D,.dict (dom.map fun i=>(K i,if i∈L then W.l (ad i) else W.v (.list (c i)))))::r):=by
   refine fz_obj (o:=.list ((c j).map .v)) (.head _) (.list (frozen_map _)) .here (FrzT.append (FrzT.refl _) (.cons (.dict ?_) (FrzT.refl _)))
   induction dom with
   | nil=>exact .nil
   | cons x dom ih =>
    refine .cons ?_ ih;by_cases e1:x∈L
    ·rw [if_pos e1,if_pos (.tail _ e1)];exact .same _
    ·rw [if_neg e1];by_cases e2:x=j
     ·subst e2;rw [if_pos (.head _)];exact .put
     ·rw [if_neg (by simp [e1,e2])];exact .same _
  exact (h1.trans (fz_gL L)).imp fun w w' q=>⟨w,.same _,q⟩
theorem fz_lists {K:Str->Key}{ad:Str->Addr}{c:Str->List V}{B r:Mem}(hd:dom.Nodup)(hB:∀ i∈dom,(ad i,O.list ((c i).map .v))∈B)(hc:∀ i∈dom,∀ j∈dom,c i=c j->i=j) :
  Fz C (fun w w'=>w=w') (B++(D,.dict (dom.map fun i=>(K i,W.l (ad i))))::r) ((D,.dict (dom.map fun i=>(K i,W.v (.list (c i)))))::r):=by
 have hm:∀ p∈gL ad c dom,p∈B:=fun p hp=>by obtain ⟨i,hi,rfl⟩:=List.mem_map.mp hp;exact hB i hi
 have f1:Fz C (fun w w'=>w=w') (B++(D,.dict (dom.map fun i=>(K i,W.l (ad i))))::r) (gL ad c dom++(D,.dict (dom.map fun i=>(K i,if i∈dom then W.l (ad i) else W.v (.list (c i)))))::r):=by
  have e:(dom.map fun i=>(K i,if i∈dom then W.l (ad i) else W.v (.list (c i))))=dom.map fun i=>(K i,W.l (ad i)):=List.map_congr_left fun i hi=>by rw [if_pos hi]
  rw [e];refine Fz.pick (fun p hp=>?_) fun hn=>?_
  ·rcases List.mem_append.mp hp with q | q
   ·exact List.mem_append_left _ (hm p q)
   ·exact List.mem_append_right _ q
  ·rw [List.map_append] at hn ⊢;obtain ⟨n1,n2,n3⟩:=List.nodup_append.mp hn;refine List.nodup_append.mpr ⟨?_,n2,fun x hx y hy=>n3 x ?_ y hy⟩
   ·rw [gL,List.map_map];refine map_nodup (fun i hi j hj q=>hc i hi j hj ?_) hd;have h1:=hB i hi;have h2:=hB j hj;have q:ad i=ad j:=q;rw [q] at h1;have e:=nod_eq n1 h1 h2;injection e with e;exact (List.map_inj_right (fun x y q=>by injection q)).mp e
   ·obtain ⟨p,hp,rfl⟩:=List.mem_map.mp hx;exact List.mem_map_of_mem (hm p hp)
 exact (f1.trans (fz_gL dom)).imp fun w w' q=>⟨w,rfl,q⟩
theorem c_sortedL {xs:List Str}(hz:xs.length<64)(h:∀ L:List Str,L.Perm xs->StrSorted L->k (.v (.list (L.map V.str))) μ):cCall C (d+3) μ (.builtin "sorted") [.v (.list (xs.map .str))] [] k:=fun A F Z s us kws hA S hv hkw=>by
 refine KwAt.i_nil hkw ?_;refine WsAt.i1 hv fun u hu=>?_;refine Val.i_list hu fun a ws n h1 h2=>?_;refine Calls.call_function_entry PyProof.Rows.kind_sorted PyProof.Rows.plain_sorted PyProof.Rows.entry_sorted (PyProof.Rows.args_sorted1 _) ?_;unfold Builtin.«sorted»;refine wpAny_bind (m:=checkCount "sorted" 1 1 _) (wpAny_pure ?_)
 have hlen:ws.toList.length=xs.length:=by rw [h2.length,List.length_map]
 have hIs:s.heap.IsList a ws.toList.toArray:=⟨_,S.fz _ _ h1,rfl,n,by rw [Array.toArray_toList]⟩;refine wpAny_bind (PyProof.Rows.collect_list hIs ?_ (by rw [sizeLine_eq];lia))
 have hk:∀ b o,s.heap.get? b=some o->((s.heap.push (PyProof.Rows.seqObj "list" #[] 0)).update s.heap.objs.size (Obj.mapSeq (·++ws.toList.toArray))).get? b=some o:=fun b o q=>by
  have hlt:=Heap.lt_size q;exact Heap.get?_update_of_ne _ (Nat.ne_of_gt hlt) (Heap.get?_push_of_some _ q)
 have S':=S.ext hk s.toks;have hS:PyProof.Rows.StrsAre ws.toList xs:=Vals.strsAre h2;generalize ({ s with heap:=(s.heap.push (PyProof.Rows.seqObj "list" #[] 0)).update s.heap.objs.size (Obj.mapSeq (·++ws.toList.toArray)) }:Shared)=s' at S';refine wpAny_bind (wpAny_newObj_type ?_ (by show ws.toList.toArray.size≤sizeLine;rw [List.size_toArray,sizeLine_eq];lia));have hoL:(s'.heap.push { cls:=.type "list",data:=.seq ws.toList.toArray }).get? s'.heap.objs.size=some (PyProof.Rows.seqObj "list" ws.toList.toArray 0):=Heap.get?_push_size _ rfl;refine wpAny_bind (wpAny_holding (wpAny_call_entry PyProof.Rows.slot_list_sort ⟨_,hoL,rfl⟩ PyProof.Rows.entry_list_sort (list_sort_treeK strKind_oneLt hoL hS.keysOf (fun v₁ v₂ rest e=>PyProof.Rows.keyKind_strs (by rw [<-e];exact hS)) (by lia) fun st' a1 a2=>⟨_,rfl,?_⟩) (PyProof.Rows.args_list_sort _)));refine el13 (PyProof.Rows.sorted_out_str hS a1 a2) fun ss' g1 g2 g3=>?_;obtain ⟨e,he⟩:=sortedHeap_at (out:=(arrOf st').map (·.2)) hoL
 have hold:∀ b o,s'.heap.get? b=some o->(sortedHeap (s'.heap.push { cls:=.type "list",data:=.seq ws.toList.toArray }) s'.heap.objs.size ws.toList ((arrOf st').map (·.2))).get? b=some o:=fun b o q=>by
  have hlt:=Heap.lt_size q;rw [sortedHeap_old (Nat.ne_of_lt hlt) (by rw [Heap.size_push];exact Nat.lt_succ_of_lt hlt)];exact Heap.get?_push_of_some _ q
 refine el13 (S'.newF (s':={ s' with heap:=sortedHeap (s'.heap.push { cls:=.type "list",data:=.seq ws.toList.toArray }) s'.heap.objs.size ws.toList ((arrOf st').map (·.2)) }) hold he rfl rfl) fun F'' le' hF S''=>?_;exact wpAny_pure ⟨_,rfl,.v (.list (ss'.map V.str)),F'',μ,h ss' g2 (sorted_pw g3),le',S'',.list hF (strsAre_vals g1)⟩
end
end
section
open PySem PySem.Calls
open PySem.W (KasT kas_sort kas_ask KatLex kas_item)
open PyProof.Rows (sortedHeap sortedHeap_old sortedHeap_at arrOf failedOf seqObj keyLt' tuples' keyKind' general' sortRuns' SortSt list_sort_plain listItems_at listUpdate_at seqEpoch_at get?_update_seq size_push' SortKind)
section
variable {w:World}
theorem kas_any {α:Type}{P:α->Prop}{cmp:Nat->Nat->(Bool->Shared->Prop)->Shared->Prop}(hc:∀ i j C,i<n->j<n->(∀ b,C b s)->cmp i j C s){Q:α->Shared->Prop}(hQ:∀ a,P a->Q a s){t:KasT α}(g:KGood n P t):t.kasWp cmp Q s:=by
 induction t with
 | ret a=>exact hQ a g
 | ask i j k ih=>exact hc i j _ g.1 g.2.1 fun b=>ih b (g.2.2 b)
theorem lex_any {fin:Bool}(h:∀ b,Q b s){xs:List Str}{us:List Value}(hx:StrsAt xs us):∀ {ys:List Str}{vs:List Value}(i:Nat),StrsAt ys vs->KatLex prog w A true fin Q (us.zip vs) i s:=by
 induction hx with
 | nil=>intro ys vs i hy;exact PySem.W.kat_nil (h _)
 | @cons a tk r us _ ih =>
  intro ys vs i hy
  cases hy with
  | nil=>exact PySem.W.kat_nil (h _)
  | @cons b tk' t vs hy =>
   refine PySem.W.kat_cons ((PySem.strKind prog w).eqBool (strKind_is _ _ _ _) (strKind_is _ _ _ _) ?_)
   cases decide (a=b) with
   | true=>exact PySem.W.kat_yes (ih (i+1) hy)
   | false =>
    refine PySem.W.kat_no ?_
    cases i with
    | zero=>exact PyProof.Rows.strKind_oneLt prog w A _ s _ _ _ _ rfl rfl (h _)
    | succ i=>exact PySem.W.kat_one _ _ (PyProof.Rows.lt_str (h _))
theorem tup_any {xs ys:List Str}{u v:Value}(hF:PIn F s.heap)(hu:StrTup F xs u)(hv:StrTup F ys v)(h:∀ b,Q b s):wpAny (model prog w) A (keyLt' (tuples' true) u v) Q E s :=
 el33 hu fun a ws n e1 g1 g2=>el33 hv fun b ws' n' e2 g3 g4=>e1▸e2▸PySem.W.kat_lt (hF _ _ g1) rfl (hF _ _ g3) rfl (lex_any h g2 0 g4)
end
theorem val_at {L:List (List Str)}(hvs:Vals P F ((L.map Key.t).map Key.val) vs)(hi:i<L.length):Val P F (V.tup ((L.getD i []).map V.str)) (vs.getD i Value.none):=by
 have e:((L.map Key.t).map Key.val)[i]? = some (V.tup ((L.getD i []).map V.str)):=by
  rw [List.getElem?_map,List.getElem?_map,List.getD_eq_getElem?_getD,List.getElem?_eq_getElem hi];rfl
 exact el12 (hvs.get e) fun v h1 h2=>by rw [List.getD_eq_getElem?_getD (l:=vs),h1];exact h2
theorem kat_tups {h:Heap}(hF:PIn F h){L:List (List Str)}:∀ {vs:List Value},Vals P F ((L.map Key.t).map Key.val) vs->(∀ x∈L,x≠[])->∃ fs,PySem.W.KatTups h vs fs∧fs.length=L.length∧∀ f∈fs,∃ x t,f=Value.str x t:=by
 induction L with
 | nil=>intro vs q _;exact q.i_nil ⟨[],PySem.W.KatTups.nil,rfl,fun _ h=>by cases h⟩
 | cons x r ih =>
  intro vs q hne;refine q.i_cons fun w ws a b=>?_;refine el13 (ih b fun y hy=>hne y (.tail _ hy)) fun fs h1 h2 h3=>?_;refine el33 (Val.strTup a) fun ad us n e g1 g2=>?_
  cases x with
  | nil=>exact absurd rfl (hne [] (.head _))
  | cons y ys =>
   have:∃ t rest,us.toList=Value.str y t::rest:=by
    generalize us.toList=l at g2
    cases g2 with | cons h=>exact ⟨_,_,rfl⟩
   refine el21 this fun t rest hl=>?_;refine ⟨.str y t::fs,e▸PySem.W.KatTups.cons (hF _ _ g1) rfl rfl (by rw [<-Array.getElem?_toList,hl];rfl) h1,congrArg (· + 1) h2,fun f hf=>?_⟩;exact (List.mem_cons.mp hf).elim (fun q=>⟨y,t,q⟩) (h3 f)
noncomputable def srtH (h:Heap)(a:Addr)(vs:List Value):Heap:=((h.update a (Obj.mapSeq fun _=>#[])).push (seqObj "tuple" vs.toArray 0)).push (seqObj "list" #[] 0)
noncomputable def ordA (vs:List Value)(ord:List Nat):Array Value:=(ord.map fun i=>vs.getD i Value.none).toArray
theorem range_getD (vs:List Value):(List.range vs.length).map (fun i=>vs.getD i Value.none)=vs:=by
 apply List.ext_getElem
 ·simp
 ·intro i q1 q2;simp [q2]
section
theorem sort_any {L:List (List Str)}{P:PySem.Fin->Shared->Prop}(hne:∀ x∈L,x≠[])(hvs:Vals C.P F ((L.map Key.t).map Key.val) vs)(hlen:vs.length=L.length)(h64:vs.length<64)(hF:PIn F s.heap)(hFa:F a=none)(ho:s.heap.get? a=some (seqObj "list" vs.toArray n))(h:∀ ord:List Nat,ord.Perm (List.range vs.length)->P (.done (.ret .none)) { s with heap:=sortedHeap s.heap a vs (ordA vs ord) }) :
  wpAny C.M A (Builtin.«list.sort» ⟨[.ref a],[]⟩) P (fun _ _=>False) s:=by
 have hline:vs.length≤sizeLine:=by rw [sizeLine_eq];lia
 rw [list_sort_plain];have ha:a<s.heap.objs.size:=Heap.lt_size ho;refine wpAny_bind (listItems_at ho rfl ?_);refine wpAny_bind (listUpdate_at ho rfl ?_ hline (Nat.zero_le _));refine Exists.elim (show ∃ e1,(s.heap.update a (Obj.mapSeq fun _=>#[])).get? a=some (seqObj "list" #[] e1) from ⟨_,get?_update_seq ho (fun _=>#[])⟩) fun e1 ho1=>?_;refine wpAny_bind (seqEpoch_at ho1 rfl ?_);refine wpAny_bind (wpAny_newTuple ?_ hline);refine wpAny_bind (wpAny_newList ?_ (Nat.zero_le _));refine wpAny_holding ?_;show wpAny C.M A _ P _ { s with heap:=srtH s.heap a vs }
 have ho6:(srtH s.heap a vs).get? a=some (seqObj "list" #[] e1) :=
  (Heap.get?_push_ne _ _ _ (by rw [size_push',Heap.size_update];exact Nat.ne_of_lt (Nat.lt_succ_of_lt ha))).trans ((Heap.get?_push_ne _ _ _ (by rw [Heap.size_update];exact Nat.ne_of_lt ha)).trans ho1)
 have hF6:PIn F (srtH s.heap a vs):=fun b o e=>Heap.get?_push_of_some _ (Heap.get?_push_of_some _ ((Heap.get?_update_other _ _ (fun q=>by rw [<-q,hFa] at e;cases e)).trans (hF b o e)));dsimp only;by_cases h2:vs.toArray.size<2
 ·rw [if_pos h2,if_pos h2];refine wpAny_bind (wpAny_pure ?_);rw [StateT.run_pure];refine wpAny_bind (wpAny_pure ?_);dsimp only;refine wpAny_bind (seqEpoch_at ho6 rfl ?_);refine wpAny_bind (listUpdate_at ho6 rfl ?_ (Nat.zero_le _) (by rw [Array.size_map];show (PyProof.Rows.pairsOf vs).size≤_;rw [PyProof.Rows.pairsOf_size];exact Nat.le_succ_of_le hline));have h:=h (List.range vs.length) (.refl _)
  have e:ordA vs (List.range vs.length)=(arrOf (SortSt.mk' general' (vs.toArray.zip vs.toArray) #[] 7 none)).map (·.2):=by
   unfold ordA;rw [range_getD];show _=(PyProof.Rows.pairsOf vs).map (·.2);apply Array.ext';rw [Array.toList_map,PyProof.Rows.pairsOf_toList];clear h ho6 hF6 hvs
   match vs with
   | []=>rfl
   | [x]=>rfl
   | _::_::_=>simp at h2;lia
  rw [e] at h;rw [bne_self_eq_false,if_neg Bool.false_ne_true];exact wpAny_pure h
 ·rw [if_neg h2,if_neg h2];have h2':2≤vs.length:=Nat.le_of_not_lt h2;have h0:0<vs.length:=Nat.lt_of_lt_of_le (by decide) h2';refine el13 (kat_tups hF6 hvs hne) fun fs k1 k2 k3=>?_;refine wpAny_bind (PySem.W.kat_kind (T:=.type "str") k1 (by rw [k2,<-hlen];exact h0) (fun f hf=>?_) (by decide) ?_)
  ·exact el21 (k3 f hf) fun x t e=>e▸PySem.W.Looks.of_pure rfl
  ·have hask:(kas_sort vs.length).kasWp (kas_ask C.prog C.w A (tuples' true) vs) (fun p s'=>PermN vs.length p∧s'={ s with heap:=srtH s.heap a vs }) { s with heap:=srtH s.heap a vs } :=
    kas_any (fun i j Q hi hj hq=>tup_any (A:=A) (E:=fun _ _=>False) hF6 (Val.strTup (val_at hvs (hlen▸hi))) (Val.strTup (val_at hvs (hlen▸hj))) hq) (fun a q=>⟨q,rfl⟩) (g_sort h0)
   refine wpAny_bind (wpAny_mono (PySem.W.kat_run (ks:=vs) (vs:=vs) (Q:=fun st' s'=>∃ p:Array Nat,arrOf st'=p.map (kas_item (vs.toArray.zip vs.toArray))∧failedOf st'=none∧PermN vs.length p∧s'={ s with heap:=srtH s.heap a vs })
    rfl h2' (by lia) (fun p' st' s' a1 a2 a3 a4=>⟨p',a2,a3,a4.1,a4.2⟩) hask) ?_ fun _ _ e=>e)
   rintro ⟨⟨⟩,st'⟩ s' hq;refine el14 hq fun p har hf hp e=>?_;subst e;dsimp only;have hout:=PySem.W.kat_snds (ks:=vs) (vs:=vs) rfl har
   have hpp:p.toList.Perm (List.range vs.length):=by have:=Array.perm_iff_toList_perm.mp hp;simpa using this
   rw [hout];refine wpAny_bind (seqEpoch_at ho6 rfl ?_);refine wpAny_bind (listUpdate_at ho6 rfl ?_ (Nat.zero_le _) (by rw [List.size_toArray,List.length_map,hpp.length_eq,List.length_range];exact Nat.le_succ_of_le hline));rw [hf,bne_self_eq_false,if_neg Bool.false_ne_true];exact wpAny_pure (h p.toList hpp)
theorem keys_t {L:List Key}(h:∀ x∈L,x.kind=1):∃ ss:List (List Str),L=ss.map Key.t:=by
 induction L with
 | nil=>exact ⟨[],rfl⟩
 | cons k r ih =>
  refine (ih fun x hx=>h x (.tail _ hx)).elim fun ss e=>?_;have h0:=h k (.head _)
  cases k with
  | t x=>exact ⟨x::ss,congrArg (_::·) e⟩
  | _=>cases h0
theorem ord_val {L:List (List Str)}(hvs:Vals P F ((L.map Key.t).map Key.val) vs){ord:List Nat}(h:∀ i∈ord,i<L.length):Vals P F ((ord.map fun i=>L.getD i []).map fun xs=>V.tup (xs.map V.str)) (ord.map fun i=>vs.getD i Value.none):=by
 induction ord with
 | nil=>exact .nil
 | cons i r ih=>exact .cons (val_at hvs (h i (.head _))) (ih fun j hj=>h j (.tail _ hj))
theorem c_sortedP (h1:∀ x∈ks,x.kind=1)(hne:Key.t []∉ks)(hz:ks.length<64)(h:∀ R:List (List Str),(R.map Key.t).Perm ks->k (.v (.list (R.map fun xs=>.tup (xs.map V.str)))) μ) :
  cCall C (d+3) μ (.builtin "sorted") [.v (.set ks)] [] k:=fun A F Z s us kws hA S hv hkw=>by
 refine KwAt.i_nil hkw ?_;refine WsAt.i1 hv fun u hu=>?_;refine Calls.call_function_entry PyProof.Rows.kind_sorted PyProof.Rows.plain_sorted PyProof.Rows.entry_sorted (PyProof.Rows.args_sorted1 _) ?_;unfold Builtin.«sorted»;refine wpAny_bind (m:=checkCount "sorted" 1 1 _) (wpAny_pure ?_);refine wpAny_bind (collect_set (d:=d) hA.in1 S hu (by lia) fun L vs F' s' hP le S' hvs=>?_);refine (keys_t (L:=L) fun x hx=>h1 x (hP.mem_iff.mp hx)).elim fun ss e=>?_;subst e
 have hlen:vs.length=ss.length:=by rw [hvs.toList,List.length_map,List.length_map]
 have h64:vs.length<64:=by rw [hlen,show ss.length=ks.length by rw [<-hP.length_eq,List.length_map]];exact hz
 refine wpAny_bind (wpAny_newObj_type ?_ (by show vs.toArray.size≤sizeLine;rw [List.size_toArray,sizeLine_eq];lia));have nF:=(fresh_none S').1;have hoL:(s'.heap.push { cls:=.type "list",data:=.seq vs.toArray }).get? s'.heap.objs.size=some (PyProof.Rows.seqObj "list" vs.toArray 0):=Heap.get?_push_size _ rfl;refine wpAny_bind (wpAny_holding (wpAny_call_entry PyProof.Rows.slot_list_sort ⟨_,hoL,rfl⟩ PyProof.Rows.entry_list_sort (sort_any (F:=F') (fun x hx e=>hne (hP.mem_iff.mp (e▸List.mem_map_of_mem (f:=Key.t) hx))) hvs hlen h64 (fun a o e=>Heap.get?_push_of_some _ (S'.fz a o e)) nF hoL fun ord hperm=>⟨_,rfl,?_⟩) (PyProof.Rows.args_list_sort _)));refine (PyProof.Rows.sortedHeap_at (out:=ordA vs ord) hoL).elim fun e he=>?_
 have hold:∀ b o,s'.heap.get? b=some o->(PyProof.Rows.sortedHeap (s'.heap.push { cls:=.type "list",data:=.seq vs.toArray }) s'.heap.objs.size vs (ordA vs ord)).get? b=some o:=fun b o q =>
  have hlt:=Heap.lt_size q
  (PyProof.Rows.sortedHeap_old (Nat.ne_of_lt hlt) (by rw [Heap.size_push];exact Nat.lt_succ_of_lt hlt)).trans (Heap.get?_push_of_some _ q)
 refine el13 (S'.newF (s':={ s' with heap:=PyProof.Rows.sortedHeap (s'.heap.push { cls:=.type "list",data:=.seq vs.toArray }) s'.heap.objs.size vs (ordA vs ord) }) hold he rfl rfl) fun F'' le' hF S''=>?_
 have hR:(ord.map fun i=>ss.getD i []).Perm ss:=by
  have e2:(List.range vs.length).map (fun i=>ss.getD i [])=ss:=by
   apply List.ext_getElem
   ·simp [hlen]
   ·intro i q1 q2;simp [q2]
  have e1:=hperm.map fun i=>ss.getD i [];rw [e2] at e1;exact e1
 exact wpAny_pure ⟨_,rfl,.v (.list ((ord.map fun i=>ss.getD i []).map fun xs=>.tup (xs.map V.str))),F'',μ,h _ ((hR.map _).trans hP),le.trans le',S'',.list hF (Vals.mono le' (ord_val hvs fun i hi=>by have:=List.mem_range.mp (hperm.mem_iff.mp hi);rw [<-hlen];exact this))⟩
end
end
set_option compiler.extract_closed false
def mcId (s : String) : Lean.Ident := Lean.mkIdent (s.splitOn "." |>.foldl (fun n x => Lean.Name.mkStr n x) `Mine)
def mcArg (c : Char) (h : Lean.TSyntax `term) : Lean.MacroM (Lean.TSyntax `term) := match c with
  | 'h' => pure h
  | 'r' => `(by intros; rfl)
  | 'a' => `(by assumption)
  | 'u' => `(rfl)
  | 'k' => `(by kernel_rfl)
  | 'd' => `(by walk_at "kind")
  | 'g' => `(by walk_at "glob")
  | 'w' => `(by walk_at "keep")
  | 's' => `(by first | (intros; rfl) | exact $(mcId "sw_at") rfl)
  | 'f' => `(fun _ => ?_)
  | _ => `(?_)
def mcFirst (t : String) (h : Lean.TSyntax `term) : Lean.MacroM (Lean.TSyntax `tactic) := do
  let mut l : Array (Lean.TSyntax `tactic) := #[]
  for e in t.splitOn "|" do
    match e.splitOn " " with
    | [f] => l := l.push (← `(tactic| with_reducible refine $(mcId f) ?_))
    | f :: as :: ws =>
      let as ← as.toList.toArray.mapM fun c => mcArg c h
      let qs ← (as.push h).mapM fun _ => `(?_)
      if ws.isEmpty then l := l.push (← `(tactic| ((with_reducible refine $(mcId f) $qs*); $[exact $as];*)))
      else l := l.push (← `(tactic| ((with_reducible refine $(mcId f) (w := ?_) $qs*); rotate_left; $[exact $as];*)))
    | _ => pure ()
  `(tactic| first $[| $l:tactic]*)
section
open PySem PySem.Calls
theorem enterO {f:Addr}{r:Option Obj}(h:C.K=Mine.hk.heap_1 C.P)(hh:(Mine.hk.heap_1 C.P).lookup f=r):C.K.lookup f=r:=by rw [h];exact hh
theorem enterC {v:Value}{q:Str}{b:Bool}(h:C.K=Mine.hk.heap_1 C.P)(hh:codeT (Mine.hk.heap_1 C.P) v q=b):codeT C.K v q=b:=by rw [h];exact hh
theorem enterK {v:Value}{b:Bool}(h:C.K=Mine.hk.heap_1 C.P)(hh:PySem.W.keepIn (Mine.hk.heap_1 C.P) v=b):PySem.W.keepIn C.K v=b:=by rw [h];exact hh
section
variable (h:C.K=Mine.hk.heap_1 C.P)
include h
theorem g_Nonterminal:Glob C "Nonterminal" (.ref 66):=Glob.ofK (by rw [h];kernel_rfl)
theorem g_is_nonterminal:Glob C "is_nonterminal" (.ref 77):=Glob.ofK (by rw [h];kernel_rfl)
theorem g_is_terminal:Glob C "is_terminal" (.ref 84):=Glob.ofK (by rw [h];kernel_rfl)
theorem g_key:Glob C "_key" (.ref 91):=Glob.ofK (by rw [h];kernel_rfl)
theorem g_Production:Glob C "Production" (.ref 155):=Glob.ofK (by rw [h];kernel_rfl)
theorem g_CFG:Glob C "CFG" (.ref 334):=Glob.ofK (by rw [h];kernel_rfl)
theorem g_transitive_closure:Glob C "transitive_closure" (.ref 345):=Glob.ofK (by rw [h];kernel_rfl)
theorem g_law_next:Glob C "_law_next" (.ref 352):=Glob.ofK (by rw [h];kernel_rfl)
theorem g_law_drawn:Glob C "_law_drawn" (.ref 357):=Glob.ofK (by rw [h];kernel_rfl)
theorem g_law_made:Glob C "_law_made" (.ref 362):=Glob.ofK (by rw [h];kernel_rfl)
theorem g_law_rows:Glob C "_law_rows" (.ref 367):=Glob.ofK (by rw [h];kernel_rfl)
theorem g_law_joined:Glob C "_law_joined" (.ref 374):=Glob.ofK (by rw [h];kernel_rfl)
theorem g_law_words:Glob C "_law_words" (.ref 379):=Glob.ofK (by rw [h];kernel_rfl)
theorem g_law_kept:Glob C "_law_kept" (.ref 384):=Glob.ofK (by rw [h];kernel_rfl)
theorem g_int:Glob C "int" (.type "int"):=Glob.blt (by rw [h];kernel_rfl) (by kernel_rfl) (by decide)
theorem g_range:Glob C "range" (.type "range"):=Glob.blt (by rw [h];kernel_rfl) (by kernel_rfl) (by decide)
theorem g_set:Glob C "set" (.type "set"):=Glob.blt (by rw [h];kernel_rfl) (by kernel_rfl) (by decide)
theorem g_str:Glob C "str" (.type "str"):=Glob.blt (by rw [h];kernel_rfl) (by kernel_rfl) (by decide)
theorem g_tuple:Glob C "tuple" (.type "tuple"):=Glob.blt (by rw [h];kernel_rfl) (by kernel_rfl) (by decide)
theorem g_list:Glob C "list" (.type "list"):=Glob.blt (by rw [h];kernel_rfl) (by kernel_rfl) (by decide)
theorem g_len:Glob C "len" (.builtin "len"):=Glob.blt (by rw [h];kernel_rfl) (by kernel_rfl) (by decide)
theorem g_any:Glob C "any" (.builtin "any"):=Glob.blt (by rw [h];kernel_rfl) (by kernel_rfl) (by decide)
theorem g_all:Glob C "all" (.builtin "all"):=Glob.blt (by rw [h];kernel_rfl) (by kernel_rfl) (by decide)
theorem g_min:Glob C "min" (.builtin "min"):=Glob.blt (by rw [h];kernel_rfl) (by kernel_rfl) (by decide)
theorem g_max:Glob C "max" (.builtin "max"):=Glob.blt (by rw [h];kernel_rfl) (by kernel_rfl) (by decide)
theorem g_sorted:Glob C "sorted" (.builtin "sorted"):=Glob.blt (by rw [h];kernel_rfl) (by kernel_rfl) (by decide)
theorem g_isinstance:Glob C "isinstance" (.builtin "isinstance"):=Glob.blt (by rw [h];kernel_rfl) (by kernel_rfl) (by decide)
end
end
section
open PySem PySem.Calls
local macro_rules | `(tactic| walk_at "kind") => `(tactic| first | exact .inl rfl | exact .inr (.inl rfl) | exact .inr (.inr rfl) | exact .inr rfl)
local macro_rules | `(tactic| walk_at "enter") => do
  let t : Lean.TSyntax `term ← `(rfl)
  let mut l : Array (Lean.TSyntax `tactic) := #[← `(tactic| case ho => exact enterO (by assumption) rfl), ← `(tactic| case hcd => exact enterC (by assumption) (by kernel_rfl)), ← `(tactic| case hfree => decide +kernel)]
  for e in "hkind k|hn k|hco u|hgen u|hk u".splitOn "|" do
    match e.splitOn " " with
    | [a, b] => l := l.push (← `(tactic| case $(Lean.mkIdent (Lean.Name.mkSimple a)):ident => exact $(← mcArg b.front t)))
    | _ => pure ()
  `(tactic| ($[$l:tactic];*))
local macro_rules | `(tactic| walk_at "bind1") => `(tactic| (intro F s vs kvs X hv hkv; exact bind_1 (fun _ => rfl) hv hkv))
local macro_rules | `(tactic| walk_at "bind2") => `(tactic| (intro F s vs kvs X hv hkv; exact bind_2 (fun _ _ => rfl) hv hkv))
local macro_rules | `(tactic| walk_at "glob") => do `(tactic| ($(← mcFirst "g_Nonterminal|g_is_nonterminal|g_is_terminal|g_key|g_Production|g_CFG|g_transitive_closure|g_law_next|g_law_drawn|g_law_made|g_law_rows|g_law_joined|g_law_words|g_law_kept|g_int|g_range|g_set|g_str|g_tuple|g_list|g_len|g_any|g_all|g_min|g_max|g_sorted|g_isinstance" (← `(rfl))):tactic; assumption))
local macro_rules | `(tactic| walk_at "keep") => `(tactic| first
  | exact .inr (.inl ⟨_, rfl⟩)
  | exact .inr (.inr ⟨_, rfl⟩)
  | exact .inl (enterK (by assumption) (by kernel_rfl)))
local macro_rules | `(tactic| walk_at "keeps") => `(tactic| ((with_reducible first | refine keep_and ?_ ?_ | refine kF_st ?_ ?_ | refine fn_glob ?_ ?_); walk_at "keep"))
local macro_rules | `(tactic| walk_at "cons") => `(tactic| with_reducible refine cS_cons ?_)
local macro_rules | `(tactic| walk_at "s") => do
  let t : Lean.TSyntax `term ← `(rfl)
  let x ← mcFirst "seqK_next|cS_nil|seqK_ret|seqK_cont|seqK_brk|retK_ret|retK_next|cE_loc u w|cE_int|cE_str|cE_bool|cE_none|cE_globK guuu w|cE_binopK|cE_cmpK u|cT_cmpK u|cF1K r|cE_set1 ar|cE_and2K|cE_or2K|cE_ifexpK|cE_listR0 ukurd|cE_listR1 ukurd|cE_gn|cC0G guuurrw w|cC0K rr|cC1K rrur|cG1K r|cSl_mk r|cU1K r|cT_boolop|cT_notK|cS1_returnK|cS1_ifK|cA1K ds|cATK rrr|cX1K ru|cS1_continue|cS1_pass|cAsg_uK|asg_name d|asg_attrK|cEs_ev u w|cEsK r|rng_1|rng_2|v_add|v_sub|v_eqi|v_nei|v_lt|v_gt|v_le|v_isb|v_isnotb|kTst_b|tstB" t
  `(tactic| first | $x:tactic | walk_at "cons" | walk_at "keeps")
local macro_rules | `(tactic| walk_at "ss") => `(tactic| repeat (walk_at "s"))
noncomputable def nxt (ns:List Int)(k many:Int):Int:=if ns=[] then (13*k+5).fmod many else (ns.getD (k.fmod ns.length).toNat 0+7*k*(k.fdiv ns.length)).fmod many
section
variable (h:C.K=Mine.hk.heap_1 C.P)
include h
theorem law_next_spec {ns:List Int}{kk many:Int}(hk0:0≤kk)(hk1:kk<1000)(hmany:many≠0)(hl:ns.length≤100)(hU:UpdAt a (.list [.v (.list (ns.map .int)),.v (.int kk)]) (.list [.v (.list (ns.map .int)),.v (.int (kk+1))]) μ μ')(hk:k (.v (.int (nxt ns kk many))) μ') :
  cCall C 3 μ (.ref 352) [.l a,.v (.int many)] [] k:=by
 apply cCall_enter [("hand",.l a),("many",.v (.int many))];walk_at "enter"
 case hbind=>walk_at "bind2"
 walk_at "ss";walk_at "ss";refine asg_list2 hU.mem (by walk_at "kind") (by walk_at "kind") ?_;walk_at "ss";refine si_list hU (by decide) (by simp) (by simp) ?_;walk_at "ss";refine len_list (by rw [List.length_map];exact Nat.lt_of_le_of_lt hl (by decide)) ?_;walk_at "ss";rw [List.length_map];constructor
 ·intro e;have e':ns=[]:=List.eq_nil_of_length_eq_zero (by simpa using e);walk_at "ss";refine v_mul (by mul_fits) ?_;walk_at "ss";refine v_mod hmany ?_;walk_at "ss";rw [nxt,if_pos e'] at hk;exact hk
 ·intro e
  have e':ns≠[]:=fun e'=>by subst e';simp at e
  have hn:(ns.length:Int)≠0:=by simpa using e
  have hpos:(0:Int)<ns.length:=Int.natCast_pos.mpr (Nat.pos_of_ne_zero fun q=>hn (by rw [q];rfl));have hb:0≤kk.fmod ns.length∧kk.fmod ns.length<ns.length:=⟨Int.fmod_nonneg_of_pos _ hpos,Int.fmod_lt_of_pos _ hpos⟩;walk_at "ss";refine v_mod hn ?_;refine ⟨sub_list,v_item_list (x:=.int (ns.getD (kk.fmod ns.length).toNat 0)) hb.1 (Int.lt_of_lt_of_le hb.2 (Int.ofNat_le.mpr (ok_of hl))) ?_ ?_⟩
  ·have:(kk.fmod ns.length).toNat<ns.length:=(Int.toNat_lt hb.1).mpr hb.2;simp [List.getElem?_eq_getElem this]
  walk_at "ss";refine int_int ?_;walk_at "ss";refine v_mul (by mul_fits) ?_;walk_at "ss";refine v_div hn (by rw [Int.natAbs_natCast];exact Nat.lt_of_le_of_lt hl (by decide)) ?_;refine v_mul (by mul_fits) ?_;walk_at "ss";refine v_mod hmany ?_;walk_at "ss";rw [nxt,if_neg e'] at hk;exact hk
end
noncomputable def nonT (x:Str):V:=.inst 66 [("_symbol",.str x)]
noncomputable def tT:Str := "T"
inductive It where
 | N (x:Str)
 | T (x:Str)
 deriving DecidableEq
noncomputable def It.v:It->V
 | .N x=>nonT x
 | .T x=>.str x
noncomputable def It.isN:It->Bool
 | .N _=>true
 | .T _=>false
noncomputable def It.key:It->Key
 | .N x=>.t [tN,x]
 | .T x=>.t [tT,x]
noncomputable def prodV (l:Str)(r:List It):V:=.inst 155 [("_lhs",nonT l),("_rhs",.tup (r.map It.v))]
section
variable (h:C.K=Mine.hk.heap_1 C.P)
include h
theorem cls_N:ClsOk C 66:=⟨by rw [h];kernel_rfl,by rw [h];kernel_rfl,by rw [h];kernel_rfl,by rw [h];kernel_rfl,by rw [h];kernel_rfl,by rw [h];kernel_rfl⟩
theorem cls_P:ClsOk C 155:=⟨by rw [h];kernel_rfl,by rw [h];kernel_rfl,by rw [h];kernel_rfl,by rw [h];kernel_rfl,by rw [h];kernel_rfl,by rw [h];kernel_rfl⟩
theorem fd_N {r:Option (Option Value)}(hh:PySem.W.findIn (Mine.hk.heap_1 C.P) (.ref 66) x=r):PySem.W.findIn C.K (.ref 66) x=r:=by rw [h];exact hh
theorem fd_P {r:Option (Option Value)}(hh:PySem.W.findIn (Mine.hk.heap_1 C.P) (.ref 155) x=r):PySem.W.findIn C.K (.ref 155) x=r:=by rw [h];exact hh
theorem ty_f {f:Addr}{r:Option Value}(hh:PySem.W.typeIn (Mine.hk.heap_1 C.P) (.ref f)=r):PySem.W.typeIn C.K (.ref f)=r:=by rw [h];exact hh
theorem tk_f {r:Option (Option Value)}(hh:PySem.W.takerIn (Mine.hk.heap_1 C.P) c x=r):PySem.W.takerIn C.K c x=r:=by rw [h];exact hh
theorem mt_f {f:Addr}(h1:PySem.W.findIn (Mine.hk.heap_1 C.P) (.ref c) x=some (some (.ref f)))(h2:PySem.W.typeIn (Mine.hk.heap_1 C.P) (.ref f)=some (.type "function"))(h3:PySem.W.keepIn (Mine.hk.heap_1 C.P) (.ref f)=true):MethOk C c x f:=⟨by rw [h];exact h1,by rw [h];exact h2,by rw [h];exact h3⟩
theorem init_N {dd:Addr}{x:W}:cCode C 3 ((a,.inst 66 dd)::(dd,.ns [])::μ) (.ref 35) [.l a,x] [] fun w μ'=>w=.v .none∧μ'=(a,.inst 66 dd)::(dd,.ns [("_symbol",x)])::μ:=by
 apply cCode_enter [("self",.l a),("symbol",x)];walk_at "enter"
 case hbind=>walk_at "bind2"
 walk_at "ss";refine sa_inst (cls_N h) (tk_f h (by kernel_rfl)) (by decide) (.head _) (.there .here) (by simp) ?_;walk_at "ss";exact ⟨rfl,rfl⟩
theorem mk_N (hk:k (.v (nonT x)) μ):cCall C 4 μ (.ref 66) [.v (.str x)] [] k:=by
 refine cCall.fzR (c_make (d:=3) (cls_N h) (fd_N h (by kernel_rfl)) (ty_f h (by kernel_rfl)) fun a dd=>cCode.mono (init_N h) fun w m hh=>?_);obtain ⟨hw,hm⟩:=hh;subst hm;refine ⟨hw,_,.v (nonT x),μ,fz_inst (.head _) (.tail _ (.head _)) (gs:=[("_symbol",.str x)]) (fun p hp=>?_) (.there .here) .here (FrzT.refl _),.put,hk⟩
 cases List.mem_singleton.mp hp
 rfl
theorem isN_N (hk:k (.v (.bool true)) μ):cCall C d μ (.builtin "isinstance") [.v (nonT x),.v (.glob (.ref 66))] [] k:=isi_inst (by rw [h];kernel_rfl) hk
theorem isN_T (hk:k (.v (.bool false)) μ):cCall C d μ (.builtin "isinstance") [.v (.str x),.v (.glob (.ref 66))] [] k:=isi_str (by rw [h];kernel_rfl) hk
theorem isN_it {i:It}(hk:k (.v (.bool i.isN)) μ):cCall C d μ (.builtin "isinstance") [.v i.v,.v (.glob (.ref 66))] [] k:=by
 cases i with
 | N x=>exact isN_N h hk
 | T x=>exact isN_T h hk
theorem isnt_spec {i:It}(hk:k (.v (.bool i.isN)) μ):cCall C 2 μ (.ref 77) [.v i.v] [] k:=by
 apply cCall_enter [("item",.v i.v)];walk_at "enter"
 case hbind=>walk_at "bind1"
 walk_at "ss";refine isN_it h ?_;walk_at "ss";exact hk
theorem iste_spec {i:It}(hk:k (.v (.bool !i.isN)) μ):cCall C 2 μ (.ref 84) [.v i.v] [] k:=by
 apply cCall_enter [("item",.v i.v)];walk_at "enter"
 case hbind=>walk_at "bind1"
 walk_at "ss";refine cE_not ?_;walk_at "ss";refine isN_it h ?_;refine truthy_bool' ?_;walk_at "ss";exact hk
theorem key_spec {i:It}(hk:k (.v i.key.val) μ):cCall C 2 μ (.ref 91) [.v i.v] [] k:=by
 apply cCall_enter [("item",.v i.v)];walk_at "enter"
 case hbind=>walk_at "bind1"
 walk_at "ss";refine cT_valK ?_ (by intros;rfl);walk_at "ss";refine isN_it h ?_;refine truthy_bool' ⟨fun e=>?_,fun e=>?_⟩
 ·cases i with
  | T x=>cases e
  | N x =>
   walk_at "ss";refine cE_tuple ?_;walk_at "ss";refine a_inst (cls_N h) (fd_N h (by kernel_rfl)) rfl ?_;walk_at "ss";refine ⟨_,rfl,by simp,?_⟩;walk_at "ss";exact hk
 ·cases i with
  | N x=>cases e
  | T x =>
   walk_at "ss";refine cE_tuple ?_;walk_at "ss";refine ⟨_,rfl,by simp,?_⟩;walk_at "ss";exact hk
theorem init_P {dd:Addr}{l:W}{r:List V}(hz:r.length≤1000):cCode C 4 ((a,.inst 155 dd)::(dd,.ns [])::μ) (.ref 105) [.l a,l,.v (.list r)] [] fun w μ'=>w=.v .none∧μ'=(a,.inst 155 dd)::(dd,.ns [("_rhs",.v (.tup r)),("_lhs",l)])::μ:=by
 apply cCode_enter [("self",.l a),("lhs",l),("rhs",.v (.list r))];walk_at "enter"
 case hbind =>
  intro F s vs kvs X hv hkv;refine WsAt.i3 hv fun u v w h1 h2 h3=>?_;refine KwAt.i_nil hkv ?_;refine ⟨_,BindsTo.of_eq rfl,?_⟩;exact .cons h1 (.cons h2 (.cons h3 .nil))
 walk_at "ss";refine cT_valK ?_ (by intros;rfl);walk_at "ss";refine isi_liststr ?_;refine truthy_bool' (both_f ?_);walk_at "ss";refine sa_inst (cls_P h) (tk_f h (by kernel_rfl)) (by decide) (.head _) (.there .here) (by simp) ?_;walk_at "ss";refine tup_list (by lia) ?_;walk_at "ss";refine sa_inst (cls_P h) (tk_f h (by kernel_rfl)) (by decide) (.head _) (.there .here) (by simp) ?_;walk_at "ss";exact ⟨rfl,rfl⟩
theorem mk_P {l:Str}{r:List It}(hz:r.length≤1000)(hk:k (.v (prodV l r)) μ):cCall C 5 μ (.ref 155) [.v (nonT l),.v (.list (r.map It.v))] [] k:=by
 refine cCall.fzR (c_make (d:=4) (cls_P h) (fd_P h (by kernel_rfl)) (ty_f h (by kernel_rfl)) fun a dd=>cCode.mono (init_P h (by simpa using hz)) fun w m hh=>?_);obtain ⟨hw,hm⟩:=hh;subst hm;refine ⟨hw,_,.v (prodV l r),μ,fz_inst (.head _) (.tail _ (.head _)) (gs:=[("_lhs",nonT l),("_rhs",.tup (r.map It.v))]) (fun p hp=>?_) (.there .here) .here (FrzT.refl _),.put,hk⟩
 rcases List.mem_cons.mp hp with rfl | hp
 ·rfl
 ·cases List.mem_singleton.mp hp
  rfl
end
section
variable (h:C.K=Mine.hk.heap_1 C.P)
include h
theorem lhs_spec {l:Str}{r:List It}(hk:k (.v (nonT l)) μ):cCall C 2 μ (.ref 112) [.v (prodV l r)] [] k:=by
 apply cCall_enter [("self",.v (prodV l r))];walk_at "enter"
 case hbind=>walk_at "bind1"
 walk_at "ss";refine a_inst (cls_P h) (fd_P h (by kernel_rfl)) rfl ?_;walk_at "ss";exact hk
theorem rhs_spec {l:Str}{r:List It}(hk:k (.v (.tup (r.map It.v))) μ):cCall C 2 μ (.ref 119) [.v (prodV l r)] [] k:=by
 apply cCall_enter [("self",.v (prodV l r))];walk_at "enter"
 case hbind=>walk_at "bind1"
 walk_at "ss";refine a_inst (cls_P h) (fd_P h (by kernel_rfl)) rfl ?_;walk_at "ss";exact hk
theorem plen_spec {l:Str}{r:List It}(hz:r.length≤1000)(hk:k (.v (.int r.length)) μ):cCall C 2 μ (.ref 126) [.v (prodV l r)] [] k:=by
 apply cCall_enter [("self",.v (prodV l r))];walk_at "enter"
 case hbind=>walk_at "bind1"
 walk_at "ss";refine a_inst (cls_P h) (fd_P h (by kernel_rfl)) rfl ?_;walk_at "ss";refine len_tup (by rw [List.length_map];lia) ?_;walk_at "ss";rw [List.length_map];exact hk
theorem len_P {l:Str}{r:List It}(hz:r.length≤1000)(hk:k (.v (.int r.length)) μ):cCall C 3 μ (.builtin "len") [.v (prodV l r)] [] k :=
 len_inst (d:=2) (fd_P h (by kernel_rfl)) (ty_f h (by kernel_rfl)) (plen_spec h hz ⟨_,rfl,by lia,by lia,hk⟩)
theorem m_P {l:Str}{r:List It}{name:Str}{f:Addr}{kk:Value->List W->Mem->Prop}(h1:PySem.W.findIn (Mine.hk.heap_1 C.P) (.ref 155) name=some (some (.ref f)))(h2:PySem.W.typeIn (Mine.hk.heap_1 C.P) (.ref f)=some (.type "function"))(h3:PySem.W.keepIn (Mine.hk.heap_1 C.P) (.ref f)=true)(hn:name∉FN)(hk:kk (.ref f) [.v (prodV l r)] μ):cMeth C d μ (.v (prodV l r)) name kk:=m_inst (cls_P h) (mt_f h h1 h2 h3) hn hk
theorem isnl_spec (hg:C.gen=false){l:Str}{r:List It}(hz:r.length≤1000)(hT:∀ P∈C.tabs,(P,O.tab)∈μ)(hk:k (.v (.bool (r.all It.isN))) μ):cCall C 7 μ (.ref 133) [.v (prodV l r)] [] k:=by
 apply cCall_enter [("self",.v (prodV l r))];walk_at "enter"
 case hbind=>walk_at "bind1"
 walk_at "ss";refine cGen_all (d:=3) hg (by intros;rfl) (by intros;rfl) rfl rfl rfl rfl (by intros;rfl) ?_;walk_at "ss";refine ⟨rfl,?_⟩;walk_at "ss";refine a_inst (cls_P h) (fd_P h (by kernel_rfl)) rfl ?_;refine ⟨_,it_tup,hT,fun items e=>?_⟩;subst e;refine ⟨fun _=>true,fun x=>match x with | .inst _ _=>true | _=>false,fun g x hx=>?_,?_⟩
 ·(refine el12 (List.mem_map.mp hx) fun i hi qq2=>?_;subst qq2)
  refine ⟨_,tgt_name (by walk_at "kind"),ifs_nil ⟨rfl,rfl,fun _=>?_⟩⟩;walk_at "ss";refine (isnt_spec (C:=C.inGen g) h ?_).deep (by decide);refine ⟨?_,rfl⟩
  cases i<;>rfl
 ·walk_at "ss"
  have e:((((r.map It.v).filter fun _=>true).map fun x=>match x with | V.inst _ _=>true | _=>false).all id)=r.all It.isN:=by
   rw [List.filter_eq_self.mpr (fun _ _=>rfl),List.map_map,List.all_map];refine List.all_congr rfl fun i=>?_
   cases i<;>rfl
  rw [e];exact hk
theorem islx_spec (hg:C.gen=false){l:Str}{r:List It}(hz:r.length≤1000)(hT:∀ P∈C.tabs,(P,O.tab)∈μ)(hk:k (.v (.bool !(r.all It.isN))) μ):cCall C 8 μ (.ref 140) [.v (prodV l r)] [] k:=by
 apply cCall_enter [("self",.v (prodV l r))];walk_at "enter"
 case hbind=>walk_at "bind1"
 walk_at "ss";refine cE_not ?_;walk_at "ss";refine m_P (f:=133) h (by kernel_rfl) (by kernel_rfl) (by kernel_rfl) (by decide) ?_;walk_at "ss";refine isnl_spec h hg hz hT ?_;refine truthy_bool' ?_;walk_at "ss";exact hk
end
section
open PySem PySem.Calls
abbrev Rw:=Str×List It
noncomputable def wd (x:Str):List Nat:=x.cps.toList
noncomputable def Sem (I:Str->List Nat->Prop):List It->List Nat->Prop :=
 List.rec (fun w=>w=[]) fun i _ r w=>∃ u v,w=u++v∧(match i with | .T x=>u=wd x | .N A=>I A u)∧r v
noncomputable def semI (I:Str->List Nat->Prop)(i:It)(u:List Nat):Prop:=match i with | .T x=>u=wd x | .N A=>I A u
theorem sem_nil {I:Str->List Nat->Prop}{w:List Nat}:Sem I [] w↔w=[]:=Iff.rfl
theorem sem_cons {I:Str->List Nat->Prop}{i:It}{r:List It}{w:List Nat}:Sem I (i::r) w↔∃ u v,w=u++v∧semI I i u∧Sem I r v:=Iff.rfl
theorem sem_one {I:Str->List Nat->Prop}{i:It}{w:List Nat}:Sem I [i] w↔semI I i w:=by
 constructor
 ·rintro ⟨u,v,rfl,h,rfl⟩;rw [List.append_nil];exact h
 ·intro h;exact ⟨w,[],(List.append_nil w).symm,h,rfl⟩
theorem sem_map {I J:Str->List Nat->Prop}{f:It->It}{l:List It}:(∀ i∈l,∀ u,semI I i u->semI J (f i) u)->∀ {w},Sem I l w->Sem J (l.map f) w:=by
 induction l with
 | nil=>intro _ w h;exact h
 | cons i r ih =>
  intro hh w h;obtain ⟨u,v,e,h1,h2⟩:=h;exact ⟨u,v,e,hh i (.head _) u h1,ih (fun j hj=>hh j (.tail _ hj)) h2⟩
theorem sem_back {I J:Str->List Nat->Prop}{f:It->It}{l:List It}:(∀ i∈l,∀ u,semI I (f i) u->semI J i u)->∀ {w},Sem I (l.map f) w->Sem J l w:=by
 induction l with
 | nil=>intro _ w h;exact h
 | cons i r ih =>
  intro hh w h;obtain ⟨u,v,e,h1,h2⟩:=h;exact ⟨u,v,e,hh i (.head _) u h1,ih (fun j hj=>hh j (.tail _ hj)) h2⟩
theorem sem_mono {I J:Str->List Nat->Prop}{l:List It}(h:∀ i∈l,∀ u,semI I i u->semI J i u){w:List Nat}(x:Sem I l w):Sem J l w:=by
 have:=sem_map (f:=id) (J:=J) h x
 rwa [List.map_id] at this
theorem semI_mono {I J:Str->List Nat->Prop}(h:∀ A w,I A w->J A w){i:It}{u:List Nat}(x:semI I i u):semI J i u:=by
 cases i with
 | N A=>exact h A u x
 | T t=>exact x
noncomputable def Closed (rs:List Rw)(I:Str->List Nat->Prop):Prop:=∀ A b w,(A,b)∈rs->Sem I b w->I A w
noncomputable def Lg (rs:List Rw)(A:Str)(w:List Nat):Prop:=∀ I,Closed rs I->I A w
theorem lg_closed (rs:List Rw):Closed rs (Lg rs):=fun A b w hm h I hI=>hI A b w hm (sem_mono (fun i _ u x=>semI_mono (fun A w q=>q I hI) x) h)
theorem lg_inv {rs:List Rw}{A:Str}{w:List Nat}(h:Lg rs A w):∃ b,(A,b)∈rs∧Sem (Lg rs) b w :=
 h (fun A w=>∃ b,(A,b)∈rs∧Sem (Lg rs) b w) fun A b w hm hs=>⟨b,hm,sem_mono (fun i _ u x=>semI_mono (fun A w q=>q.elim fun b q=>lg_closed rs A b w q.1 q.2) x) hs⟩
theorem lg_same {rs rs':List Rw}(h:∀ p,p∈rs↔p∈rs'){A:Str}{w:List Nat}:Lg rs A w↔Lg rs' A w :=
 ⟨fun q I hI=>q I fun A b w hm hs=>hI A b w ((h _).mp hm) hs,fun q I hI=>q I fun A b w hm hs=>hI A b w ((h _).mpr hm) hs⟩
theorem lg_start {rs:List Rw}{S S0:Str}(h1:∀ b,(S0,b)∉rs)(h2:∀ A b,(A,b)∈rs->It.N S0∉b)(hS:S≠S0) :
  (∀ A w,A≠S0->(Lg (rs++[(S0,[It.N S])]) A w↔Lg rs A w))∧∀ w,Lg (rs++[(S0,[It.N S])]) S0 w↔Lg rs S w:=by
 have up:∀ A w,Lg rs A w->Lg (rs++[(S0,[It.N S])]) A w:=fun A w q I hI=>q I fun A b w hm hs=>hI A b w (List.mem_append_left _ hm) hs
 have down:∀ A w,Lg (rs++[(S0,[It.N S])]) A w->(A≠S0->Lg rs A w)∧(A=S0->Lg rs S w):=fun A w q=>by
  refine q (fun A w=>(A≠S0->Lg rs A w)∧(A=S0->Lg rs S w)) fun A b w hm hs=>?_
  rcases List.mem_append.mp hm with hm | hm
  ·have hA:A≠S0:=fun e=>h1 b (e▸hm);refine ⟨fun _=>lg_closed rs A b w hm (sem_mono (fun i hi u x=>?_) hs),fun e=>absurd e hA⟩
   cases i with
   | T t=>exact x
   | N B=>exact x.1 fun e=>h2 A b hm (e▸hi)
  ·have e:=List.mem_singleton.mp hm;injection e with e1 e2;subst e1;subst e2;have:=sem_one.mp hs;exact ⟨fun q=>absurd rfl q,fun _=>this.1 hS⟩
 refine ⟨fun A w hA=>⟨fun q=>(down A w q).1 hA,up A w⟩,fun w=>⟨fun q=>(down S0 w q).2 rfl,fun q=>?_⟩⟩;exact lg_closed _ S0 [It.N S] w (List.mem_append_right _ (.head _)) (sem_one.mpr (up S w q))
noncomputable def dm (f:Str->Str):It->It
 | .N A=>.N A
 | .T t=>.N (f t)
theorem lg_mixed {rs rs':List Rw}{f:Str->Str}(ts:List Str)(hinj:∀ t∈ts,∀ t'∈ts,f t=f t'->t=t')(hf:∀ A b,(A,b)∈rs->∀ t∈ts,A≠f t∧It.N (f t)∉b)(h1:∀ A b,(A,b)∈rs->(A,b)∈rs'∨((A,b.map (dm f))∈rs'∧∀ t,It.T t∈b->t∈ts∧(f t,[It.T t])∈rs'))(h2:∀ A b,(A,b)∈rs'->(A,b)∈rs∨(∃ b',(A,b')∈rs∧b=b'.map (dm f)∧∀ t,It.T t∈b'->t∈ts)∨∃ t∈ts,A=f t∧b=[It.T t]){A:Str}{w:List Nat}(hA:∀ t∈ts,A≠f t):Lg rs' A w↔Lg rs A w:=by
 constructor
 ·intro q;refine (q (fun A w=>(∀ t∈ts,A=f t->w=wd t)∧((∀ t∈ts,A≠f t)->Lg rs A w)) fun A b w hm hs=>?_).2 hA
  rcases h2 A b hm with h | ⟨b',h,rfl,ht⟩ | ⟨t,ht,rfl,rfl⟩
  ·refine ⟨fun t ht e=>absurd e (hf A b h t ht).1,fun _=>lg_closed rs A b w h (sem_mono (fun i hi u x=>?_) hs)⟩
   cases i with
   | T t=>exact x
   | N B=>exact x.2 fun t ht e=>(hf A b h t ht).2 (e▸hi)
  ·refine ⟨fun t ht e=>absurd e (hf A b' h t ht).1,fun _=>lg_closed rs A b' w h (sem_back (fun i hi u x=>?_) hs)⟩
   cases i with
   | T t=>exact x.1 t (ht t hi) rfl
   | N B=>exact x.2 fun t ht e=>(hf A b' h t ht).2 (e▸hi)
  ·refine ⟨fun t' ht' e=>?_,fun q=>absurd rfl (q t ht)⟩;rw [<-hinj t ht t' ht' e];exact sem_one.mp hs
 ·intro q;refine q (Lg rs') fun A b w hm hs=>?_
  rcases h1 A b hm with h | ⟨h,ht⟩
  ·exact lg_closed rs' A b w h hs
  ·refine lg_closed rs' A _ w h (sem_map (fun i hi u x=>?_) hs)
   cases i with
   | T t=>exact lg_closed rs' (f t) [It.T t] u (ht t hi).2 (sem_one.mpr x)
   | N B=>exact x
noncomputable def single (b:List It):Prop:=∃ C,b=[It.N C]
theorem lg_unit {rs R:List Rw}{P:List (Str×Str)}(i1:∀ A b,(A,b)∈rs->¬ single b->(A,b)∈R)(i2:∀ A C,(A,[It.N C])∈rs->(A,C)∈P)(i3:∀ A B b,(A,B)∈P->(B,b)∈rs->(¬ single b->(A,b)∈R)∧∀ C,b=[It.N C]->(A,C)∈P)(i4:∀ A b,(A,b)∈R->(A,b)∈rs∨∃ B,(A,B)∈P∧(B,b)∈rs)(i5:∀ A B,(A,B)∈P->∀ w,Lg rs B w->Lg rs A w){A:Str}{w:List Nat}:Lg R A w↔Lg rs A w:=by
 constructor
 ·intro q;refine q (Lg rs) fun A b w hm hs=>?_
  rcases i4 A b hm with h | ⟨B,hp,h⟩
  ·exact lg_closed rs A b w h hs
  ·exact i5 A B hp w (lg_closed rs B b w h hs)
 ·intro q;refine (q (fun A w=>Lg R A w∧∀ A',(A',A)∈P->Lg R A' w) fun A b w hm hs=>?_).1;by_cases hb:single b
  ·obtain ⟨C,rfl⟩:=hb;have hC:=sem_one.mp hs;exact ⟨hC.2 A (i2 A C hm),fun A' hA'=>hC.2 A' ((i3 A' A _ hA' hm).2 C rfl)⟩
  ·have hs':Sem (Lg R) b w:=sem_mono (fun i _ u x=>semI_mono (fun A w q=>q.1) x) hs;exact ⟨lg_closed R A b w (i1 A b hm hb) hs',fun A' hA'=>lg_closed R A' b w ((i3 A' A b hA' hm).1 hb) hs'⟩
noncomputable def chain (nm:Str->It->Str):List It->Str->List Rw :=
 List.rec (fun A=>[(A,[])]) fun x r rest A=>if 2≤r.length then (A,[x,.N (nm A x)])::rest (nm A x) else [(A,x::r)]
section
variable {nm:Str->It->Str}
theorem chain_long {x:It}{r:List It}{A:Str}(h:2≤r.length):chain nm (x::r) A=(A,[x,.N (nm A x)])::chain nm r (nm A x):=if_pos h
theorem chain_short {x:It}{r:List It}{A:Str}(h:¬ 2≤r.length):chain nm (x::r) A=[(A,x::r)]:=if_neg h
inductive ChM (nm:Str->It->Str) (b:List It) (A A':Str) (b':List It):Prop
 | last (p:List It) (e:b=p++b') (eA:A'=p.foldl nm A) (hl:b'.length≤2) (h2:p≠[]->b'.length=2):ChM nm b A A' b'
 | cut (p r:List It) (x:It) (e:b=p++x::r) (eA:A'=p.foldl nm A) (hr:2≤r.length) (eb:b'=[x,.N (nm A' x)]):ChM nm b A A' b'
theorem chain_mem {b:List It}:∀ {A A':Str}{b':List It},(A',b')∈chain nm b A->ChM nm b A A' b':=by
 induction b with
 | nil =>
  intro A A' b' h;have e:=Prod.mk.inj (List.mem_singleton.mp h);rw [e.1,e.2];exact .last [] rfl rfl (Nat.zero_le _) fun q=>absurd rfl q
 | cons x r ih =>
  intro A A' b' h;by_cases hr:2≤r.length
  ·rw [chain_long hr] at h;refine (List.mem_cons.mp h).elim (fun e=>?_) fun h=>(ih h).casesOn (fun p e eA hl h2=>?_) fun p r y e eA hr eb=>.cut (x::p) r y (congrArg (x::·) e) eA hr eb
   ·have e:=Prod.mk.inj e;rw [e.1,e.2];exact .cut [] r x rfl rfl hr rfl
   ·refine .last (x::p) (congrArg (x::·) e) eA hl fun _=>?_;by_cases hp:p=[]
    ·rw [hp] at e;exact Nat.le_antisymm hl ((show r=b' from e)▸hr)
    ·exact h2 hp
  ·rw [chain_short hr] at h;have e:=Prod.mk.inj (List.mem_singleton.mp h);rw [e.1,e.2];exact .last [] rfl rfl (Nat.succ_le_of_lt (Nat.lt_of_not_le hr)) fun q=>absurd rfl q
theorem chain_up {rs':List Rw}{b:List It}:∀ {A:Str}{w:List Nat},(∀ p∈chain nm b A,p∈rs')->Sem (Lg rs') b w->Lg rs' A w:=by
 induction b with
 | nil=>intro A w h hs;exact lg_closed rs' A [] w (h _ (.head _)) hs
 | cons x r ih =>
  intro A w h hs;by_cases hr:2≤r.length
  ·rw [chain_long hr] at h;obtain ⟨u,v,e,h1,h2⟩:=hs;have hv:Lg rs' (nm A x) v:=ih (fun p hp=>h p (.tail _ hp)) h2;exact lg_closed rs' A [x,.N (nm A x)] w (h _ (.head _)) ⟨u,v,e,h1,(sem_one (I:=Lg rs') (i:=.N (nm A x))).mpr hv⟩
  ·rw [chain_short hr] at h;exact lg_closed rs' A (x::r) w (h _ (.head _)) hs
noncomputable def NewHd (nm:Str->It->Str)(rs:List Rw)(N A:Str)(p s:List It):Prop:=(A,p++s)∈rs∧p≠[]∧2≤s.length∧N=p.foldl nm A
noncomputable def ChI (nm:Str->It->Str)(rs:List Rw)(A':Str)(w:List Nat):Prop:=((∃ A p s,NewHd nm rs A' A p s)->∃ A p s,NewHd nm rs A' A p s∧Sem (Lg rs) s w)∧((∀ A p s,¬ NewHd nm rs A' A p s)->Lg rs A' w)
section
variable {rs rs':List Rw}{A A':Str}{p s:List It}{w:List Nat}
theorem chI_old (hfr:∀ N A p s,NewHd nm rs N A p s->∀ A' b,(A',b)∈rs->A'≠N∧It.N N∉b){b:List It}(hm:(A,b)∈rs){i:It}(hi:i∈b){u:List Nat}(x:semI (ChI nm rs) i u):semI (Lg rs) i u:=by
 cases i with
 | T t=>exact x
 | N B=>exact x.2 fun A₂ p₂ s₂ hn=>(hfr B A₂ p₂ s₂ hn A b hm).2 hi
theorem chI_fin (hfr:∀ N A p s,NewHd nm rs N A p s->∀ A' b,(A',b)∈rs->A'≠N∧It.N N∉b)(hm:(A,p++s)∈rs)(eA:A'=p.foldl nm A)(hl:p≠[]->2≤s.length)(hs:Sem (Lg rs) s w):ChI nm rs A' w:=by
 by_cases hp:p=[]
 ·subst hp;have e2:A'=A:=eA;subst e2;exact ⟨fun q=>q.elim fun A₂ q=>q.elim fun p₂ q=>q.elim fun s₂ hn=>absurd rfl (hfr A' A₂ p₂ s₂ hn A' _ hm).1,fun _=>lg_closed rs A' s w hm hs⟩
 ·have hn:NewHd nm rs A' A p s:=⟨hm,hp,hl hp,eA⟩;exact ⟨fun _=>⟨A,p,s,hn,hs⟩,fun q=>absurd hn (q A p s)⟩
theorem NewHd.ext {x:It}{r:List It}(hm:(A,p++x::r)∈rs)(eA:A'=p.foldl nm A)(hr:2≤r.length):NewHd nm rs (nm A' x) A (p++[x]) r :=
 ⟨by rw [List.append_assoc];exact hm,fun q=>absurd (List.append_eq_nil_iff.mp q).2 (List.cons_ne_nil _ _),hr,by rw [List.foldl_append,<-eA];rfl⟩
theorem lg_chain (hinj:∀ N A p s A₂ p₂ s₂,NewHd nm rs N A p s->NewHd nm rs N A₂ p₂ s₂->A₂=A∧p₂=p)(hfr:∀ N A p s,NewHd nm rs N A p s->∀ A' b,(A',b)∈rs->A'≠N∧It.N N∉b)(h1:∀ A b,(A,b)∈rs->∀ p∈chain nm b A,p∈rs')(h2:∀ A' b',(A',b')∈rs'->∃ A b,(A,b)∈rs∧(A',b')∈chain nm b A)(hA:∀ B p s,¬ NewHd nm rs A B p s):Lg rs' A w↔Lg rs A w:=by
 refine ⟨fun q=>(q (ChI nm rs) fun A' b' w hm hs=>el22 (h2 A' b' hm) fun A b hAb hc=>(chain_mem hc).casesOn (fun p e eA hl q2=>?_) fun p r x e eA hr eb=>?_).2 hA,fun q=>q (Lg rs') fun A b w hm hs=>chain_up (h1 A b hm) hs⟩
 ·rw [e] at hAb;exact chI_fin hfr hAb eA (fun hp=>Nat.le_of_eq (q2 hp).symm) (sem_mono (fun i hi u x=>chI_old hfr hAb (List.mem_append_right _ hi) x) hs)
 ·rw [e] at hAb;rw [eb] at hs;refine el23 (sem_cons.mp hs) fun u v ew hx hv=>?_;have hnew:=NewHd.ext hAb eA hr;have hv:=(sem_one (i:=.N (nm A' x))).mp hv;refine (hv.1 ⟨A,p++[x],r,hnew⟩).elim fun A₂ q=>el22 q fun p₂ s₂ hn hs₂=>?_;have e2:=hinj _ _ _ _ _ _ _ hnew hn;rw [e2.1,e2.2] at hn;exact chI_fin hfr (s:=x::s₂) (by have:=hn.1;rwa [List.append_assoc] at this) eA (fun _=>Nat.le_succ_of_le hn.2.2.1) ⟨u,v,ew,chI_old hfr hAb (List.mem_append_right _ (.head _)) hx,hs₂⟩
end
end
end
variable {rs R : List Rw}
theorem cS.weak {st:List Stmt}(he:∀ x w,ε'.lookup x=some w->ε.lookup x=some w)(hm:μ'.Sublist μ)(h:cS C d sc ε' μ' st kf):cS C d sc ε μ st kf :=
 fun A env F Z s a b S=>h A env F Z s a b (S.weaken he hm)
theorem relN_refl {d:V}:∀ (ε:Env1),RelN (FrzW a d) ε ε
 | []=>.nil
 | (_,_)::r=>.cons (.same _) (relN_refl r)
theorem UpdAt.mem' {x x':O}(h:UpdAt a x x' μ μ'):(a,x')∈μ':=by
 induction h with
 | here=>exact .head _
 | there _ ih=>exact .tail _ ih
noncomputable def Rw.v (p:Rw):V:=prodV p.1 p.2
noncomputable def hK (A:Str):Key:=.t [tN,A]
theorem hK_inj {A B:Str}(h:hK A=hK B):A=B:=by
 unfold hK at h;injection h with h;injection h with _ h;injection h
theorem nonT_inj {A B:Str}(h:nonT A=nonT B):A=B:=by
 unfold nonT at h;injection h with _ h;injection h with h;injection h with _ h;injection h
theorem itv_inj {i j:It}(h:i.v=j.v):i=j:=by
 cases i with
 | N x=>cases j with
  | N y=>rw [nonT_inj h]
  | T y=>unfold It.v nonT at h;nomatch h
 | T x=>cases j with
  | N y=>unfold It.v nonT at h;nomatch h
  | T y=>unfold It.v at h;injection h with h;rw [h]
theorem rwv_inj {p q:Rw}(h:p.v=q.v):p=q:=by
 obtain ⟨a,b⟩:=p;obtain ⟨c,e⟩:=q;unfold Rw.v prodV at h;injection h with _ h;injection h with h1 h2;injection h1 with _ h1;injection h2 with h2 _;injection h2 with _ h2;injection h2 with h2;have h1:a=c:=nonT_inj h1;have h2:b=e:=(List.map_inj_right (fun x y q=>itv_inj q)).mp h2;rw [h1,h2]
noncomputable def lhsOf (rs:List Rw)(A:Str):List V:=(rs.filter fun p=>decide (p.1=A)).map Rw.v
theorem lhsOf_snoc {p:Rw}{A:Str}:lhsOf (rs++[p]) A=if p.1=A then lhsOf rs A++[p.v] else lhsOf rs A:=by
 unfold lhsOf;rw [List.filter_append,List.map_append];by_cases e:p.1=A
 ·simp [e]
 ·simp [e]
theorem lhsOf_ne {A B:Str}(hA:∃ p∈rs,p.1=A)(h:lhsOf rs A=lhsOf rs B):A=B:=by
 obtain ⟨p,hp,rfl⟩:=hA;have h1:p.v∈lhsOf rs p.1:=List.mem_map_of_mem (List.mem_filter.mpr ⟨hp,decide_eq_true rfl⟩);rw [h] at h1;obtain ⟨q,hq,e⟩:=List.mem_map.mp h1;rw [<-rwv_inj e];exact of_decide_eq_true (List.mem_filter.mp hq).2
theorem lhsOf_len {A:Str}:(lhsOf rs A).length≤rs.length:=by
 unfold lhsOf;rw [List.length_map];exact List.length_filter_le _ _
theorem lhsOf_nil {A:Str}(h:¬ ∃ p∈rs,p.1=A):lhsOf rs A=[]:=by
 unfold lhsOf;rw [List.map_eq_nil_iff,List.filter_eq_nil_iff];exact fun p hp q=>h ⟨p,hp,of_decide_eq_true q⟩
structure DomOk (rs:List Rw)(dom:List Str):Prop where
 nd:dom.Nodup
 dm:∀ A,A∈dom↔∃ p∈rs,p.1=A
structure Ix where
 a:Addr
 dd:Addr
 D1:Addr
 D2:Addr
 D3:Addr
 D4:Addr
 X:Mem
 μ:Mem
 fs:List (Str×W)
structure IxS where
 B:Mem
 dom:List Str
 ad:Str->Addr
 k2:List (Key×W)
 k3:List (Key×W)
 k4:List (Key×W)
noncomputable def IxS.k1 (s:IxS):List (Key×W):=s.dom.map fun A=>(hK A,W.l (s.ad A))
noncomputable def Ix.M (I:Ix)(s:IxS):Mem:=s.B++(I.D4,.dict s.k4)::(I.D3,.dict s.k3)::(I.D2,.dict s.k2)::(I.D1,.dict s.k1)::(I.X++(I.a,.inst 334 I.dd)::(I.dd,.ns I.fs)::I.μ)
section
variable {I:Ix}{s:IxS}{B':Mem}{k':List (Key×W)}
theorem Ix.m1:(I.D1,O.dict s.k1)∈I.M s:=List.mem_append_right _ (.tail _ (.tail _ (.tail _ (.head _))))
theorem Ix.m2:(I.D2,O.dict s.k2)∈I.M s:=List.mem_append_right _ (.tail _ (.tail _ (.head _)))
theorem Ix.m4:(I.D4,O.dict s.k4)∈I.M s:=List.mem_append_right _ (.head _)
theorem Ix.ma:(I.a,O.inst 334 I.dd)∈I.M s:=List.mem_append_right _ (.tail _ (.tail _ (.tail _ (.tail _ (List.mem_append_right _ (.head _))))))
theorem Ix.md:(I.dd,O.ns I.fs)∈I.M s:=List.mem_append_right _ (.tail _ (.tail _ (.tail _ (.tail _ (List.mem_append_right _ (.tail _ (.head _)))))))
theorem Ix.u1 {A:Str}(h:A∉s.dom):UpdAt I.D1 (.dict s.k1) (.dict (kput s.k1 (hK A) (.l b))) (I.M s) (I.M { s with dom:=s.dom++[A],ad:=fun x=>if x=A then b else s.ad x }):=by
 have e:({ s with dom:=s.dom++[A],ad:=fun x=>if x=A then b else s.ad x }:IxS).k1=kput s.k1 (hK A) (.l b):=by
  rw [kput_new fun q=>by
   unfold IxS.k1 at q;rw [List.map_map] at q;obtain ⟨x,hx,e⟩:=List.mem_map.mp q
   exact h (hK_inj e▸hx)]
  unfold IxS.k1;rw [List.map_append]
  congr 1
  ·exact List.map_congr_left fun x hx=>by
    have:x≠A:=fun q=>h (q▸hx);simp [this]
  ·simp
 unfold Ix.M;rw [e];exact UpdAt.app (.there (.there (.there .here))) _
theorem Ix.u2:UpdAt I.D2 (.dict s.k2) (.dict k') (I.M s) (I.M { s with k2:=k' }):=UpdAt.app (.there (.there .here)) _
theorem Ix.u3:UpdAt I.D3 (.dict s.k3) (.dict k') (I.M s) (I.M { s with k3:=k' }):=UpdAt.app (.there .here) _
theorem Ix.u4:UpdAt I.D4 (.dict s.k4) (.dict k') (I.M s) (I.M { s with k4:=k' }):=UpdAt.app .here _
theorem Ix.ub {x y:O}(h:UpdAt b x y s.B B'):UpdAt b x y (I.M s) (I.M { s with B:=B' }):=h.inApp _
theorem Ix.mb {x:O}(h:(b,x)∈s.B):(b,x)∈I.M s:=List.mem_append_left _ h
end
structure IxP (rs:List Rw)(n:Nat)(s:IxS):Prop where
 nd:s.dom.Nodup
 at':∀ A∈s.dom,(s.ad A,O.list ((lhsOf rs A).map .v))∈s.B
 b2:Box s.B s.k2 1 n
 k3:∀ p∈s.k3,p.1.kind=1
 n3:s.k3.length≤n
 b4:Box s.B s.k4 0 n
 ne2:∀ p∈s.k2,∀ A∈s.dom,p.2≠W.l (s.ad A)
 ne4:∀ p∈s.k4,∀ A∈s.dom,p.2≠W.l (s.ad A)
theorem kput_len {k:Key}{w:W}:(kput kvs k w).length≤kvs.length+1:=by
 have e:=congrArg List.length (kput_keys (kvs:=kvs) (k:=k) (w:=w));rw [List.length_map] at e;rw [e];split
 ·rw [List.length_map];lia
 ·rw [List.length_append,List.length_map,List.length_singleton];lia
theorem Box.fresh {B:Mem}{kk:List (Key×W)}{κ:Nat}(h:Box B kk κ n)(hb:b∉B.map (·.1)):∀ p∈kk,p.2≠W.l b:=fun p hp q=>by
 obtain ⟨_,c,vs,hc,hm,_⟩:=h.val p hp;rw [hc] at q;injection q with q;exact hb (q▸List.mem_map_of_mem (f:=(·.1)) hm)
section
variable {s:IxS}
theorem IxP.mono (h:IxP rs n s)(le:n≤m):IxP rs m s:=⟨h.nd,h.at',h.b2.mono le,h.k3,Nat.le_trans h.n3 le,h.b4.mono le,h.ne2,h.ne4⟩
theorem IxP.out (h:IxP rs n s)(hb:b∉s.B.map (·.1)){A:Str}(hA:A∈s.dom):b≠s.ad A:=fun q=>hb (q▸List.mem_map_of_mem (f:=(·.1)) (h.at' A hA))
theorem IxP.new (h:IxP rs n s)(hb:b∉s.B.map (·.1)){A:Str}(hA:A∉s.dom)(hr:¬ ∃ p∈rs,p.1=A):IxP rs n { s with B:=(b,.list [])::s.B,dom:=s.dom++[A],ad:=fun x=>if x=A then b else s.ad x }:=by
 have ne:∀ {kk:List (Key×W)}{κ:Nat},Box s.B kk κ n->(∀ p∈kk,∀ A∈s.dom,p.2≠W.l (s.ad A))->∀ p∈kk,∀ B∈s.dom++[A],p.2≠W.l (if B=A then b else s.ad B):=fun {kk} {κ} hB hn p hp B hB'=>by
  by_cases e:B=A
  ·rw [if_pos e];exact hB.fresh hb p hp
  ·rw [if_neg e]
   rcases List.mem_append.mp hB' with q | q
   ·exact hn p hp B q
   ·exact absurd (List.mem_singleton.mp q) e
 refine ⟨List.nodup_append.mpr ⟨h.nd,List.pairwise_singleton _ _,fun x hx y hy e=>hA (by rw [List.mem_singleton.mp hy] at e;exact e▸hx)⟩,fun B hB=>?_,h.b2.cons _,h.k3,h.n3,h.b4.cons _,ne h.b2 h.ne2,ne h.b4 h.ne4⟩;by_cases e:B=A
 ·subst e;show ((if B=B then b else s.ad B),_)∈_;rw [if_pos rfl,lhsOf_nil hr];exact .head _
 ·show ((if B=A then b else s.ad B),_)∈_;rw [if_neg e]
  rcases List.mem_append.mp hB with q | q
  ·exact .tail _ (h.at' B q)
  ·exact absurd (List.mem_singleton.mp q) e
theorem IxP.app (h:IxP rs n s)(hn:rs.length≤n){p:Rw}(hd:∀ A∈s.dom,A≠p.1->∃ q∈rs,q.1=A){B':Mem}(hU:UpdAt (s.ad p.1) (.list ((lhsOf rs p.1).map .v)) (.list ((lhsOf rs p.1).map .v++[.v p.v])) s.B B'):IxP (rs++[p]) (n+1) { s with B:=B' }:=by
 have hl:((lhsOf rs p.1).map W.v).length≤n:=by rw [List.length_map];exact Nat.le_trans lhsOf_len hn
 refine ⟨h.nd,fun A hA=>?_,h.b2.upd hl hU,h.k3,Nat.le_succ_of_le h.n3,h.b4.upd hl hU,h.ne2,h.ne4⟩;rw [lhsOf_snoc];by_cases e:p.1=A
 ·subst e;rw [if_pos rfl,List.map_append];exact hU.mem'
 ·rw [if_neg e]
  rcases hU.carry (h.at' A hA) with q | ⟨_,q,_⟩
  ·exact q
  ·injection q with q;exact absurd (lhsOf_ne (hd A hA (Ne.symm e)) ((List.map_inj_right (fun x y q=>by injection q)).mp q)).symm e
theorem IxP.box (h:IxP rs n s){vs:List W}{w:W}{B':Mem}(hl:vs.length≤n)(hne:∀ A∈s.dom,b≠s.ad A)(hU:UpdAt b (.list vs) (.list (vs++[w])) s.B B'):IxP rs (n+1) { s with B:=B' } :=
 ⟨h.nd,fun A hA=>by
  rcases hU.carry (h.at' A hA) with q | ⟨q,_,_⟩
  ·exact q
  ·exact absurd q.symm (hne A hA),h.b2.upd hl hU,h.k3,Nat.le_succ_of_le h.n3,h.b4.upd hl hU,h.ne2,h.ne4⟩
theorem IxP.put2 (h:IxP rs n s)(hb:b∉s.B.map (·.1)){key:Key}(hk:key.kind=1):IxP rs (n+1) { s with B:=(b,.list [])::s.B,k2:=kput s.k2 key (.l b) } :=
 ⟨h.nd,fun A hA=>.tail _ (h.at' A hA),(h.b2.cons _).put hk (.head _),h.k3,Nat.le_succ_of_le h.n3,(h.b4.cons _).mono (Nat.le_succ _),fun p hp A hA=>by
  rcases mem_kput hp with q | q
  ·exact h.ne2 p q A hA
  ·subst q;exact fun e=>h.out hb hA (by injection e),h.ne4⟩
theorem IxP.put4 (h:IxP rs n s)(hb:b∉s.B.map (·.1)){key:Key}(hk:key.kind=0):IxP rs (n+1) { s with B:=(b,.list [])::s.B,k4:=kput s.k4 key (.l b) } :=
 ⟨h.nd,fun A hA=>.tail _ (h.at' A hA),(h.b2.cons _).mono (Nat.le_succ _),h.k3,Nat.le_succ_of_le h.n3,(h.b4.cons _).put hk (.head _),h.ne2,fun p hp A hA=>by
  rcases mem_kput hp with q | q
  ·exact h.ne4 p q A hA
  ·subst q;exact fun e=>h.out hb hA (by injection e)⟩
theorem IxP.put3 (h:IxP rs n s){key:Key}{w:W}(hk:key.kind=1):IxP rs (n+1) { s with k3:=kput s.k3 key w } :=
 ⟨h.nd,h.at',h.b2.mono (Nat.le_succ _),fun p hp=>by
  rcases mem_kput hp with q | q
  ·exact h.k3 p q
  ·subst q;exact hk,Nat.le_trans kput_len (Nat.succ_le_succ h.n3),h.b4.mono (Nat.le_succ _),h.ne2,h.ne4⟩
end
noncomputable def Rw.ok (p:Rw):Prop:=p.2.length≤10
@[reducible] noncomputable def iE (l:Str)(r:List It)(a:Addr):Env1:=[("lhs",W.v (hK l).val),("prod",W.v (Rw.v (l,r))),("self",W.l a)]
section
variable (h:C.K=Mine.hk.heap_1 C.P)
include h
theorem cls_G:ClsOk C 334:=⟨by rw [h];kernel_rfl,by rw [h];kernel_rfl,by rw [h];kernel_rfl,by rw [h];kernel_rfl,by rw [h];kernel_rfl,by rw [h];kernel_rfl⟩
theorem fd_G {r:Option (Option Value)}(hh:PySem.W.findIn (Mine.hk.heap_1 C.P) (.ref 334) x=r):PySem.W.findIn C.K (.ref 334) x=r:=by rw [h];exact hh
theorem indexes_spec {μ₀ X:Mem}{dd:Addr}{fs:List (Str×W)}(hf:fs.length≤20)(hp:fs.lookup ("_productions" : Str)=some (.v (.list (rs.map Rw.v))))(hok:∀ p∈rs,Rw.ok p)(hz:rs.length≤2000)(hk:∀ w2 w3 w4 dom,DomOk rs dom->k (.v .none) (X++(a,.inst 334 dd)::(dd,.ns (("_lexical_index",w4)::("_empty_index",w3)::("_rhs_index",w2)::("_lhs_index",.v (.dict (dom.map fun A=>(hK A,.list (lhsOf rs A)))))::fs))::μ₀)) :
  cCall C 8 (X++(a,.inst 334 dd)::(dd,.ns fs)::μ₀) (.ref 181) [.l a] [] k:=by
 refine cCall.fzR ?_;apply cCall_enter [("self",.l a)];walk_at "enter"
 case hbind=>walk_at "bind1"
 walk_at "ss";refine cE_dict0 fun D1=>?_;walk_at "ss";refine sa_inst (cls_G h) (tk_f h (by kernel_rfl)) (by decide) (by simp) (.there (UpdAt.app (.there .here) X)) (by lia) ?_;walk_at "ss";refine cE_dict0 fun D2=>?_;walk_at "ss";refine sa_inst (cls_G h) (tk_f h (by kernel_rfl)) (by decide) (by simp) (.there (.there (UpdAt.app (.there .here) X))) (by simp;lia) ?_;walk_at "ss";refine cE_dict0 fun D3=>?_;walk_at "ss";refine sa_inst (cls_G h) (tk_f h (by kernel_rfl)) (by decide) (by simp) (.there (.there (.there (UpdAt.app (.there .here) X)))) (by simp;lia) ?_;walk_at "ss";refine cE_dict0 fun D4=>?_;walk_at "ss";refine sa_inst (cls_G h) (tk_f h (by kernel_rfl)) (by decide) (by simp) (.there (.there (.there (.there (UpdAt.app (.there .here) X))))) (by simp;lia) ?_;walk_at "ss";refine gen (α:=Ix) (⟨a,dd,D1,D2,D3,D4,X,μ₀,("_lexical_index",.l D4)::("_empty_index",.l D3)::("_rhs_index",.l D2)::("_lhs_index",.l D1)::fs⟩) fun I hI=>?_
 have eM:((D4,O.dict [])::(D3,O.dict [])::(D2,O.dict [])::(D1,O.dict [])::(X++(a,O.inst 334 dd)::(dd,O.ns (("_lexical_index",W.l D4)::("_empty_index",W.l D3)::("_rhs_index",W.l D2)::("_lhs_index",W.l D1)::fs))::μ₀))=I.M ⟨[],[],fun _=>0,[],[],[]⟩:=by subst hI;rfl
 rw [eM]
 have ea:a=I.a:=by subst hI;rfl
 rw [ea]
 have p1:I.fs.lookup ("_productions" : Str)=some (.v (.list (rs.map Rw.v))):=by subst hI;exact hp
 have q1:I.fs.lookup ("_lhs_index" : Str)=some (.l I.D1):=by subst hI;rfl
 have q2:I.fs.lookup ("_rhs_index" : Str)=some (.l I.D2):=by subst hI;rfl
 have q3:I.fs.lookup ("_empty_index" : Str)=some (.l I.D3):=by subst hI;rfl
 have q4:I.fs.lookup ("_lexical_index" : Str)=some (.l I.D4):=by subst hI;rfl
 refine a_instM (cls_G h) (fd_G h (by kernel_rfl)) Ix.ma Ix.md p1 ?_;refine for_is it_list ?_;refine fr102 at_map (fun t ε' μ'=>ε'=([("self",W.l I.a)]:List (Str×W))∧∃ s:IxS,μ'=I.M s∧IxP (rs.take t) (30*t) s∧(∀ A,A∈s.dom↔∃ p∈rs.take t,p.1=A)) (fun _ _ _=>rfl) (⟨rfl,⟨[],[],fun _=>0,[],[],[]⟩,rfl,⟨.nil,by simp,.nil,by simp,by simp,.nil,by simp,by simp⟩,by simp⟩) (fun J hJ t p s hpt hP hD=>?_) (fun s hP hD=>?_)
 ·have ht:t<rs.length:=(List.getElem?_eq_some_iff.mp hpt).1;have hr10:p.2.length≤10:=hok p (List.mem_of_getElem? hpt)
  have htk:rs.take (t+1)=rs.take t++[p]:=by rw [List.take_add_one,hpt];rfl
  have htl:(rs.take t).length≤30*t:=by rw [List.length_take];lia
  obtain ⟨l,r⟩:=p;simp only at hr10;walk_at "ss";refine a_inst (cls_P h) (fd_P h (by kernel_rfl)) rfl ?_;walk_at "ss";refine (key_spec (i:=.N l) h ?_).deep (by decide);refine seqK_next (cS_cons (cS1.joinE (fun _:IxS=>iE l r I.a) I.M (fun s=>IxP (rs.take t) (30*t) s∧l∈s.dom∧(∀ A,A∈s.dom↔∃ p∈rs.take t++[(l,r)],p.1=A)) (fun K hK'=>?_) fun s hS=>?_))
  ·walk_at "ss";refine a_instM (cls_G h) (fd_G h (by kernel_rfl)) Ix.ma Ix.md q1 ?_;refine v_notInD (kvs:=s.k1) (key:=hK l) Ix.m1 (fun p hp=>?_) (by show (1:Nat)≠2;decide) ?_
   ·obtain ⟨A,_,rfl⟩:=List.mem_map.mp hp;rfl
   walk_at "ss"
   have hmem:hK l∈s.k1.map (·.1)↔l∈s.dom:=by
    unfold IxS.k1;rw [List.map_map,List.mem_map];exact ⟨fun ⟨x,hx,e⟩=>hK_inj e▸hx,fun q=>⟨l,q,rfl⟩⟩
   refine ⟨fun hb=>?_,fun hb=>?_⟩
   ·have hno:l∉s.dom:=fun q=>by rw [decide_eq_true (hmem.mpr q)] at hb;cases hb
    walk_at "ss";refine cE_listM ?_;walk_at "ss";refine ⟨by simp,fun b=>?_⟩;refine cAsg.nod fun hn=>?_;have hb':b∉s.B.map (·.1):=fun q=>(List.nodup_cons.mp hn).1 (by unfold Ix.M;rw [List.map_append];exact List.mem_append_left _ q);walk_at "ss";refine a_instM (cls_G h) (fd_G h (by kernel_rfl)) (.tail _ Ix.ma) (.tail _ Ix.md) q1 ?_;walk_at "ss";refine si_dict (kvs:=s.k1) (key:=hK l) (.there (Ix.u1 hno)) (fun p hp=>?_) (by show (1:Nat)≠2;decide) ?_ ?_
    ·obtain ⟨A,_,rfl⟩:=List.mem_map.mp hp;rfl
    ·unfold IxS.k1;rw [List.length_map]
     have:=List.Nodup.length_le_of_subset hP.nd (l₂:=(rs.take t).map (·.1)) fun A hA=>by obtain ⟨q,hq,e⟩:=(hD A).mp hA;exact e▸List.mem_map_of_mem hq
     rw [List.length_map] at this;lia
    walk_at "ss";have hr0:¬ ∃ p∈rs.take t,p.1=l:=fun q=>hno ((hD l).mpr q);refine hK' _ ⟨hP.new hb' hno hr0,List.mem_append_right _ (.head _),fun A=>?_⟩;rw [show ∀ A,(A∈s.dom++[l]↔_) from fun A=>List.mem_append,hD A];constructor
    ·rintro (⟨p,hp,e⟩ | q)
     ·exact ⟨p,List.mem_append_left _ hp,e⟩
     ·exact ⟨(l,r),by simp,(List.mem_singleton.mp q).symm⟩
    ·rintro ⟨p,hp,e⟩
     rcases List.mem_append.mp hp with q | q
     ·exact .inl ⟨p,q,e⟩
     ·rw [List.mem_singleton.mp q] at e;exact .inr (e▸.head _)
   ·have hin:l∈s.dom:=Classical.byContradiction fun q=>by rw [decide_eq_false (fun e=>q (hmem.mp e))] at hb;cases hb
    walk_at "ss";refine hK' s ⟨hP,hin,fun A=>?_⟩;rw [hD A];constructor
    ·rintro ⟨p,hp,e⟩;exact ⟨p,List.mem_append_left _ hp,e⟩
    ·rintro ⟨p,hp,e⟩
     rcases List.mem_append.mp hp with q | q
     ·exact ⟨p,q,e⟩
     ·rw [List.mem_singleton.mp q] at e;exact (hD A).mp (e▸hin)
  clear hP hD;have hP:=hS.1;have hin:=hS.2.1;have hD:=hS.2.2
  have hdd:∀ A∈s.dom,A≠l->∃ q∈rs.take t,q.1=A:=fun A hA hne=>by
   obtain ⟨q,hq,e⟩:=(hD A).mp hA
   rcases List.mem_append.mp hq with q' | q'
   ·exact ⟨q,q',e⟩
   ·rw [List.mem_singleton.mp q'] at e;exact absurd e.symm hne
  obtain ⟨B',hU⟩:=UpdAt.exists (.list ((lhsOf (rs.take t) l).map W.v++[W.v (Rw.v (l,r))])) (hP.at' l hin);walk_at "ss";refine a_instM (cls_G h) (fd_G h (by kernel_rfl)) Ix.ma Ix.md q1 ?_;walk_at "ss";refine ⟨sub_dict (kvs:=s.k1) Ix.m1,v_itemD (kvs:=s.k1) (key:=hK l) (u:=.l (s.ad l)) Ix.m1 (fun p hp=>?_) (by show (1:Nat)≠2;decide) (List.mem_map_of_mem (f:=fun A=>(hK A,W.l (s.ad A))) hin) ?_⟩
  ·obtain ⟨A,_,rfl⟩:=List.mem_map.mp hp;rfl
  refine m_list (Ix.mb (hP.at' l hin)) PySem.F.slot_list_append rfl ?_;walk_at "ss";refine v_append (Ix.ub hU) (by rw [List.length_map];have:=lhsOf_len (rs:=rs.take t) (A:=l);lia) ?_;have hP1:=hP.app (p:=(l,r)) htl hdd hU;have hD1:∀ A,A∈({ s with B:=B' }:IxS).dom↔∃ p∈rs.take t++[(l,r)],p.1=A:=hD;clear hP hD hdd;refine gen (α:=IxS) { s with B:=B' } fun s1 hs1=>?_;rw [<-hs1] at hP1 hD1 ⊢;clear hs1 hU hin;refine seqK_next (cS_cons (cS1.joinX (fun _:IxS=>iE l r I.a) I.M (fun s=>IxP (rs.take t++[(l,r)]) (30*t+4) s∧(∀ A,A∈s.dom↔∃ p∈rs.take t++[(l,r)],p.1=A)) (fun K hK'=>?_) fun ε₂ s hsub hS2=>?_))
  ·walk_at "ss";refine cT_valK ?_ (by intros;rfl);walk_at "ss";refine a_inst (cls_P h) (fd_P h (by kernel_rfl)) rfl ?_;refine t_tup (by rw [List.length_map];exact (by lia:r.length≤100000)) ⟨fun hb=>?_,fun hb=>?_⟩
   ·obtain ⟨i0,rr,hr⟩:∃ i0 rr,r=i0::rr:=by
     cases r with
     | nil=>cases hb
     | cons i0 rr=>exact ⟨i0,rr,rfl⟩
    have i0k:i0.key.kind=1:=by cases i0<;>rfl
    walk_at "ss";refine a_inst (cls_P h) (fd_P h (by kernel_rfl)) rfl ?_;walk_at "ss";refine ⟨sub_tup,v_item_tup (x:=i0.v) (by decide) (by decide) (by rw [hr];rfl) ?_⟩;walk_at "ss";refine (key_spec (i:=i0) h ?_).deep (by decide);refine seqK_next (cS_cons (cS1.joinE (fun _:IxS=>("rhs0",W.v i0.key.val)::iE l r I.a) I.M (fun s=>IxP (rs.take t++[(l,r)]) (30*t+3) s∧i0.key∈s.k2.map (·.1)∧(∀ A,A∈s.dom↔∃ p∈rs.take t++[(l,r)],p.1=A)) (fun K2 hK2=>?_) fun s hS3=>?_))
    ·walk_at "ss";refine a_instM (cls_G h) (fd_G h (by kernel_rfl)) Ix.ma Ix.md q2 ?_;refine v_notInD (kvs:=s1.k2) (key:=i0.key) Ix.m2 (fun p hp=>(hP1.b2.val p hp).1.trans i0k.symm) (by rw [i0k];decide) ?_;walk_at "ss";refine ⟨fun hb=>?_,fun hb=>?_⟩
     ·have hno:i0.key∉s1.k2.map (·.1):=by simpa using hb
      walk_at "ss";refine cE_listM ?_;walk_at "ss";refine ⟨by simp,fun b=>?_⟩;refine cAsg.nod fun hn=>?_;have hb':b∉s1.B.map (·.1):=fun q=>(List.nodup_cons.mp hn).1 (by unfold Ix.M;rw [List.map_append];exact List.mem_append_left _ q);walk_at "ss";refine a_instM (cls_G h) (fd_G h (by kernel_rfl)) (.tail _ Ix.ma) (.tail _ Ix.md) q2 ?_;walk_at "ss";refine si_dict (kvs:=s1.k2) (key:=i0.key) (.there Ix.u2) (fun p hp=>(hP1.b2.val p hp).1.trans i0k.symm) (by rw [i0k];decide) (by have:=hP1.b2.len;lia) ?_;walk_at "ss";refine hK2 _ ⟨(hP1.put2 hb' i0k).mono (by lia),?_,hD1⟩;exact List.mem_map_of_mem (f:=(·.1)) (mem_kput_self hno)
     ·have hin:i0.key∈s1.k2.map (·.1):=by simpa using hb
      walk_at "ss";exact hK2 s1 ⟨hP1.mono (by lia),hin,hD1⟩
    have hP:=hS3.1;have hin2:=hS3.2.1;have hD:=hS3.2.2
    (refine el12 (List.mem_map.mp hin2) fun qq0 hpm2 hk2=>?_;rcases qq0 with ⟨key2,u2⟩)
    obtain ⟨hkd2,c,vs2,hu2,hbm2,hbl2⟩:=hP.b2.val _ hpm2;simp only at hu2 hk2;subst hu2;obtain ⟨B',hU2⟩:=UpdAt.exists (.list (vs2++[W.v (Rw.v (l,r))])) hbm2;walk_at "ss";refine a_instM (cls_G h) (fd_G h (by kernel_rfl)) Ix.ma Ix.md q2 ?_;walk_at "ss";refine ⟨sub_dict (kvs:=s.k2) Ix.m2,v_itemD (kvs:=s.k2) (u:=.l c) Ix.m2 (fun p hp=>(hP.b2.val p hp).1.trans i0k.symm) (by rw [i0k];decide) (hk2▸hpm2) ?_⟩;refine m_list (Ix.mb hbm2) PySem.F.slot_list_append rfl ?_;walk_at "ss";refine v_append (Ix.ub hU2) (by lia) ?_;walk_at "ss";exact hK' _ (look_sub ⟨rfl,rfl,rfl,trivial⟩) ⟨hP.box hbl2 (fun A hA q=>hP.ne2 _ hpm2 A hA (by rw [q])) hU2,hD⟩
   ·walk_at "ss";refine a_instM (cls_G h) (fd_G h (by kernel_rfl)) Ix.ma Ix.md q3 ?_;walk_at "ss";refine m_P (f:=112) h (by kernel_rfl) (by kernel_rfl) (by kernel_rfl) (by decide) ?_;walk_at "ss";refine (lhs_spec h ?_).deep (by decide);walk_at "ss";refine (key_spec (i:=.N l) h ?_).deep (by decide);walk_at "ss";refine si_dict (kvs:=s1.k3) (key:=hK l) Ix.u3 (fun p hp=>hP1.k3 p hp) (by show (1:Nat)≠2;decide) (by have:=hP1.n3;lia) ?_;walk_at "ss";exact hK' _ (look_sub ⟨rfl,rfl,rfl,trivial⟩) ⟨(hP1.put3 rfl).mono (by lia),hD1⟩
  have hP:=hS2.1;have hD:=hS2.2;refine seqK_next (cS.weak hsub (List.Sublist.refl _) ?_);walk_at "ss";refine a_inst (cls_P h) (fd_P h (by kernel_rfl)) rfl ?_;refine for_is it_tup ?_;refine fr102 at_map (fun u ε' μ'=>ε'=([("lhs",W.v (hK l).val),("prod",W.v (Rw.v (l,r))),("self",W.l I.a)]:List (Str×W))∧∃ s,μ'=I.M s∧IxP (rs.take t++[(l,r)]) (30*t+4+2*u) s∧(∀ A,A∈s.dom↔∃ p∈rs.take t++[(l,r)],p.1=A)) (fun _ _ _=>rfl) (⟨rfl,s,rfl,hP,hD⟩) (fun J2 hJ2 u i s hi hP hD=>?_) (fun s hP hD=>?_)
  ·have hu:u<r.length:=(List.getElem?_eq_some_iff.mp hi).1;walk_at "ss";refine cT_valK ?_ (by intros;rfl);walk_at "ss";refine (iste_spec (i:=i) h ?_).deep (by decide);refine truthy_bool' ⟨fun hb=>?_,fun hb=>?_⟩
   ·cases i with
    | N x=>cases hb
    | T x =>
     walk_at "ss";refine a_instM (cls_G h) (fd_G h (by kernel_rfl)) Ix.ma Ix.md q4 ?_;refine m_dict (kvs:=s.k4) Ix.m4 PySem.F.slot_dict_setdefault rfl ?_;walk_at "ss";refine cE_listM ?_;walk_at "ss";refine ⟨by simp,fun e=>?_⟩;walk_at "ss";refine cCall.nod fun hn=>?_;have hb':e∉s.B.map (·.1):=fun q=>(List.nodup_cons.mp hn).1 (by unfold Ix.M;rw [List.map_append];exact List.mem_append_left _ q);refine c_setdefaultD (kvs:=s.k4) (key:=.s x) (.tail _ Ix.m4) (fun p hp=>(hP.b4.val p hp).1) (by show (0:Nat)≠2;decide) (by have:=hP.b4.len;lia) (fun hno=>⟨_,.there Ix.u4,?_⟩) fun w hw=>?_
     ·refine m_list (.head _) PySem.F.slot_list_append rfl ?_;walk_at "ss";refine v_append .here (by simp) ?_;walk_at "ss";have hP2:=hP.put4 hb' (key:=.s x) rfl;exact forK_next hJ2 (ε':=iE l r I.a) ⟨rfl,rfl,rfl,trivial⟩ (List.Sublist.refl _) ⟨rfl,{ s with B:=(e,.list [W.v (Rw.v (l,r))])::s.B,k4:=kput s.k4 (.s x) (.l e) },rfl,(hP2.box (b:=e) (vs:=[]) (w:=W.v (Rw.v (l,r))) (Nat.zero_le _) (fun A hA=>hP.out hb' hA) .here).mono (by lia),hD⟩
     ·obtain ⟨_,f,vs3,hw3,hbm3,hbl3⟩:=hP.b4.val _ hw;simp only at hw3;subst hw3;obtain ⟨B3,hU3⟩:=UpdAt.exists (.list (vs3++[W.v (Rw.v (l,r))])) hbm3;refine m_list (.tail _ (Ix.mb hbm3)) PySem.F.slot_list_append rfl ?_;walk_at "ss";refine v_append (.there (Ix.ub hU3)) (by lia) ?_;walk_at "ss";exact forK_next hJ2 (ε':=iE l r I.a) ⟨rfl,rfl,rfl,trivial⟩ (List.sublist_cons_self ..) ⟨rfl,{ s with B:=B3 },rfl,(hP.box hbl3 (fun A hA q=>hP.ne4 _ hw A hA (by rw [q])) hU3).mono (by lia),hD⟩
   ·walk_at "ss";exact forK_next hJ2 (ε':=iE l r I.a) ⟨rfl,rfl,rfl,trivial⟩ (List.Sublist.refl _) ⟨rfl,s,rfl,hP.mono (by lia),hD⟩
  ·rw [List.length_map] at hP;walk_at "ss";exact forK_next hJ (ε':=[("self",W.l I.a)]) ⟨rfl,trivial⟩ (List.Sublist.refl _) ⟨rfl,s,rfl,by rw [htk];exact hP.mono (by lia),by rw [htk];exact hD⟩
 ·rw [List.length_map,List.take_length] at *;walk_at "ss";have f0:Fz C (fun w w'=>w=w') (I.M s) (s.B++(I.D1,.dict s.k1)::(I.X++(I.a,.inst 334 I.dd)::(I.dd,.ns I.fs)::I.μ)):=Fz.weak (List.Sublist.append_left (((List.sublist_cons_self ..).trans (List.sublist_cons_self ..)).trans (List.sublist_cons_self ..)) _);have f1:=fz_lists (C:=C) (K:=hK) (ad:=s.ad) (c:=lhsOf rs) (dom:=s.dom) (D:=I.D1) (B:=s.B) (r:=I.X++(I.a,.inst 334 I.dd)::(I.dd,.ns I.fs)::I.μ) hP.nd hP.at' fun A hA B hB e=>lhsOf_ne ((hD A).mp hA) e
  have f2:Fz C (FrzW I.D1 (.dict (s.dom.map fun A=>(hK A,V.list (lhsOf rs A))))) ((I.D1,.dict (s.dom.map fun A=>(hK A,W.v (.list (lhsOf rs A)))))::(I.X++(I.a,.inst 334 I.dd)::(I.dd,.ns I.fs)::I.μ))
    (X++(a,O.inst 334 dd)::(dd,O.ns (("_lexical_index",W.l D4)::("_empty_index",W.l D3)::("_rhs_index",W.l D2)::("_lhs_index",.v (.dict (s.dom.map fun A=>(hK A,V.list (lhsOf rs A)))))::fs))::μ₀):=by
   subst hI;refine fz_obj (.head _) (.dict ?_) .here (FrzT.append (FrzT.refl _) (.cons (.same _) (.cons (.ns (.cons (.same _) (.cons (.same _) (.cons (.same _) (.cons .put (FrzN.refl _)))))) (FrzT.refl _))));have:=frozenD_map (s.dom.map fun A=>(hK A,V.list (lhsOf rs A)));rw [List.map_map] at this;exact this
  refine ⟨_,.v .none,_,(f0.trans f1).trans f2,⟨_,⟨_,rfl,rfl⟩,.same _⟩,hk _ _ _ s.dom ⟨hP.nd,hD⟩⟩
end
noncomputable def unP:V->List V
 | .inst _ [_,(_,.tup vs)]=>vs
 | _=>[]
noncomputable def isI:V->Bool
 | .inst _ _=>true
 | _=>false
theorem unP_v (p:Rw):unP p.v=p.2.map It.v:=rfl
theorem all_isI (r:List It):(r.map It.v).all isI=r.all It.isN:=by
 rw [List.all_map];exact List.all_congr rfl fun i=>by cases i<;>rfl
noncomputable def lensOf (rs:List Rw):List Int:=rs.map fun p=>(p.2.length:Int)
noncomputable def nonLex (rs:List Rw):Bool:=rs.all fun p=>!decide (p.2.length≠1)||p.2.all It.isN
noncomputable def unaryLex (rs:List Rw):Bool:=rs.all fun p=>!decide (p.2.length=1)||!p.2.all It.isN
theorem all_filter_map {α:Type}{f:α->V}{l:List α}{p q:V->Bool}:((((l.map f).filter p).map q).all id)=l.all fun a=>!p (f a)||q (f a):=by
 induction l with
 | nil=>rfl
 | cons a r ih =>
  rw [List.map_cons,List.filter_cons];by_cases e:p (f a)=true
  ·rw [if_pos e,List.map_cons,List.all_cons,ih,List.all_cons,e];rfl
  ·rw [if_neg e,ih,List.all_cons,Bool.eq_false_iff.mpr e];rfl
theorem nonLex_is:((((rs.map Rw.v).filter fun x=>((unP x).length:Int) != 1).map fun x=>(unP x).all isI).all id)=nonLex rs:=by
 rw [all_filter_map];refine List.all_congr rfl fun p=>?_;rw [unP_v,all_isI,List.length_map]
 congr 2
 rw [Bool.eq_iff_iff,bne_iff_ne,decide_eq_true_iff];lia
theorem unaryLex_is:((((rs.map Rw.v).filter fun x=>((unP x).length:Int) == 1).map fun x=>!((unP x).all isI)).all id)=unaryLex rs:=by
 rw [all_filter_map];refine List.all_congr rfl fun p=>?_;rw [unP_v,all_isI,List.length_map]
 congr 2
 rw [Bool.eq_iff_iff,beq_iff_eq,decide_eq_true_iff];lia
theorem lens_is:(((rs.map Rw.v).filter fun _=>true).map fun x=>((unP x).length:Int))=lensOf rs:=by
 rw [List.filter_eq_self.mpr (fun _ _=>rfl),List.map_map]
 exact List.map_congr_left fun p _=>by show ((unP p.v).length:Int)=_;rw [unP_v,List.length_map]
section
variable (h:C.K=Mine.hk.heap_1 C.P)(hg:C.gen=false)
include h
theorem isnl_any {p:Rw}(hz:p.2.length≤1000)(hT:∀ P∈C.tabs,(P,O.tab)∈μ)(hk:k (.v (.bool ((unP p.v).all isI))) μ):cCall C 7 μ (.ref 133) [.v p.v] [] k:=by
 refine cCall.noGen (isnl_spec (C:=C.noGen) h rfl hz hT ?_);rw [unP_v,all_isI] at hk;exact hk
theorem islx_any {p:Rw}(hz:p.2.length≤1000)(hT:∀ P∈C.tabs,(P,O.tab)∈μ)(hk:k (.v (.bool !((unP p.v).all isI))) μ):cCall C 8 μ (.ref 140) [.v p.v] [] k:=by
 refine cCall.noGen (islx_spec (C:=C.noGen) h rfl hz hT ?_);rw [unP_v,all_isI] at hk;exact hk
theorem len_any {p:Rw}(hz:p.2.length≤1000)(hk:k (.v (.int (unP p.v).length)) μ):cCall C 3 μ (.builtin "len") [.v p.v] [] k:=by
 refine len_P h hz ?_;rw [unP_v,List.length_map] at hk;exact hk
include hg
theorem forms_spec {μ₀ X:Mem}{dd:Addr}{fs:List (Str×W)}(hf:fs.length≤30)(hp:fs.lookup ("_productions" : Str)=some (.v (.list (rs.map Rw.v))))(hok:∀ p∈rs,Rw.ok p)(hne:rs≠[])(hT:∀ P∈C.tabs,(P,O.tab)∈μ₀)(hk:∀ w1 m1 m2,Utmost (· ≥ ·) (lensOf rs) m1->Utmost (·≤·) (lensOf rs) m2->k (.v .none) (X++(a,.inst 334 dd)::(dd,.ns (("_all_unary_are_lexical",.v (.bool (unaryLex rs)))::("_max_len",.v (.int m2))::("_min_len",.v (.int m1))::("_is_nonlexical",.v (.bool (nonLex rs)))::("_is_lexical",w1)::fs))::μ₀)) :
  cCall C 12 (X++(a,.inst 334 dd)::(dd,.ns fs)::μ₀) (.ref 227) [.l a] [] k:=by
 have hTn:∀ fs':List (Str×W),∀ P∈C.tabs,(P,O.tab)∈X++(a,.inst 334 dd)::(dd,.ns fs')::μ₀:=fun fs' P q=>by simp [hT P q]
 apply cCall_enter [("self",.l a)];walk_at "enter"
 case hbind=>walk_at "bind1"
 walk_at "ss";refine a_instM (cls_G h) (fd_G h (by kernel_rfl)) (List.mem_append_right _ (.head _)) (List.mem_append_right _ (.tail _ (.head _))) hp ?_;walk_at "ss";refine cGen_all (d:=8) hg (by intros;rfl) (by intros;rfl) rfl rfl rfl rfl (by intros;rfl) ?_;walk_at "ss";refine ⟨rfl,?_⟩;walk_at "ss";refine ⟨_,it_list,hTn _,fun items e=>⟨fun _=>true,fun x=>!((unP x).all isI),fun g x hx=>?_,?_⟩⟩
 ·subst e
  (refine el12 (List.mem_map.mp hx) fun p hpm qq2=>?_;subst qq2)
  have hz:p.2.length≤1000:=by have:=hok p hpm;unfold Rw.ok at this;lia
  refine ⟨_,tgt_name (by walk_at "kind"),ifs_nil ⟨rfl,rfl,fun _=>?_⟩⟩;walk_at "ss";refine m_P (C:=C.inGen g) (f:=140) h (by kernel_rfl) (by kernel_rfl) (by kernel_rfl) (by decide) ?_;walk_at "ss";refine (islx_any (C:=C.inGen g) h hz (hTn _) ?_).deep (by decide);exact ⟨rfl,rfl⟩
 subst e;walk_at "ss";refine sa_inst (cls_G h) (tk_f h (by kernel_rfl)) (by decide) (by simp) (UpdAt.app (.there .here) X) (by lia) ?_;walk_at "ss";refine cGen_all (d:=8) hg (by intros;rfl) (by intros;rfl) rfl rfl rfl rfl (by intros;rfl) ?_;walk_at "ss";refine ⟨rfl,?_⟩;walk_at "ss";refine ⟨_,it_list,hTn _,fun items e=>⟨fun x=>((unP x).length:Int) != 1,fun x=>(unP x).all isI,fun g x hx=>?_,?_⟩⟩
 ·subst e
  (refine el12 (List.mem_map.mp hx) fun p hpm qq2=>?_;subst qq2)
  have hz:p.2.length≤1000:=by have:=hok p hpm;unfold Rw.ok at this;lia
  refine ⟨_,tgt_name (by walk_at "kind"),ifs_one ?_⟩;walk_at "ss";refine (len_any (C:=C.inGen g) h hz ?_).deep (by decide);walk_at "ss";refine ⟨rfl,rfl,fun _=>?_⟩;walk_at "ss";refine m_P (C:=C.inGen g) (f:=133) h (by kernel_rfl) (by kernel_rfl) (by kernel_rfl) (by decide) ?_;walk_at "ss";refine (isnl_any (C:=C.inGen g) h hz (hTn _) ?_).deep (by decide);exact ⟨rfl,rfl⟩
 subst e;walk_at "ss";refine sa_inst (cls_G h) (tk_f h (by kernel_rfl)) (by decide) (by simp) (UpdAt.app (.there .here) X) (by simp;lia) ?_;walk_at "ss";refine cGen_ext (d:=8) ext_min hg (by intros;rfl) (by intros;rfl) rfl rfl rfl rfl (by intros;rfl) ?_;walk_at "ss";refine ⟨rfl,?_⟩;walk_at "ss";refine ⟨_,it_list,hTn _,fun items e=>⟨fun x=>true,fun x=>(unP x).length,fun g x hx=>?_,by rw [e,List.filter_eq_self.mpr (fun _ _=>rfl)];exact fun q=>hne (List.map_eq_nil_iff.mp q),fun m1 hm1=>?_⟩⟩
 ·subst e
  (refine el12 (List.mem_map.mp hx) fun p hpm qq2=>?_;subst qq2)
  have hz:p.2.length≤1000:=by have:=hok p hpm;unfold Rw.ok at this;lia
  refine ⟨_,tgt_name (by walk_at "kind"),ifs_nil ⟨rfl,rfl,fun _=>?_⟩⟩;walk_at "ss";refine (len_any (C:=C.inGen g) h hz ?_).deep (by decide);exact ⟨rfl,rfl⟩
 subst e;walk_at "ss";refine sa_inst (cls_G h) (tk_f h (by kernel_rfl)) (by decide) (by simp) (UpdAt.app (.there .here) X) (by simp;lia) ?_;walk_at "ss";refine cGen_ext (d:=8) ext_max hg (by intros;rfl) (by intros;rfl) rfl rfl rfl rfl (by intros;rfl) ?_;walk_at "ss";refine ⟨rfl,?_⟩;walk_at "ss";refine ⟨_,it_list,hTn _,fun items e=>⟨fun x=>true,fun x=>(unP x).length,fun g x hx=>?_,by rw [e,List.filter_eq_self.mpr (fun _ _=>rfl)];exact fun q=>hne (List.map_eq_nil_iff.mp q),fun m2 hm2=>?_⟩⟩
 ·subst e
  (refine el12 (List.mem_map.mp hx) fun p hpm qq2=>?_;subst qq2)
  have hz:p.2.length≤1000:=by have:=hok p hpm;unfold Rw.ok at this;lia
  refine ⟨_,tgt_name (by walk_at "kind"),ifs_nil ⟨rfl,rfl,fun _=>?_⟩⟩;walk_at "ss";refine (len_any (C:=C.inGen g) h hz ?_).deep (by decide);exact ⟨rfl,rfl⟩
 subst e;walk_at "ss";refine sa_inst (cls_G h) (tk_f h (by kernel_rfl)) (by decide) (by simp) (UpdAt.app (.there .here) X) (by simp;lia) ?_;walk_at "ss";refine cGen_all (d:=8) hg (by intros;rfl) (by intros;rfl) rfl rfl rfl rfl (by intros;rfl) ?_;walk_at "ss";refine ⟨rfl,?_⟩;walk_at "ss";refine ⟨_,it_list,hTn _,fun items e=>⟨fun x=>((unP x).length:Int) == 1,fun x=>!((unP x).all isI),fun g x hx=>?_,?_⟩⟩
 ·subst e
  (refine el12 (List.mem_map.mp hx) fun p hpm qq2=>?_;subst qq2)
  have hz:p.2.length≤1000:=by have:=hok p hpm;unfold Rw.ok at this;lia
  refine ⟨_,tgt_name (by walk_at "kind"),ifs_one ?_⟩;walk_at "ss";refine (len_any (C:=C.inGen g) h hz ?_).deep (by decide);walk_at "ss";refine ⟨rfl,rfl,fun _=>?_⟩;walk_at "ss";refine m_P (C:=C.inGen g) (f:=140) h (by kernel_rfl) (by kernel_rfl) (by kernel_rfl) (by decide) ?_;walk_at "ss";refine (islx_any (C:=C.inGen g) h hz (hTn _) ?_).deep (by decide);exact ⟨rfl,rfl⟩
 subst e;walk_at "ss";refine sa_inst (cls_G h) (tk_f h (by kernel_rfl)) (by decide) (by simp) (UpdAt.app (.there .here) X) (by simp;lia) ?_;walk_at "ss";have:=hk (.v (.bool ((((rs.map Rw.v).filter fun _=>true).map fun x=>!((unP x).all isI)).all id))) m1 m2 (by rw [<-lens_is];exact hm1) (by rw [<-lens_is];exact hm2);rw [<-nonLex_is,<-unaryLex_is] at this;exact this
end
theorem FrzN.snoc {d:V}{k:Key}:∀ (xs:List (Key×W)),FrzN a d (xs++[(k,W.l a)]) (xs++[(k,W.v d)])
 | []=>.cons .put .nil
 | (_,_)::xs=>.cons (.same _) (FrzN.snoc xs)
noncomputable def SetU (U:List Str)(A:Str)(S:List Key):Prop:=S.Nodup∧∀ x∈S,∃ B,(B=A∨B∈U)∧x=hK B
noncomputable def SetT (T:List Str)(S:List Key):Prop:=S.Nodup∧∀ x∈S,∃ t∈T,x=.s t
theorem SetU.kind {U:List Str}{A:Str}{S:List Key}(h:SetU U A S):∀ x∈S,x.kind=1:=fun x hx=>by obtain ⟨B,_,rfl⟩:=h.2 x hx;rfl
theorem SetT.kind {T:List Str}{S:List Key}(h:SetT T S):∀ x∈S,x.kind=0:=fun x hx=>by obtain ⟨B,_,rfl⟩:=h.2 x hx;rfl
theorem SetU.len {U:List Str}{A:Str}{S:List Key}(h:SetU U A S):S.length≤U.length+1:=by
 have:=List.Nodup.length_le_of_subset h.1 (l₂:=(A::U).map hK) fun x hx=>by
  obtain ⟨B,hB,rfl⟩:=h.2 x hx;exact List.mem_map_of_mem (by rcases hB with rfl | hB;exact .head _;exact .tail _ hB)
 rw [List.length_map,List.length_cons] at this;exact this
theorem SetT.len {T:List Str}{S:List Key}(h:SetT T S):S.length≤T.length:=by
 have:=List.Nodup.length_le_of_subset h.1 (l₂:=T.map .s) fun x hx=>by
  obtain ⟨B,hB,rfl⟩:=h.2 x hx;exact List.mem_map_of_mem hB
 rw [List.length_map] at this;exact this
theorem SetU.add {U:List Str}{A B:Str}{S S':List Key}(h:SetU U A S)(hB:B∈U)(hn:hK B∉S)(hp:S'.Perm (hK B::S)):SetU U A S' :=
 ⟨hp.nodup_iff.mpr (List.nodup_cons.mpr ⟨hn,h.1⟩),fun x hx=>by
  rcases List.mem_cons.mp (hp.mem_iff.mp hx) with rfl | q
  ·exact ⟨B,.inr hB,rfl⟩
  ·exact h.2 x q⟩
theorem SetT.add {T:List Str}{t:Str}{S S':List Key}(h:SetT T S)(hB:t∈T)(hn:.s t∉S)(hp:S'.Perm (.s t::S)):SetT T S' :=
 ⟨hp.nodup_iff.mpr (List.nodup_cons.mpr ⟨hn,h.1⟩),fun x hx=>by
  rcases List.mem_cons.mp (hp.mem_iff.mp hx) with rfl | q
  ·exact ⟨t,hB,rfl⟩
  ·exact h.2 x q⟩
noncomputable def gS (dom:List Str)(ks:Str->List Key):V:=.dict (dom.map fun A=>(hK A,.set (ks A)))
noncomputable def gO (dom:List Str)(ks:Str->List Key):List (Key×W):=dom.map fun A=>(hK A,.v (.set (ks A)))
theorem gS_has {ks:Str->List Key}:Has μ (.v (gS dom ks)) (.dict (gO dom ks)):=by
 show O.dict _=O.dict _;rw [List.map_map];rfl
theorem gO_kind {ks:Str->List Key}:∀ p∈gO dom ks,p.1.kind=1:=fun p hp=>by obtain ⟨A,_,rfl⟩:=List.mem_map.mp hp;rfl
theorem gO_done {ks:Str->List Key}:Done (.dict (gO dom ks)) (gS dom ks):=by
 refine .dict ?_;have:=frozenD_map (dom.map fun A=>(hK A,V.set (ks A)));rw [List.map_map] at this;exact this
theorem gO_keys {ks:Str->List Key}{A:Str}:hK A∈(gO dom ks).map (·.1)↔A∈dom:=by
 unfold gO;rw [List.map_map,List.mem_map];exact ⟨fun ⟨x,hx,e⟩=>hK_inj e▸hx,fun q=>⟨A,q,rfl⟩⟩
theorem gO_snoc {ks:Str->List Key}{A:Str}{S:List Key}(h:A∉dom):gO dom ks++[(hK A,.v (.set S))]=gO (dom++[A]) (fun x=>if x=A then S else ks x):=by
 unfold gO;rw [List.map_append]
 congr 1
 ·exact List.map_congr_left fun x hx=>by
   have:x≠A:=fun q=>h (q▸hx);simp [this]
 ·simp
theorem nodup_out {α:Type}{l:List α}{t:Nat}{x:α}(hn:l.Nodup)(hx:l[t]? = some x):x∉l.take t:=fun h2=>by
 have hlt:=(List.getElem?_eq_some_iff.mp hx).1;have h3:=hn;rw [<-List.take_append_drop t l] at h3
 have h4:x∈l.drop t:=by
  rw [List.drop_eq_getElem_cons hlt,(List.getElem?_eq_some_iff.mp hx).2];exact .head _
 exact (List.nodup_append.mp h3).2.2 x h2 x h4 rfl
section
theorem g_getU {U:List Str}{ks:Str->List Key}{A:Str}(hs:∀ A∈dom,SetU U A (ks A))(h:∀ S,SetU U A S->k (.v (.set S)) μ):cCall C d ((a,.set [])::μ) (.builtin "dict.get") [.v (gS dom ks),.v (hK A).val,.l a] [] k:=by
 refine cCall.fzR (c_getD (kvs:=gO dom ks) (key:=hK A) gS_has gO_kind (by show (1:Nat)≠2;decide) (fun hn=>?_) fun u hu=>?_)
 ·exact ⟨_,.v (.set []),μ,fz_obj (.head _) .set .here (FrzT.refl _),.put,h [] ⟨.nil,by simp⟩⟩
 ·obtain ⟨B,hB,e⟩:=List.mem_map.mp hu;injection e with e1 e2;have:=hK_inj e1;subst this;subst e2;exact ⟨_,_,μ,Fz.weak (List.sublist_cons_self ..),rfl,h _ (hs B hB)⟩
theorem g_getT {T:List Str}{ks:Str->List Key}{A:Str}(hs:∀ A∈dom,SetT T (ks A))(h:∀ S,SetT T S->k (.v (.set S)) μ):cCall C d ((a,.set [])::μ) (.builtin "dict.get") [.v (gS dom ks),.v (hK A).val,.l a] [] k:=by
 refine cCall.fzR (c_getD (kvs:=gO dom ks) (key:=hK A) gS_has gO_kind (by show (1:Nat)≠2;decide) (fun hn=>?_) fun u hu=>?_)
 ·exact ⟨_,.v (.set []),μ,fz_obj (.head _) .set .here (FrzT.refl _),.put,h [] ⟨.nil,by simp⟩⟩
 ·obtain ⟨B,hB,e⟩:=List.mem_map.mp hu;injection e with e1 e2;subst e2;exact ⟨_,_,μ,Fz.weak (List.sublist_cons_self ..),rfl,h _ (hs B hB)⟩
theorem unpair:∀ {R:List (List Str)},(∀ x∈R,∃ B:Str,x=[tN,B])->∃ L:List Str,R=L.map fun B=>[tN,B]
 | [],_=>⟨[],rfl⟩
 | x::r,h=>by
  obtain ⟨L,e⟩:=unpair (R:=r) fun y hy=>h y (.tail _ hy);obtain ⟨B,rfl⟩:=h x (.head _);exact ⟨B::L,by rw [e];rfl⟩
theorem sorted_U {U:List Str}{A:Str}{S:List Key}(hU:U.length≤50)(hs:SetU U A S)(h:∀ L:List Str,(L.map hK).Perm S->k (.v (.list (L.map fun B=>(hK B).val))) μ):cCall C (d+3) μ (.builtin "sorted") [.v (.set S)] [] k:=by
 refine c_sortedP hs.kind (fun q=>by obtain ⟨B,_,e⟩:=hs.2 _ q;unfold hK at e;nomatch e) (by have:=hs.len;lia) fun R hR=>?_
 obtain ⟨L,rfl⟩:=unpair (R:=R) fun x hx=>by
  obtain ⟨B,_,e⟩:=hs.2 _ (hR.subset (List.mem_map_of_mem (f:=Key.t) hx));exact ⟨B,by injection e⟩
 have:=h L (by rw [List.map_map] at hR;exact hR);rw [List.map_map];exact this
end
structure SeekU (U:List Str)(i:Str)(fS ag:List Str)(n:Nat):Prop where
 nd:fS.Nodup
 here:i∈fS
 sub:∀ j∈fS,j=i∨j∈U
 agm:∀ j∈ag,j∈fS
 meas:ag.length+2*(U.length+1-fS.length)≤n
 top:n≤1000
theorem SeekU.len {U:List Str}{i:Str}{fS ag:List Str}(h:SeekU U i fS ag n):fS.length≤U.length+1:=by
 have:=List.Nodup.length_le_of_subset h.nd (l₂:=i::U) fun x hx=>by
  rcases h.sub x hx with rfl | q
  ·exact .head _
  ·exact .tail _ q
 rw [List.length_cons] at this;exact this
theorem SeekU.pop {U:List Str}{i j:Str}{fS ag:List Str}(h:SeekU U i fS (ag++[j]) n):SeekU U i fS ag (n-1) :=
 ⟨h.nd,h.here,h.sub,fun x hx=>h.agm x (List.mem_append_left _ hx),by have:=h.meas;rw [List.length_append,List.length_singleton,Nat.add_right_comm] at this;exact Nat.le_sub_of_add_le this,Nat.le_trans (Nat.sub_le ..) h.top⟩
theorem SeekU.add {U:List Str}{i m:Str}{fS ag:List Str}(h:SeekU U i fS ag n)(hm:m∉fS)(hU:m∈U):SeekU U i (m::fS) (ag++[m]) n:=by
 have hnd:=List.nodup_cons.mpr ⟨hm,h.nd⟩
 have hsub:∀ j∈m::fS,j=i∨j∈U:=fun j hj=>by
  rcases List.mem_cons.mp hj with rfl | q
  ·exact .inr hU
  ·exact h.sub j q
 have hl:=List.Nodup.length_le_of_subset hnd (l₂:=i::U) fun x hx=>by
  rcases hsub x hx with rfl | q
  ·exact .head _
  ·exact .tail _ q
 refine ⟨hnd,.tail _ h.here,hsub,fun j hj=>?_,?_,h.top⟩
 ·rcases List.mem_append.mp hj with q | q
  ·exact .tail _ (h.agm j q)
  ·rw [List.mem_singleton.mp q];exact .head _
 ·have q:=h.meas
  have e:U.length+1-fS.length=(U.length+1-(fS.length+1))+1:=by rw [Nat.sub_succ (U.length+1)];exact (Nat.succ_pred_eq_of_pos (Nat.sub_pos_of_lt hl)).symm
  rw [e,Nat.mul_succ] at q;rw [List.length_append,List.length_singleton,List.length_cons,Nat.add_right_comm];exact Nat.le_of_succ_le q
section
variable (h:C.K=Mine.hk.heap_1 C.P)(hg:C.gen=false)
include h hg
theorem closure_any {U:List Str}{ks:Str->List Key}(hU:U.length≤50)(hd:dom.Nodup)(hdl:dom.length≤10000)(hs:∀ A∈dom,SetU U A (ks A))(hk:∀ ks',(∀ A∈dom,SetU U A (ks' A))->k (.v (gS dom ks')) μ):cCall C 5 μ (.ref 345) [.v (gS dom ks)] [] k:=by
 refine cCall.fzR ?_;apply cCall_enter [("graph",.v (gS dom ks))];walk_at "enter"
 case hbind=>walk_at "bind1"
 walk_at "ss";refine cE_dict0 fun c=>?_;walk_at "ss";refine ⟨_,it_dict,fun items e=>?_⟩
 have e':items=dom.map fun i=>(hK i).val:=by rw [e,List.map_map];rfl
 subst e';refine fr110 at_map (fun t ε' μ'=>ε'=([("closure",W.l c),("graph",W.v (gS dom ks))]:List (Str×W))∧∃ ks',(∀ i∈dom.take t,SetU U i (ks' i))∧μ'=(c,.dict (gO (dom.take t) ks'))::μ) (fun _ _ _=>rfl) (⟨rfl,ks,by simp,by simp [gO]⟩) (fun J hJ t i ks' hi hks'=>?_) (fun ks' hks'=>?_)
 ·have hout:=nodup_out hd hi;walk_at "ss";refine ⟨hK i,rfl,by show (1:Nat)≠2;decide,fun a=>?_⟩;walk_at "ss";refine cE_listM ?_;walk_at "ss";refine ⟨by simp,fun b=>?_⟩;walk_at "ss"
  refine cS1_whileJ (fun n ε' μ'=>ε'=([("agenda",W.l b),("found",W.l a),("i",W.v (hK i).val),("closure",W.l c),("graph",W.v (gS dom ks))]:List (Str×W)) ∧
   ∃ fS ag ks1,SeekU U i fS ag n∧ks1.Perm (fS.map hK)∧μ'=(b,.list (ag.map fun j=>.v (hK j).val))::(a,.set ks1)::(c,.dict (gO (dom.take t) ks'))::μ) (2*U.length+1)
   ⟨rfl,[i],[i],[hK i],⟨List.pairwise_singleton _ _,.head _,fun j hj=>.inl (List.mem_singleton.mp hj),fun _ q=>q,by simp only [List.length_singleton];lia,by lia⟩,.refl _,rfl⟩ fun Jw hJw n ε' μ' hI=>?_
  obtain ⟨rfl,fS,ag,ks1,hS,hp,rfl⟩:=hI;refine cT_valK ?_ (by intros;rfl);walk_at "ss";refine t_listM (.head _) (by rw [List.length_map];have:=hS.meas;have:=hS.top;lia) ⟨fun hb=>?_,fun hb=>?_⟩
  ·have hne:ag≠[]:=fun q=>by subst q;cases hb
   obtain ⟨ag',j,rfl⟩:∃ ag' j,ag=ag'++[j]:=⟨ag.dropLast,ag.getLast hne,(List.dropLast_concat_getLast hne).symm⟩;have hj:=hS.sub j (hS.agm j (by simp));rw [List.map_append,List.map_cons,List.map_nil];walk_at "ss";refine m_list (.head _) PySem.F.slot_list_pop rfl ?_;walk_at "ss";refine v_pop .here (by rw [List.length_map];have h1:=hS.meas;have:=hS.top;rw [List.length_append] at h1;lia) ?_;walk_at "ss";refine m_dict gS_has PySem.F.slot_dict_get rfl ?_;walk_at "ss";refine c_set0 fun a2=>?_;walk_at "ss";refine g_getU (U:=U) hs fun S hSU=>?_;walk_at "ss";refine sorted_U hU hSU fun L hL=>?_;walk_at "ss";refine for_is it_list ?_
   have hn0:1≤n:=by have:=hS.meas;rw [List.length_append,List.length_singleton] at this;lia
   have hS':=hS.pop
   have hLU:∀ m∈L,m=i∨m∈U:=fun m hm=>by
    obtain ⟨B,hB,e⟩:=hSU.2 _ (hL.subset (List.mem_map_of_mem hm));have:=hK_inj e;subst this
    rcases hB with rfl | hB
    ·exact hj
    ·exact .inr hB
   refine fr320 at_map (fun t2 ε' μ'=>ε'=([("j",W.v (hK j).val),("agenda",W.l b),("found",W.l a),("i",W.v (hK i).val),("closure",W.l c),("graph",W.v (gS dom ks))]:List (Str×W)) ∧
    ∃ fS2 ag2 ks2,SeekU U i fS2 ag2 (n-1)∧ks2.Perm (fS2.map hK)∧μ'=(b,.list (ag2.map fun j=>.v (hK j).val))::(a,.set ks2)::(c,.dict (gO (dom.take t) ks'))::μ) (fun _ _ _=>rfl) (⟨rfl,fS,ag',ks1,hS',hp,rfl⟩) (fun J hJ t2 m fS2 ag2 ks2 hm hM hp2=>?_) (fun fS2 ag2 ks2 hM hp2=>?_)
   ·have hmL:=hLU m (List.mem_of_getElem? hm)
    have hk2:∀ k'∈ks2,k'.kind=(hK m).kind:=by
     intro k' q;obtain ⟨x,_,rfl⟩:=List.mem_map.mp (hp2.subset q);rfl
    have hmem:hK m∈ks2↔m∈fS2:=by
     rw [hp2.mem_iff,List.mem_map];exact ⟨fun ⟨x,q,e⟩=>hK_inj e▸q,fun q=>⟨m,q,rfl⟩⟩
    have hlen:ks2.length≤51:=by rw [hp2.length_eq,List.length_map];have:=hM.len;lia
    have hag:ag2.length≤1000:=by have:=hM.meas;have:=hM.top;lia
    walk_at "ss";refine v_notInS (ks:=ks2) (.tail _ (.head _)) hk2 (by show (1:Nat)≠2;decide) ?_;walk_at "ss";refine ⟨fun hb=>?_,fun hb=>?_⟩
    ·have hnot:hK m∉ks2:=by simpa using hb
     have hmU:m∈U:=by
      rcases hmL with rfl | q
      ·exact absurd (hmem.mpr hM.here) hnot
      ·exact q
     walk_at "ss";refine m_set (ks:=ks2) (.tail _ (.head _)) PySem.F.slot_set_add rfl ?_;walk_at "ss";refine c_setaddU (ks:=ks2) (key:=hK m) (.tail _ (.head _)) hk2 (by show (1:Nat)≠2;decide) (by lia) (fun q=>absurd q hnot) fun _ ks3 hp3=>⟨_,.there .here,?_⟩;walk_at "ss";refine m_list (.head _) PySem.F.slot_list_append rfl ?_;walk_at "ss";refine v_append .here (by rw [List.length_map];lia) ?_;walk_at "ss";refine forK_next hJ (ε':=[("j",W.v (hK j).val),("agenda",W.l b),("found",W.l a),("i",W.v (hK i).val),("closure",W.l c),("graph",W.v (gS dom ks))]) ⟨rfl,rfl,rfl,rfl,rfl,rfl,trivial⟩ (List.Sublist.refl _) ⟨rfl,m::fS2,ag2++[m],ks3,hM.add (fun q=>hnot (hmem.mpr q)) hmU,hp3.trans (hp2.cons _),?_⟩;rw [List.map_append];rfl
    ·walk_at "ss";exact forK_next hJ (ε':=[("j",W.v (hK j).val),("agenda",W.l b),("found",W.l a),("i",W.v (hK i).val),("closure",W.l c),("graph",W.v (gS dom ks))]) ⟨rfl,rfl,rfl,rfl,rfl,rfl,trivial⟩ (List.Sublist.refl _) ⟨rfl,fS2,ag2,ks2,hM,hp2,rfl⟩
   ·walk_at "ss";exact whK_next hJw (m:=n-1) (ε':=[("agenda",W.l b),("found",W.l a),("i",W.v (hK i).val),("closure",W.l c),("graph",W.v (gS dom ks))]) (by lia) ⟨rfl,rfl,rfl,rfl,rfl,trivial⟩ (List.Sublist.refl _) ⟨rfl,fS2,ag2,ks2,hM,hp2,rfl⟩
  ·have hset:SetU U i ks1:=⟨hp.nodup_iff.mpr (map_nodup (fun x _ y _ q=>hK_inj q) hS.nd),fun x hx=>by
    obtain ⟨B,hB,rfl⟩:=List.mem_map.mp (hp.subset hx)
    exact ⟨B,hS.sub B hB,rfl⟩⟩
   have htk:dom.take (t+1)=dom.take t++[i]:=by rw [List.take_add_one,hi];rfl
   have hkey:hK i∉(gO (dom.take t) ks').map (·.1):=fun q=>hout (gO_keys.mp q);refine seqK_next ?_;refine cS.fz (fz_obj (o:=.set ks1) (a:=a) (d:=.set ks1) (.tail _ (.head _)) .set (.there .here) (FrzT.refl _)) (.cons (.same _) (.cons .put (.cons (.same _) (.cons (.same _) (.cons (.same _) .nil))))) ?_;walk_at "ss";refine si_dict (.there .here) gO_kind (by show (1:Nat)≠2;decide) ?_ ?_
   ·unfold gO;rw [List.length_map,List.length_take];exact min_ok hdl
   walk_at "ss";refine forK_next hJ (ε':=[("closure",W.l c),("graph",W.v (gS dom ks))]) ⟨rfl,rfl,trivial⟩ (List.sublist_cons_self ..) ⟨rfl,fun x=>if x=i then ks1 else ks' x,fun x hx=>?_,?_⟩
   ·rw [htk] at hx;show SetU U x (if x=i then ks1 else ks' x);by_cases e:x=i
    ·subst e;rw [if_pos rfl];exact hset
    ·rw [if_neg e]
     rcases List.mem_append.mp hx with q | q
     ·exact hks' x q
     ·exact absurd (List.mem_singleton.mp q) e
   ·rw [kput_new hkey,htk,gO_snoc hout]
 ·rw [List.length_map,List.take_length] at *;walk_at "ss";exact ⟨_,.v (gS dom ks'),μ,fz_obj (.head _) gO_done .here (FrzT.refl _),.put,hk ks' hks'⟩
end
structure Lc where
 a:Addr
 dd:Addr
 D1:Addr
 D2:Addr
 ad1:Str->Addr
 ad2:Str->Addr
 X:Mem
 μ:Mem
 fs:List (Str×W)
 cats:List Str
noncomputable def Lc.ns (I:Lc):List (Str×W):=("_immediate_leftcorner_words",.l I.D2)::("_immediate_leftcorner_categories",.l I.D1)::I.fs
noncomputable def Lc.M (I:Lc)(ks1 ks2:Str->List Key):Mem:=gsM I.ad2 ks2 I.cats.reverse++(I.D2,.dict (I.cats.map fun i=>(hK i,W.l (I.ad2 i)))) ::
 (gsM I.ad1 ks1 I.cats.reverse++(I.D1,.dict (I.cats.map fun i=>(hK i,W.l (I.ad1 i))))::(I.X++(I.a,.inst 334 I.dd)::(I.dd,.ns I.ns)::I.μ))
noncomputable def Lc.EE (I:Lc)(ks1 ks2:Str->List Key):Mem:=I.X++(I.a,.inst 334 I.dd)::(I.dd,.ns (("_immediate_leftcorner_words",.v (gS I.cats ks2))::("_immediate_leftcorner_categories",.v (gS I.cats ks1))::I.fs))::I.μ
section
variable {I:Lc}{ks1 ks2:Str->List Key}{new:List Key}{i:Str}
theorem Lc.m1:(I.D1,O.dict (I.cats.map fun i=>(hK i,W.l (I.ad1 i))))∈I.M ks1 ks2:=List.mem_append_right _ (.tail _ (List.mem_append_right _ (.head _)))
theorem Lc.m2:(I.D2,O.dict (I.cats.map fun i=>(hK i,W.l (I.ad2 i))))∈I.M ks1 ks2:=List.mem_append_right _ (.head _)
theorem Lc.ma:(I.a,O.inst 334 I.dd)∈I.M ks1 ks2:=List.mem_append_right _ (.tail _ (List.mem_append_right _ (.tail _ (List.mem_append_right _ (.head _)))))
theorem Lc.md:(I.dd,O.ns I.ns)∈I.M ks1 ks2:=List.mem_append_right _ (.tail _ (List.mem_append_right _ (.tail _ (List.mem_append_right _ (.tail _ (.head _))))))
theorem Lc.s1 (h:i∈I.cats):(I.ad1 i,O.set (ks1 i))∈I.M ks1 ks2:=List.mem_append_right _ (.tail _ (mem_gs (List.mem_reverse.mpr h)))
theorem Lc.s2 (h:i∈I.cats):(I.ad2 i,O.set (ks2 i))∈I.M ks1 ks2:=mem_gs (List.mem_reverse.mpr h)
theorem Lc.u1 (hn:I.cats.Nodup)(h:i∈I.cats):UpdAt (I.ad1 i) (.set (ks1 i)) (.set new) (I.M ks1 ks2) (I.M (fun x=>if x=i then new else ks1 x) ks2) :=
 UpdAt.app (.there (UpdAt.gs ((List.reverse_perm _).nodup_iff.mpr hn) (List.mem_reverse.mpr h))) _
theorem Lc.u2 (hn:I.cats.Nodup)(h:i∈I.cats):UpdAt (I.ad2 i) (.set (ks2 i)) (.set new) (I.M ks1 ks2) (I.M ks1 (fun x=>if x=i then new else ks2 x)) :=
 UpdAt.gs ((List.reverse_perm _).nodup_iff.mpr hn) (List.mem_reverse.mpr h)
theorem all_l {ad:Str->Addr}{ks:Str->List Key}:(dom.map fun i=>(hK i,W.l (ad i)))=dom.map fun i=>(hK i,if i∈dom.reverse then W.l (ad i) else W.v (V.set (ks i))) :=
 List.map_congr_left fun i hi=>by rw [if_pos (List.mem_reverse.mpr hi)]
theorem Lc.fz:Fz C (fun w w'=>w=w') (I.M ks1 ks2) (I.EE ks1 ks2):=by
 unfold Lc.M Lc.EE;rw [all_l (ad:=I.ad2) (ks:=ks2),all_l (ad:=I.ad1) (ks:=ks1)];have f1:=fz_gs (C:=C) (K:=hK) (ad:=I.ad2) (ks:=ks2) (dom:=I.cats) (D:=I.D2) (r:=gsM I.ad1 ks1 I.cats.reverse++(I.D1,.dict (I.cats.map fun i=>(hK i,if i∈I.cats.reverse then W.l (I.ad1 i) else W.v (V.set (ks1 i)))))::(I.X++(I.a,.inst 334 I.dd)::(I.dd,.ns I.ns)::I.μ)) I.cats.reverse
 have f2:Fz C (FrzW I.D2 (gS I.cats ks2)) ((I.D2,.dict (gO I.cats ks2))::(gsM I.ad1 ks1 I.cats.reverse++(I.D1,.dict (I.cats.map fun i=>(hK i,if i∈I.cats.reverse then W.l (I.ad1 i) else W.v (V.set (ks1 i)))))::(I.X++(I.a,.inst 334 I.dd)::(I.dd,.ns I.ns)::I.μ)))
   (gsM I.ad1 ks1 I.cats.reverse++(I.D1,.dict (I.cats.map fun i=>(hK i,if i∈I.cats.reverse then W.l (I.ad1 i) else W.v (V.set (ks1 i)))))::(I.X++(I.a,.inst 334 I.dd)::(I.dd,.ns (("_immediate_leftcorner_words",.v (gS I.cats ks2))::("_immediate_leftcorner_categories",.l I.D1)::I.fs))::I.μ)) :=
  fz_obj (.head _) gO_done .here (FrzT.append (FrzT.refl _) (.cons (.same _) (FrzT.append (FrzT.refl _) (.cons (.same _) (.cons (.ns (.cons .put (.cons (.same _) (FrzN.refl _)))) (FrzT.refl _))))))
 have f3:=fz_gs (C:=C) (K:=hK) (ad:=I.ad1) (ks:=ks1) (dom:=I.cats) (D:=I.D1) (r:=I.X++(I.a,.inst 334 I.dd)::(I.dd,.ns (("_immediate_leftcorner_words",.v (gS I.cats ks2))::("_immediate_leftcorner_categories",.l I.D1)::I.fs))::I.μ) I.cats.reverse
 have f4:Fz C (FrzW I.D1 (gS I.cats ks1)) ((I.D1,.dict (gO I.cats ks1))::(I.X++(I.a,.inst 334 I.dd)::(I.dd,.ns (("_immediate_leftcorner_words",.v (gS I.cats ks2))::("_immediate_leftcorner_categories",.l I.D1)::I.fs))::I.μ))
   (I.X++(I.a,.inst 334 I.dd)::(I.dd,.ns (("_immediate_leftcorner_words",.v (gS I.cats ks2))::("_immediate_leftcorner_categories",.v (gS I.cats ks1))::I.fs))::I.μ) :=
  fz_obj (.head _) gO_done .here (FrzT.append (FrzT.refl _) (.cons (.same _) (.cons (.ns (.cons (.same _) (.cons .put (FrzN.refl _)))) (FrzT.refl _))))
 exact ((f1.trans f2).trans (f3.trans f4)).imp fun w w' q=>⟨w,⟨w,rfl,.same _⟩,w,rfl,q▸.same _⟩
end
noncomputable def OpenOk (U T:List Str)(p:Rw):Prop:=∀ i,p.2.head? = some i->match i with | .N B=>B∈U | .T t=>t∈T
section
variable (h:C.K=Mine.hk.heap_1 C.P)(hg:C.gen=false)
include h
theorem m_G {dd:Addr}{fs:List (Str×W)}{name:Str}{f:Addr}{kk:Value->List W->Mem->Prop}(h1:PySem.W.findIn (Mine.hk.heap_1 C.P) (.ref 334) name=some (some (.ref f)))(h2:PySem.W.typeIn (Mine.hk.heap_1 C.P) (.ref f)=some (.type "function"))(h3:PySem.W.keepIn (Mine.hk.heap_1 C.P) (.ref f)=true)(hn:name∉FN)(hm:(a,O.inst 334 dd)∈μ)(hm2:(dd,O.ns fs)∈μ)(hk:kk (.ref f) [.l a] μ):cMeth C d μ (.l a) name kk:=m_instM (cls_G h) (mt_f h h1 h2 h3) hn hm hm2 hk
theorem prods_spec {dd:Addr}{fs:List (Str×W)}{w:W}(hm:(a,O.inst 334 dd)∈μ)(hm2:(dd,O.ns fs)∈μ)(hp:fs.lookup ("_productions" : Str)=some w)(hk:k w μ):cCall C 2 μ (.ref 199) [.l a] [] k:=by
 apply cCall_enter [("self",.l a),("lhs",.v .none),("rhs",.v .none),("empty",.v (.bool false))];walk_at "enter"
 case hbind =>
  intro F s vs kvs X hv hkv;refine WsAt.i1 hv fun u h1=>?_;refine KwAt.i_nil hkv ?_;refine ⟨_,BindsTo.of_defaults rfl (X _ _ (by rw [h];exact rfl)) rfl rfl rfl,?_⟩;exact .cons h1 (.cons .none (.cons .none (.cons (.bool _) .nil)))
 walk_at "ss";refine cAll_andK ?_;refine cT_valK ?_ (by intros;rfl);walk_at "ss";refine t_none (both_f (both_f ?_));walk_at "ss";refine cAll_andK ?_;walk_at "ss";refine cT_valK ?_ (by intros;rfl);walk_at "ss";refine t_none (both_t ?_);refine cAll_andK ?_;walk_at "ss";refine cT_valK ?_ (by intros;rfl);walk_at "ss";refine t_none (both_t ?_);refine cAll_and_nil (both_t ?_);walk_at "ss";refine cT_valK ?_ (by intros;rfl);walk_at "ss";refine truthy_bool' (both_t ?_);walk_at "ss";refine a_instM (cls_G h) (fd_G h (by kernel_rfl)) hm hm2 hp ?_;walk_at "ss";exact hk
include hg
theorem lcalc_any {μ₀ X:Mem}{dd:Addr}{fs:List (Str×W)}{cats U T:List Str}(hf:fs.length≤30)(hp:fs.lookup ("_productions" : Str)=some (.v (.list (rs.map Rw.v))))(hc:fs.lookup ("_categories" : Str)=some (.v (.list (cats.map fun i=>(hK i).val))))(hU:U.length≤50)(hTl:T.length≤50)(hok:∀ p∈rs,Rw.ok p)(hop:∀ p∈rs,OpenOk U T p)(hnd:cats.Nodup)(hcl:cats.length≤10000)(hin:∀ p∈rs,p.1∈cats)(hk:∀ w1 w2 w3 w4,k (.v .none) (X++(a,.inst 334 dd)::(dd,.ns (("_leftcorner_words",w4)::("_leftcorners",w3)::("_immediate_leftcorner_words",w2)::("_immediate_leftcorner_categories",w1)::fs))::μ₀)) :
  cCall C 8 (X++(a,.inst 334 dd)::(dd,.ns fs)::μ₀) (.ref 186) [.l a] [] k:=by
 refine cCall.fzR ?_;apply cCall_enter [("self",.l a)];walk_at "enter"
 case hbind=>walk_at "bind1"
 walk_at "ss";refine cE_dictG (ι:=Str) rfl (by kernel_rfl) rfl (by intros;rfl) ?_;walk_at "ss";refine a_instM (cls_G h) (fd_G h (by kernel_rfl)) (List.mem_append_right _ (.head _)) (List.mem_append_right _ (.tail _ (.head _))) hc ?_;refine ⟨_,it_list,fun items e=>⟨cats,hK,fun i l=>l=[hK i],1,⟨by decide,fun _=>rfl,fun i _ j _ q=>hK_inj q⟩,e,hnd,hcl,fun i hi=>⟨_,tgt_name (by walk_at "kind"),fun m=>?_⟩,fun D1 ad1 ks1 hR1=>?_⟩⟩
 ·walk_at "ss";refine ⟨rfl,rfl,?_⟩;walk_at "ss";exact ⟨hK i,rfl,by show (1:Nat)≠2;decide,fun a=>⟨a,_,rfl,rfl,rfl⟩⟩
 walk_at "ss";refine sa_inst (cls_G h) (tk_f h (by kernel_rfl)) (by decide) (List.mem_append_right _ (.tail _ (List.mem_append_right _ (.head _)))) (UpdAt.app (.there (UpdAt.app (.there .here) X)) _) (by lia) ?_;walk_at "ss";refine cE_dictG (ι:=Str) rfl (by kernel_rfl) rfl (by intros;rfl) ?_;walk_at "ss";refine a_instM (cls_G h) (fd_G h (by kernel_rfl)) (List.mem_append_right _ (.tail _ (List.mem_append_right _ (.head _)))) (List.mem_append_right _ (.tail _ (List.mem_append_right _ (.tail _ (.head _))))) hc ?_;refine ⟨_,it_list,fun items e=>⟨cats,hK,fun i l=>l=[],1,⟨by decide,fun _=>rfl,fun i _ j _ q=>hK_inj q⟩,e,hnd,hcl,fun i hi=>⟨_,tgt_name (by walk_at "kind"),fun m=>?_⟩,fun D2 ad2 ks2 hR2=>?_⟩⟩
 ·walk_at "ss";refine ⟨rfl,rfl,?_⟩;walk_at "ss";exact c_set0 fun a=>⟨a,_,rfl,rfl,rfl⟩
 walk_at "ss";refine sa_inst (cls_G h) (tk_f h (by kernel_rfl)) (by decide) (List.mem_append_right _ (.tail _ (List.mem_append_right _ (.tail _ (List.mem_append_right _ (.head _)))))) (UpdAt.app (.there (UpdAt.app (.there (UpdAt.app (.there .here) X)) _)) _) (by simp;lia) ?_;refine gen (α:=Lc) (⟨a,dd,D1,D2,ad1,ad2,X,μ₀,fs,cats⟩) fun I hI=>?_
 have eM:(gsM ad2 ks2 cats.reverse++(D2,O.dict (cats.map fun i=>(hK i,W.l (ad2 i))))::(gsM ad1 ks1 cats.reverse++(D1,O.dict (cats.map fun i=>(hK i,W.l (ad1 i))))::(X++(a,O.inst 334 dd)::(dd,O.ns (("_immediate_leftcorner_words",W.l D2)::("_immediate_leftcorner_categories",W.l D1)::fs))::μ₀)))=I.M ks1 ks2:=by subst hI;rfl
 rw [eM]
 have ea:a=I.a:=by subst hI;rfl
 rw [ea]
 have ec:I.cats=cats:=by subst hI;rfl
 have p1:I.ns.lookup ("_productions" : Str)=some (.v (.list (rs.map Rw.v))):=by subst hI;exact hp
 have hS1:∀ i∈cats,SetU U i (ks1 i):=fun i hi=>by
  rw [hR1 i hi];exact ⟨List.pairwise_singleton _ _,fun x hx=>⟨i,.inl rfl,List.mem_singleton.mp hx⟩⟩
 have hS2:∀ i∈cats,SetT T (ks2 i):=fun i hi=>by
  rw [hR2 i hi];exact ⟨.nil,by simp⟩
 clear hR1 hR2 eM;walk_at "ss";refine m_G (f:=199) h (by kernel_rfl) (by kernel_rfl) (by kernel_rfl) (by decide) Lc.ma Lc.md ?_;walk_at "ss";refine (prods_spec h Lc.ma Lc.md p1 ?_).deep (by decide);refine for_is it_list ?_;refine fr202 at_map (fun t ε' μ'=>ε'=([("self",W.l I.a)]:List (Str×W))∧∃ ks1 ks2,μ'=I.M ks1 ks2∧(∀ i∈cats,SetU U i (ks1 i))∧(∀ i∈cats,SetT T (ks2 i))) (fun _ _ _=>rfl) (⟨rfl,ks1,ks2,rfl,hS1,hS2⟩) (fun J hJ t p ks1 ks2 hpt hS1 hS2=>?_) (fun ks1 ks2 hS1 hS2=>?_)
 ·have hpm:=List.mem_of_getElem? hpt;have hr10:=hok p hpm;have hpo:=hop p hpm;have hl:=hin p hpm;obtain ⟨l,r⟩:=p;unfold Rw.ok at hr10;simp only at hr10 hl;have hl':l∈I.cats:=ec▸hl
  have fin:∀ {ε:Env1}{kf:PostF}{ks1' ks2'},ε.lookup ("self" : Str)=some (W.l I.a)->(∀ i∈cats,SetU U i (ks1' i))->(∀ i∈cats,SetT T (ks2' i))->
    forK J t kf .next ε (I.M ks1' ks2'):=fun {ε kf ks1' ks2'} q1 q2 q3 =>
   forK_next hJ (ε':=[("self",W.l I.a)]) ⟨by rw [q1];rfl,trivial⟩ (List.Sublist.refl _) ⟨rfl,ks1',ks2',rfl,q2,q3⟩
  walk_at "ss";refine (len_any (p:=(l,r)) h (by show r.length≤1000;lia) ?_).deep (by decide);walk_at "ss";refine ⟨fun hb=>?_,fun hb=>?_⟩
  ·obtain ⟨i0,rr,hrr⟩:∃ i0 rr,r=i0::rr:=by
    cases r with
    | nil=>rw [unP_v] at hb;simp at hb
    | cons i0 rr=>exact ⟨i0,rr,rfl⟩
   have hpo1:=hpo i0 (by rw [hrr];rfl);walk_at "ss";refine cS1_swap ?_ (by intros;rfl) (by rintro ⟨⟩ rfl;rfl) (by walk_at "kind") (by walk_at "kind");refine cE_tuple ?_;walk_at "ss";refine m_P (f:=112) h (by kernel_rfl) (by kernel_rfl) (by kernel_rfl) (by decide) ?_;walk_at "ss";refine (lhs_spec h ?_).deep (by decide);walk_at "ss";refine (key_spec (i:=.N l) h ?_).deep (by decide);walk_at "ss";refine m_P (f:=119) h (by kernel_rfl) (by kernel_rfl) (by kernel_rfl) (by decide) ?_;walk_at "ss";refine (rhs_spec h ?_).deep (by decide);walk_at "ss";refine ⟨sub_tup,v_item_tup (x:=i0.v) (by decide) (by decide) (by rw [hrr];rfl) ?_⟩;walk_at "ss";refine ⟨_,rfl,by simp,_,_,rfl,?_⟩;walk_at "ss";refine cT_valK ?_ (by intros;rfl);walk_at "ss";refine (isnt_spec (i:=i0) h ?_).deep (by decide);have hn1:=(hS1 l hl).len;have hn2:=(hS2 l hl).len;refine truthy_bool' ⟨fun hb=>?_,fun hb=>?_⟩
   ·cases i0 with
    | T x=>cases hb
    | N B =>
     walk_at "ss";refine a_instM (cls_G h) (fd_G h (by kernel_rfl)) Lc.ma Lc.md rfl ?_;walk_at "ss";refine ⟨sub_dict Lc.m1,v_itemD (key:=hK l) (u:=.l (I.ad1 l)) Lc.m1 (fun p hp=>?_) (by show (1:Nat)≠2;decide) (List.mem_map_of_mem (f:=fun i=>(hK i,W.l (I.ad1 i))) hl') ?_⟩
     ·obtain ⟨x,_,rfl⟩:=List.mem_map.mp hp;rfl
     refine m_set (ks:=ks1 l) (Lc.s1 hl') PySem.F.slot_set_add rfl ?_;walk_at "ss";refine (key_spec (i:=.N B) h ?_).deep (by decide);walk_at "ss";refine c_setaddU (ks:=ks1 l) (key:=hK B) (Lc.s1 hl') (hS1 l hl).kind (by show (1:Nat)≠2;decide) (by lia) (fun q=>?_) fun q ks' hp'=>⟨_,Lc.u1 (ec▸hnd) hl',?_⟩
     ·walk_at "ss";exact fin rfl hS1 hS2
     ·walk_at "ss";refine fin rfl (fun i hi=>?_) hS2;show SetU U i (if i=l then ks' else ks1 i);by_cases e:i=l
      ·subst e;rw [if_pos rfl];exact (hS1 i hi).add hpo1 q hp'
      ·rw [if_neg e];exact hS1 i hi
   ·cases i0 with
    | N x=>cases hb
    | T x =>
     walk_at "ss";refine a_instM (cls_G h) (fd_G h (by kernel_rfl)) Lc.ma Lc.md rfl ?_;walk_at "ss";refine ⟨sub_dict Lc.m2,v_itemD (key:=hK l) (u:=.l (I.ad2 l)) Lc.m2 (fun p hp=>?_) (by show (1:Nat)≠2;decide) (List.mem_map_of_mem (f:=fun i=>(hK i,W.l (I.ad2 i))) hl') ?_⟩
     ·obtain ⟨x,_,rfl⟩:=List.mem_map.mp hp;rfl
     refine m_set (ks:=ks2 l) (Lc.s2 hl') PySem.F.slot_set_add rfl ?_;walk_at "ss";refine c_setaddU (ks:=ks2 l) (key:=.s x) (Lc.s2 hl') (hS2 l hl).kind (by show (0:Nat)≠2;decide) (by lia) (fun q=>?_) fun q ks' hp'=>⟨_,Lc.u2 (ec▸hnd) hl',?_⟩
     ·walk_at "ss";exact fin rfl hS1 hS2
     ·walk_at "ss";refine fin rfl hS1 fun i hi=>?_;show SetT T (if i=l then ks' else ks2 i);by_cases e:i=l
      ·subst e;rw [if_pos rfl];exact (hS2 i hi).add hpo1 q hp'
      ·rw [if_neg e];exact hS2 i hi
  ·walk_at "ss";exact fin rfl hS1 hS2
 ·refine seqK_next (cS.fz Lc.fz (.cons rfl .nil) ?_);have ea':(I.a,O.inst 334 I.dd)∈I.EE ks1 ks2:=List.mem_append_right _ (.head _);have ed':(I.dd,O.ns (("_immediate_leftcorner_words",.v (gS I.cats ks2))::("_immediate_leftcorner_categories",.v (gS I.cats ks1))::I.fs))∈I.EE ks1 ks2:=List.mem_append_right _ (.tail _ (.head _));walk_at "ss";refine a_instM (cls_G h) (fd_G h (by kernel_rfl)) ea' ed' rfl ?_;rw [ec];walk_at "ss";refine (closure_any h hg hU hnd hcl hS1 fun lc hlc=>?_).deep (by decide);walk_at "ss";refine sa_inst (cls_G h) (tk_f h (by kernel_rfl)) (by decide) ea' (UpdAt.app (.there .here) I.X) (by subst hI;simp;lia) ?_;walk_at "ss";refine cE_dict0 fun D3=>?_;walk_at "ss";refine sa_inst (cls_G h) (tk_f h (by kernel_rfl)) (by decide) (.tail _ (List.mem_append_right _ (.head _))) (.there (UpdAt.app (.there .here) I.X)) (by subst hI;simp;lia) ?_;refine gen (α:=List (Str×W)) ((("_leftcorner_words",W.l D3)::("_leftcorners",W.v (gS cats lc))::("_immediate_leftcorner_words",W.v (gS I.cats ks2))::("_immediate_leftcorner_categories",W.v (gS I.cats ks1))::I.fs:List (Str×W))) fun ns2 hns2=>?_;refine gen (α:=Mem) (I.X++(I.a,O.inst 334 I.dd)::(I.dd,O.ns ns2)::I.μ) fun R hR=>?_
  have hM:((D3,O.dict [])::(I.X++(I.a,O.inst 334 I.dd)::(I.dd,O.ns (("_leftcorner_words",W.l D3)::("_leftcorners",.v (gS cats lc))::("_immediate_leftcorner_words",.v (gS I.cats ks2))::("_immediate_leftcorner_categories",.v (gS I.cats ks1))::I.fs))::I.μ))=(D3,O.dict [])::R:=by rw [hR,hns2]
  rw [hM]
  have ra:(I.a,O.inst 334 I.dd)∈R:=by rw [hR];exact List.mem_append_right _ (.head _)
  have rd:(I.dd,O.ns ns2)∈R:=by rw [hR];exact List.mem_append_right _ (.tail _ (.head _))
  have l1:ns2.lookup ("_leftcorners" : Str)=some (.v (gS cats lc)):=by rw [hns2];rfl
  have l2:ns2.lookup ("_leftcorner_words" : Str)=some (.l D3):=by rw [hns2];rfl
  have l3:ns2.lookup ("_immediate_leftcorner_words" : Str)=some (.v (gS cats ks2)):=by rw [hns2,ec];rfl
  clear hM ea' ed';refine seqK_next (cS.weak (ε':=[("self",W.l I.a)]) (look_sub ⟨rfl,trivial⟩) (List.Sublist.refl _) ?_);walk_at "ss";refine a_instM (cls_G h) (fd_G h (by kernel_rfl)) (.tail _ ra) (.tail _ rd) l1 ?_;refine ⟨_,it_dict,fun items e=>?_⟩
  have e':items=cats.map fun i=>(hK i).val:=by rw [e,List.map_map];rfl
  clear e;subst e';refine fr101 at_map (fun t ε' μ'=>ε'=([("self",W.l I.a)]:List (Str×W))∧∃ lw,μ'=(D3,O.dict (gO (cats.take t) lw))::R∧True) (fun _ _ _=>rfl) (⟨rfl,fun _=>[],rfl,trivial⟩) (fun J hJ t i lw hit _=>?_) (fun lw _=>?_)
  ·have hi:i∈cats:=List.mem_of_getElem? hit;have hlt:t<cats.length:=(List.getElem?_eq_some_iff.mp hit).1
   have htk:cats.take (t+1)=cats.take t++[i]:=by rw [List.take_add_one,hit];rfl
   have hout:=nodup_out hnd hit;have hkey:hK i∉(gO (cats.take t) lw).map (·.1):=fun q=>hout (gO_keys.mp q);walk_at "ss";refine a_instM (cls_G h) (fd_G h (by kernel_rfl)) (.tail _ ra) (.tail _ rd) l1 ?_;walk_at "ss";refine ⟨sub_dict gS_has,v_itemD (key:=hK i) (u:=.v (.set (lc i))) gS_has gO_kind (by show (1:Nat)≠2;decide) (List.mem_map_of_mem (f:=fun A=>(hK A,W.v (V.set (lc A)))) hi) ?_⟩;walk_at "ss";refine cS1_asg2 ?_ (by intros;rfl) (by intros;rfl);walk_at "ss";refine c_set0 fun s=>?_;walk_at "ss";refine a_instM (cls_G h) (fd_G h (by kernel_rfl)) (.tail _ (.tail _ ra)) (.tail _ (.tail _ rd)) l2 ?_;walk_at "ss";refine si_dict (key:=hK i) (.there .here) gO_kind (by show (1:Nat)≠2;decide) ?_ ?_
   ·unfold gO;rw [List.length_map,List.length_take];exact min_ok hcl
   rw [kput_new hkey];walk_at "ss";refine ⟨_,it_set,fun items hL=>?_⟩
   (refine el12 hL fun L qq1 hLp=>?_;try clear hL;subst qq1)
   have hLm:∀ x∈L,∃ B,x=hK B:=fun x hx=>by obtain ⟨B,_,e⟩:=(hlc i hi).2 x (hLp.subset hx);exact ⟨B,e⟩
   refine fr101 at_map (fun u ε' μ'=>ε'=([("lc",W.l s),("lefts",W.v (V.set (lc i))),("cat",W.v (hK i).val),("self",W.l I.a)]:List (Str×W))∧∃ ks,μ'=(s,O.set ks)::(D3,O.dict (gO (cats.take t) lw++[(hK i,W.l s)]))::R∧SetT T ks) (fun _ _ _=>rfl) (⟨rfl,[],rfl,.nil,by simp⟩) (fun J hJ u key ks hku hks=>?_) (fun ks hks=>?_)
   ·obtain ⟨B,rfl⟩:=hLm key (List.mem_of_getElem? hku);walk_at "ss";refine m_set (ks:=ks) (.head _) PySem.F.slot_set_update rfl ?_;walk_at "ss";refine a_instM (cls_G h) (fd_G h (by kernel_rfl)) (.tail _ (.tail _ ra)) (.tail _ (.tail _ rd)) l3 ?_;refine m_dict gS_has PySem.F.slot_dict_get rfl ?_;walk_at "ss";refine c_set0 fun e=>?_;walk_at "ss";refine g_getT (T:=T) hS2 fun S hS=>?_;walk_at "ss";refine c_updateU (ks:=ks) (lo:=S) (.head _) hks.kind hS.kind (by have:=hks.len;have:=hS.len;lia) fun ks' hm' hn'=>⟨_,.here,?_⟩;walk_at "ss";refine forK_next hJ (ε':=[("lc",W.l s),("lefts",W.v (V.set (lc i))),("cat",W.v (hK i).val),("self",W.l I.a)]) ⟨rfl,rfl,rfl,rfl,trivial⟩ (List.Sublist.refl _) ⟨rfl,ks',rfl,hn',fun x hx=>?_⟩
    rcases (hm' x).mp hx with q | q
    ·exact hks.2 x q
    ·exact hS.2 x q
   ·refine seqK_next (cS.fz (fz_obj (o:=.set ks) (a:=s) (d:=.set ks) (.head _) .set .here (.cons (.dict (FrzN.snoc _)) (FrzT.refl _))) (.cons .put (.cons (.same _) (.cons (.same _) (.cons (.same _) .nil)))) ?_);rw [gO_snoc hout];walk_at "ss";exact forK_next hJ (ε':=[("self",W.l I.a)]) ⟨rfl,trivial⟩ (List.Sublist.refl _) ⟨rfl,_,by rw [htk],trivial⟩
  ·rw [List.length_map,List.take_length] at *;walk_at "ss";refine ⟨_,_,X++(a,O.inst 334 dd)::(dd,O.ns (("_leftcorner_words",.v (gS cats lw))::("_leftcorners",.v (gS cats lc))::("_immediate_leftcorner_words",.v (gS cats ks2))::("_immediate_leftcorner_categories",.v (gS cats ks1))::fs))::μ₀,fz_obj (a:=D3) (d:=gS cats lw) (.head _) gO_done .here ?_,.same _,hk _ _ _ _⟩;rw [hR,hns2,hI];exact FrzT.append (FrzT.refl _) (.cons (.same _) (.cons (.ns (.cons .put (FrzN.refl _))) (FrzT.refl _)))
end
section
theorem t_inst {fs:List (Str×V)}(hb:PySem.W.findIn C.K (.ref c) "__bool__" = some none)(hl:PySem.W.findIn C.K (.ref c) "__len__" = some none)(h:kb true μ):cB1 C d μ (.v (.inst c fs)) truthy kb:=fun A F Z s v hA S hv=>by
 refine Val.i_inst hv fun _ _ _ _ _ h1 h2 h3 h4 h5=>?_;have I:=S.inst h1 h2;unfold truthy;refine wpAny_bind (m:=callSpecial? (.ref _) (Str.ofString "__bool__")) (wpAny_bind (wpAny_bind (I.type.here ((PySem.W.looks_findIn S.kin hb).here (wpAny_pure ?_)))));refine wpAny_bind (wpAny_bind (I.type.here ((PySem.W.looks_findIn S.kin hl).here ?_)));exact wpAny_pure ⟨F,μ,h,.refl _,S⟩
end
structure RsOk (U T:List Str)(rs:List Rw):Prop where
 len:∀ p∈rs,Rw.ok p
 opn:∀ p∈rs,OpenOk U T p
 txt:∀ p∈rs,sOk p.1=true
 sz:rs.length≤2000
 ne:rs≠[]
noncomputable def lhsI (rs:List Rw)(dom:List Str):V:=.dict (dom.map fun A=>(hK A,.list (lhsOf rs A)))
noncomputable def gramV (st:Str)(rs:List Rw)(dom:List Str)(m1 m2:Int):V :=
 .inst 334 [("_start",nonT st),("_productions",.list (rs.map Rw.v)),("_lhs_index",lhsI rs dom),("_is_nonlexical",.bool (nonLex rs)),("_min_len",.int m1),("_max_len",.int m2),("_all_unary_are_lexical",.bool (unaryLex rs))]
structure GOk (rs:List Rw)(dom:List Str)(m1 m2:Int):Prop where
 dm:DomOk rs dom
 mn:Utmost (· ≥ ·) (lensOf rs) m1
 mx:Utmost (·≤·) (lensOf rs) m2
noncomputable def catV (A:Str):V:=(hK A).val
theorem eqv_cat {A B:Str}:PyData.eqv (toD (catV A)) (toD (catV B))=decide (A=B):=by
 refine (eqv_stup [tN,A] [tN,B]).trans ?_
 by_cases e:A=B<;>simp [e]
theorem sh_cat {A:Str}(h:sOk A=true):SeqAt.shaped (toD (catV A))=true:=sh_stup (x:=[tN,A]) fun y hy=>by
 rcases List.mem_cons.mp hy with rfl | hy
 ·exact sOk_N
 ·cases List.mem_singleton.mp hy;exact h
theorem any_cat {cats:List Str}{A:Str}:((cats.map catV).any fun y=>PyData.eqv (toD y) (toD (catV A)))=decide (A∈cats):=by
 rw [List.any_map,show ((fun y=>PyData.eqv (toD y) (toD (catV A)))∘catV)=fun i=>decide (i=A) from funext fun i=>eqv_cat,Bool.eq_iff_iff,List.any_eq_true,decide_eq_true_iff];exact ⟨fun ⟨x,hx,e⟩=>(of_decide_eq_true e)▸hx,fun q=>⟨A,q,by simp⟩⟩
theorem cats_done {cats:List Str}:Done (.list (cats.map fun i=>W.v (catV i))) (.list (cats.map catV)):=by
 refine .list ?_;have:=frozen_map (cats.map catV);rw [List.map_map] at this;exact this
section
variable (h:C.K=Mine.hk.heap_1 C.P)(hg:C.gen=false)
include h hg
theorem init_G {dd:Addr}{st:Str}{U T:List Str}(hT:∀ P∈C.tabs,(P,O.tab)∈μ)(hU:U.length≤50)(hTl:T.length≤50)(ok:RsOk U T rs) :
  cCode C 14 ((a,.inst 334 dd)::(dd,.ns [])::μ) (.ref 174) [.l a,.v (nonT st),.v (.list (rs.map Rw.v))] [] fun w μ'=>w=.v .none∧∃ dom m1 m2 fs,GOk rs dom m1 m2 ∧
   (∀ p∈[(("_start" : Str),nonT st),("_productions",.list (rs.map Rw.v)),("_lhs_index",lhsI rs dom),("_is_nonlexical",.bool (nonLex rs)),("_min_len",.int m1),("_max_len",.int m2),("_all_unary_are_lexical",.bool (unaryLex rs))],(fs:List (Str×W)).lookup p.1=some (.v p.2)) ∧
   μ'=(a,.inst 334 dd)::(dd,.ns fs)::μ:=by
 apply cCode_enter [("self",.l a),("start",.v (nonT st)),("productions",.v (.list (rs.map Rw.v))),("calculate_leftcorners",.v (.bool true))];walk_at "enter"
 case hbind =>
  intro F s vs kvs X hv hkv;refine WsAt.i3 hv fun u v w h1 h2 h3=>?_;refine KwAt.i_nil hkv ?_;refine ⟨_,BindsTo.of_defaults rfl (X _ _ (by rw [h];exact rfl)) rfl rfl rfl,?_⟩;exact .cons h1 (.cons h2 (.cons h3 (.cons (.bool _) .nil)))
 walk_at "ss";refine cT_valK ?_ (by intros;rfl);walk_at "ss";refine (isnt_spec (i:=.N st) h ?_).deep (by decide);refine truthy_bool' (both_f ?_);walk_at "ss";refine sa_inst (cls_G h) (tk_f h (by kernel_rfl)) (by decide) (.head _) (.there .here) (by simp) ?_;walk_at "ss";refine sa_inst (cls_G h) (tk_f h (by kernel_rfl)) (by decide) (.head _) (.there .here) (by simp) ?_;walk_at "ss";refine cE_listM ?_;walk_at "ss";refine ⟨by simp,fun c=>?_⟩;walk_at "ss";refine sa_inst (cls_G h) (tk_f h (by kernel_rfl)) (by decide) (.tail _ (.head _)) (.there (.there .here)) (by simp) ?_;walk_at "ss";refine for_is it_list ?_;refine fr102 at_map (fun t ε' μ'=>ε'=([("self",.l a),("start",.v (nonT st)),("productions",.v (.list (rs.map Rw.v))),("calculate_leftcorners",.v (.bool true))]:List (Str×W))∧∃ cats:List Str,μ'=(c,O.list (cats.map fun i=>W.v (catV i)))::(a,.inst 334 dd)::(dd,.ns [("_categories",.l c),("_productions",.v (.list (rs.map Rw.v))),("_start",.v (nonT st))])::μ∧cats.Nodup∧(∀ i,i∈cats↔∃ p∈rs.take t,p.1=i)) (fun _ _ _=>rfl) (⟨rfl,[],rfl,.nil,by simp⟩) (fun J hJ t p cats hpt hnd hm=>?_) (fun cats hnd hm=>?_)
 ·have htk:rs.take (t+1)=rs.take t++[p]:=by rw [List.take_add_one,hpt];rfl
  have hpm:=List.mem_of_getElem? hpt;have hsz:=ok.sz;have hsl:=ok.txt p hpm
  have hcs:∀ i∈cats,sOk i=true:=fun i hi=>by
   obtain ⟨q,hq,rfl⟩:=(hm i).mp hi;exact ok.txt q (List.mem_of_mem_take hq)
  have hcl:cats.length≤2000:=by
   have:=List.Nodup.length_le_of_subset hnd (l₂:=rs.map (·.1)) fun A hA=>by obtain ⟨q,hq,e⟩:=(hm A).mp hA;exact e▸List.mem_map_of_mem (List.mem_of_mem_take hq)
   rw [List.length_map] at this;lia
  obtain ⟨l,r⟩:=p;walk_at "ss";refine m_P (f:=112) h (by kernel_rfl) (by kernel_rfl) (by kernel_rfl) (by decide) ?_;walk_at "ss";refine (lhs_spec h ?_).deep (by decide);walk_at "ss";refine (key_spec (i:=.N l) h ?_).deep (by decide);walk_at "ss";refine a_instM (cls_G h) (fd_G h (by kernel_rfl)) (.tail _ (.head _)) (.tail _ (.tail _ (.head _))) rfl ?_;refine v_notInL (x:=.l c) (vs:=cats.map catV) (a:=catV l) (by rw [List.map_map];exact .head _) (cl_toDs fun i hi=>sh_cat (hcs i hi)) (sh_cat hsl) ?_;rw [any_cat];walk_at "ss";refine ⟨fun hb=>?_,fun hb=>?_⟩
  ·have hno:l∉cats:=by simpa using hb
   walk_at "ss";refine a_instM (cls_G h) (fd_G h (by kernel_rfl)) (.tail _ (.head _)) (.tail _ (.tail _ (.head _))) rfl ?_;refine m_list (.head _) PySem.F.slot_list_append rfl ?_;walk_at "ss";refine m_P (f:=112) h (by kernel_rfl) (by kernel_rfl) (by kernel_rfl) (by decide) ?_;walk_at "ss";refine (lhs_spec h ?_).deep (by decide);walk_at "ss";refine (key_spec (i:=.N l) h ?_).deep (by decide);walk_at "ss";refine v_append .here (by rw [List.length_map];lia) ?_;walk_at "ss";refine forK_next hJ (ε':=[("self",.l a),("start",.v (nonT st)),("productions",.v (.list (rs.map Rw.v))),("calculate_leftcorners",.v (.bool true))]) ⟨rfl,rfl,rfl,rfl,trivial⟩ (List.Sublist.refl _) ⟨rfl,cats++[l],by rw [List.map_append];rfl,?_,fun i=>?_⟩
   ·exact List.nodup_append.mpr ⟨hnd,List.pairwise_singleton _ _,fun x hx y hy e=>hno (by rw [List.mem_singleton.mp hy] at e;exact e▸hx)⟩
   ·rw [htk,List.mem_append,List.mem_singleton,hm i];constructor
    ·rintro (⟨q,hq,e⟩ | rfl)
     ·exact ⟨q,List.mem_append_left _ hq,e⟩
     ·exact ⟨(i,r),by simp,rfl⟩
    ·rintro ⟨q,hq,e⟩
     rcases List.mem_append.mp hq with w | w
     ·exact .inl ⟨q,w,e⟩
     ·rw [List.mem_singleton.mp w] at e;exact .inr e.symm
  ·have hin:l∈cats:=by simpa using hb
   walk_at "ss";refine forK_next hJ (ε':=[("self",.l a),("start",.v (nonT st)),("productions",.v (.list (rs.map Rw.v))),("calculate_leftcorners",.v (.bool true))]) ⟨rfl,rfl,rfl,rfl,trivial⟩ (List.Sublist.refl _) ⟨rfl,cats,rfl,hnd,fun i=>?_⟩;rw [htk,hm i];constructor
   ·rintro ⟨q,hq,e⟩;exact ⟨q,List.mem_append_left _ hq,e⟩
   ·rintro ⟨q,hq,e⟩
    rcases List.mem_append.mp hq with w | w
    ·exact ⟨q,w,e⟩
    ·rw [List.mem_singleton.mp w] at e;exact (hm i).mp (e▸hin)
 ·rw [List.length_map,List.take_length] at hm;have hsz:=ok.sz
  have hcl:cats.length≤10000:=by
   have:=List.Nodup.length_le_of_subset hnd (l₂:=rs.map (·.1)) fun A hA=>by obtain ⟨q,hq,e⟩:=(hm A).mp hA;exact e▸List.mem_map_of_mem hq
   rw [List.length_map] at this;lia
  refine seqK_next (cS.fz (fz_obj (a:=c) (d:=.list (cats.map catV)) (.head _) cats_done .here (.cons (.same _) (.cons (.ns (.cons .put (FrzN.refl _))) (FrzT.refl _)))) (.cons (.same _) (.cons (.same _) (.cons (.same _) (.cons (.same _) .nil)))) ?_);walk_at "ss";refine m_G (f:=181) h (by kernel_rfl) (by kernel_rfl) (by kernel_rfl) (by decide) (.head _) (.tail _ (.head _)) ?_;walk_at "ss";refine (indexes_spec (X:=[]) h (by simp) rfl ok.len ok.sz fun w2 w3 w4 dom hdom=>?_).deep (by decide);walk_at "ss";refine m_G (f:=227) h (by kernel_rfl) (by kernel_rfl) (by kernel_rfl) (by decide) (.head _) (.tail _ (.head _)) ?_;walk_at "ss";refine (forms_spec (X:=[]) h hg (by simp) rfl ok.len ok.ne hT fun w5 m1 m2 hm1 hm2=>?_).deep (by decide);walk_at "ss";refine cT_valK ?_ (by intros;rfl);walk_at "ss";refine truthy_bool' (both_t ?_);walk_at "ss";refine m_G (f:=186) h (by kernel_rfl) (by kernel_rfl) (by kernel_rfl) (by decide) (.head _) (.tail _ (.head _)) ?_;walk_at "ss";refine (lcalc_any (X:=[]) (cats:=cats) (U:=U) (T:=T) h hg (by simp) rfl rfl hU hTl ok.len ok.opn hnd hcl (fun p hp=>(hm p.1).mpr ⟨p,hp,rfl⟩) fun w6 w7 w8 w9=>?_).deep (by decide);walk_at "ss";refine ⟨rfl,dom,m1,m2,_,⟨hdom,hm1,hm2⟩,fun p hp=>?_,rfl⟩;simp only [List.mem_cons,List.not_mem_nil,or_false] at hp
  rcases hp with rfl | rfl | rfl | rfl | rfl | rfl | rfl<;>rfl
theorem mk_G {st:Str}{U T:List Str}(hT:∀ P∈C.tabs,(P,O.tab)∈μ)(hU:U.length≤50)(hTl:T.length≤50)(ok:RsOk U T rs)(hk:∀ dom m1 m2,GOk rs dom m1 m2->k (.v (gramV st rs dom m1 m2)) μ) :
  cCall C 15 μ (.ref 334) [.v (nonT st),.v (.list (rs.map Rw.v))] [] k:=by
 refine cCall.fzR (c_make (d:=14) (cls_G h) (fd_G h (by kernel_rfl)) (ty_f h (by kernel_rfl)) fun a dd=>cCode.mono (init_G h hg hT hU hTl ok) fun w m hh=>?_);obtain ⟨hw,dom,m1,m2,fs,hG,hfs,hm⟩:=hh;subst hm;exact ⟨hw,_,.v (gramV st rs dom m1 m2),μ,fz_inst (.head _) (.tail _ (.head _)) hfs (.there .here) .here (FrzT.refl _),.put,hk dom m1 m2 hG⟩
end
section
theorem wpAny_And3 {M:Model}{x y z:Expr}{Q:Value->Shared->Prop}(h:wpAny M A (eval x env) (fun v s₁=>wpAny M A (truthy v) (fun t s₂=>if t then wpAny M A (eval (.BoolOp .And [y,z] pos) env) Q E s₂ else Q v s₂) E s₁) E s) :
  wpAny M A (eval (.BoolOp .And [x,y,z] pos) env) Q E s:=by
 show wpAny M A (do
  let v ← eval x env
  standAt pos
  let t ← holding [v] (truthy v)
  match BoolOp.And,t with
  | .And,false | .Or,true=>pure v
  | _,_=>boolOp pos .And [eval y env,eval z env]) Q E s
 refine wpAny_bind (wpAny_mono h (fun v s₁ h₁=>wpAny_bind (wpAny_standAt (wpAny_bind (wpAny_holding (wpAny_mono h₁ (fun t s₂ h₂=>?_) fun _ _ x=>x))))) fun _ _ x=>x)
 cases t with
 | false=>exact wpAny_pure h₂
 | true=>exact h₂
theorem cE_and3 {x y z:Expr}(h:cE C d sc ε μ x (kTst fun b μ₁=>(b=true->cE C d sc ε μ₁ (.BoolOp .And [y,z] pos) k)∧(b=false->k (.v (.bool false)) μ₁))) :
  cE C d sc ε μ (.BoolOp .And [x,y,z] pos) k:=fun A env F Z s hA hs R S =>
 wpAny_And3 (wpBot (h A env F Z s hA hs R S) fun v s₁ ⟨w,F₁,μ₁,⟨b,hz,h1,h2⟩,le₁,S₁,hv⟩=>by
  subst hz;refine Val.i_bool hv ?_;refine wpAny_truthy_bool ?_
  cases b with
  | true=>exact wpBot (h1 rfl A env F₁ Z s₁ hA hs (R.mono le₁) S₁) fun _ _ p=>p.trans le₁
  | false=>exact ⟨_,F₁,μ₁,h2 rfl,le₁,S₁,.bool _⟩)
theorem tup_tup {vs:List V}(h:k (.v (.tup vs)) μ):cCall C d μ (.type "tuple") [.v (.tup vs)] [] k:=fun A F Z s us kvs hA S hv hkv=>by
 refine KwAt.i_nil hkv ?_;refine WsAt.i1 hv fun u hu=>?_;refine Val.i_tup hu fun a ws n h1 h2=>?_;exact call_tuple_same ⟨_,S.fz _ _ h1,rfl,_,rfl⟩ ⟨_,F,μ,h,.refl _,S,.tup h1 h2⟩
end
section
variable (h:C.K=Mine.hk.heap_1 C.P)
include h
theorem init_Pt {dd:Addr}{l:W}{r:List V}:cCode C 4 ((a,.inst 155 dd)::(dd,.ns [])::μ) (.ref 105) [.l a,l,.v (.tup r)] [] fun w μ'=>w=.v .none∧μ'=(a,.inst 155 dd)::(dd,.ns [("_rhs",.v (.tup r)),("_lhs",l)])::μ:=by
 apply cCode_enter [("self",.l a),("lhs",l),("rhs",.v (.tup r))];walk_at "enter"
 case hbind =>
  intro F s vs kvs X hv hkv;refine WsAt.i3 hv fun u v w h1 h2 h3=>?_;refine KwAt.i_nil hkv ?_;refine ⟨_,BindsTo.of_eq rfl,?_⟩;exact .cons h1 (.cons h2 (.cons h3 .nil))
 walk_at "ss";refine cT_valK ?_ (by intros;rfl);walk_at "ss";refine isi_tupstr ?_;refine truthy_bool' (both_f ?_);walk_at "ss";refine sa_inst (cls_P h) (tk_f h (by kernel_rfl)) (by decide) (.head _) (.there .here) (by simp) ?_;walk_at "ss";refine tup_tup ?_;walk_at "ss";refine sa_inst (cls_P h) (tk_f h (by kernel_rfl)) (by decide) (.head _) (.there .here) (by simp) ?_;walk_at "ss";exact ⟨rfl,rfl⟩
theorem mk_Pt {l:Str}{r:List It}(hk:k (.v (prodV l r)) μ):cCall C 5 μ (.ref 155) [.v (nonT l),.v (.tup (r.map It.v))] [] k:=by
 refine cCall.fzR (c_make (d:=4) (cls_P h) (fd_P h (by kernel_rfl)) (ty_f h (by kernel_rfl)) fun a dd=>cCode.mono (init_Pt h) fun w m hh=>?_);obtain ⟨hw,hm⟩:=hh;subst hm;refine ⟨hw,_,.v (prodV l r),μ,fz_inst (.head _) (.tail _ (.head _)) (gs:=[("_lhs",nonT l),("_rhs",.tup (r.map It.v))]) (fun p hp=>?_) (.there .here) .here (FrzT.refl _),.put,hk⟩
 rcases List.mem_cons.mp hp with rfl | hp
 ·rfl
 ·cases List.mem_singleton.mp hp
  rfl
theorem init_Pk {dd:Addr}{l:W}{r:List V}(hz:r.length≤1000):cCode C 4 ((a,.inst 155 dd)::(dd,.ns [])::μ) (.ref 105) [.l a,l] [("rhs",.v (.list r))] fun w μ'=>w=.v .none∧μ'=(a,.inst 155 dd)::(dd,.ns [("_rhs",.v (.tup r)),("_lhs",l)])::μ:=by
 apply cCode_enter [("self",.l a),("lhs",l),("rhs",.v (.list r))];walk_at "enter"
 case hbind =>
  intro F s vs kvs X hv hkv;refine WsAt.i2 hv fun u v h1 h2=>?_
  cases hkv with
  | cons h3 hn =>
   cases hn
   refine ⟨_,BindsTo.of_eq rfl,?_⟩;exact .cons h1 (.cons h2 (.cons h3 .nil))
 walk_at "ss";refine cT_valK ?_ (by intros;rfl);walk_at "ss";refine isi_liststr ?_;refine truthy_bool' (both_f ?_);walk_at "ss";refine sa_inst (cls_P h) (tk_f h (by kernel_rfl)) (by decide) (.head _) (.there .here) (by simp) ?_;walk_at "ss";refine tup_list (by lia) ?_;walk_at "ss";refine sa_inst (cls_P h) (tk_f h (by kernel_rfl)) (by decide) (.head _) (.there .here) (by simp) ?_;walk_at "ss";exact ⟨rfl,rfl⟩
theorem mk_Pk {l:Str}{r:List It}(hz:r.length≤1000)(hk:k (.v (prodV l r)) μ):cCall C 5 μ (.ref 155) [.v (nonT l)] [("rhs",.v (.list (r.map It.v)))] k:=by
 refine cCall.fzR (c_make (d:=4) (cls_P h) (fd_P h (by kernel_rfl)) (ty_f h (by kernel_rfl)) fun a dd=>cCode.mono (init_Pk h (by simpa using hz)) fun w m hh=>?_);obtain ⟨hw,hm⟩:=hh;subst hm;refine ⟨hw,_,.v (prodV l r),μ,fz_inst (.head _) (.tail _ (.head _)) (gs:=[("_lhs",nonT l),("_rhs",.tup (r.map It.v))]) (fun p hp=>?_) (.there .here) .here (FrzT.refl _),.put,hk⟩
 rcases List.mem_cons.mp hp with rfl | hp
 ·rfl
 ·cases List.mem_singleton.mp hp
  rfl
section
variable {st:Str}{m1 m2:Int}
theorem m_Gv {name:Str}{f:Addr}{kk:Value->List W->Mem->Prop}(h1:PySem.W.findIn (Mine.hk.heap_1 C.P) (.ref 334) name=some (some (.ref f)))(h2:PySem.W.typeIn (Mine.hk.heap_1 C.P) (.ref f)=some (.type "function"))(h3:PySem.W.keepIn (Mine.hk.heap_1 C.P) (.ref f)=true)(hn:name∉FN)(hk:kk (.ref f) [.v (gramV st rs dom m1 m2)] μ):cMeth C d μ (.v (gramV st rs dom m1 m2)) name kk:=m_inst (cls_G h) (mt_f h h1 h2 h3) hn hk
theorem start_spec (hk:k (.v (nonT st)) μ):cCall C 2 μ (.ref 193) [.v (gramV st rs dom m1 m2)] [] k:=by
 apply cCall_enter [("self",.v (gramV st rs dom m1 m2))];walk_at "enter"
 case hbind=>walk_at "bind1"
 walk_at "ss";refine a_inst (cls_G h) (fd_G h (by kernel_rfl)) rfl ?_;walk_at "ss";exact hk
theorem isnlG_spec (hk:k (.v (.bool (nonLex rs))) μ):cCall C 2 μ (.ref 241) [.v (gramV st rs dom m1 m2)] [] k:=by
 apply cCall_enter [("self",.v (gramV st rs dom m1 m2))];walk_at "enter"
 case hbind=>walk_at "bind1"
 walk_at "ss";refine a_inst (cls_G h) (fd_G h (by kernel_rfl)) rfl ?_;walk_at "ss";exact hk
theorem isneG_spec (hk:k (.v (.bool (decide (0<m1)))) μ):cCall C 2 μ (.ref 262) [.v (gramV st rs dom m1 m2)] [] k:=by
 apply cCall_enter [("self",.v (gramV st rs dom m1 m2))];walk_at "enter"
 case hbind=>walk_at "bind1"
 walk_at "ss";refine a_inst (cls_G h) (fd_G h (by kernel_rfl)) rfl ?_;walk_at "ss";exact hk
theorem isbiG_spec (hk:k (.v (.bool (decide (m2≤2)))) μ):cCall C 2 μ (.ref 269) [.v (gramV st rs dom m1 m2)] [] k:=by
 apply cCall_enter [("self",.v (gramV st rs dom m1 m2))];walk_at "enter"
 case hbind=>walk_at "bind1"
 walk_at "ss";refine a_inst (cls_G h) (fd_G h (by kernel_rfl)) rfl ?_;walk_at "ss";exact hk
theorem isflG_spec (hk:k (.v (.bool (decide (0<m1)&&(nonLex rs&&decide (m2≤2))))) μ):cCall C 4 μ (.ref 276) [.v (gramV st rs dom m1 m2)] [] k:=by
 apply cCall_enter [("self",.v (gramV st rs dom m1 m2))];walk_at "enter"
 case hbind=>walk_at "bind1"
 walk_at "ss";refine cE_and3 ?_;walk_at "ss";refine m_Gv (f:=262) h (by kernel_rfl) (by kernel_rfl) (by kernel_rfl) (by decide) ?_;walk_at "ss";refine (isneG_spec h ?_).deep (by decide);refine kTst_b ⟨fun e=>?_,fun e=>?_⟩
 ·walk_at "ss";refine m_Gv (f:=241) h (by kernel_rfl) (by kernel_rfl) (by kernel_rfl) (by decide) ?_;walk_at "ss";refine (isnlG_spec h ?_).deep (by decide);refine kTst_b ⟨fun e'=>?_,fun e'=>?_⟩
  ·walk_at "ss";refine m_Gv (f:=269) h (by kernel_rfl) (by kernel_rfl) (by kernel_rfl) (by decide) ?_;walk_at "ss";refine (isbiG_spec h ?_).deep (by decide);walk_at "ss";rw [e,e'] at hk;exact hk
  ·walk_at "ss";rw [e,e'] at hk;exact hk
 ·walk_at "ss";rw [e] at hk;exact hk
theorem ischG_spec (hk:k (.v (.bool ((decide (0<m1)&&(nonLex rs&&decide (m2≤2)))&&unaryLex rs))) μ):cCall C 6 μ (.ref 283) [.v (gramV st rs dom m1 m2)] [] k:=by
 apply cCall_enter [("self",.v (gramV st rs dom m1 m2))];walk_at "enter"
 case hbind=>walk_at "bind1"
 walk_at "ss";refine m_Gv (f:=276) h (by kernel_rfl) (by kernel_rfl) (by kernel_rfl) (by decide) ?_;walk_at "ss";refine (isflG_spec h ?_).deep (by decide);refine kTst_b ⟨fun e=>?_,fun e=>?_⟩
 ·walk_at "ss";refine a_inst (cls_G h) (fd_G h (by kernel_rfl)) rfl ?_;walk_at "ss";rw [e] at hk;exact hk
 ·walk_at "ss";rw [e] at hk;exact hk
theorem prodsV_spec (hk:k (.v (.list (rs.map Rw.v))) μ):cCall C 2 μ (.ref 199) [.v (gramV st rs dom m1 m2)] [] k:=by
 apply cCall_enter [("self",.v (gramV st rs dom m1 m2)),("lhs",.v .none),("rhs",.v .none),("empty",.v (.bool false))];walk_at "enter"
 case hbind =>
  intro F s vs kvs X hv hkv;refine WsAt.i1 hv fun u h1=>?_;refine KwAt.i_nil hkv ?_;refine ⟨_,BindsTo.of_defaults rfl (X _ _ (by rw [h];exact rfl)) rfl rfl rfl,?_⟩;exact .cons h1 (.cons .none (.cons .none (.cons (.bool _) .nil)))
 walk_at "ss";refine cAll_andK ?_;refine cT_valK ?_ (by intros;rfl);walk_at "ss";refine t_none (both_f (both_f ?_));walk_at "ss";refine cAll_andK ?_;walk_at "ss";refine cT_valK ?_ (by intros;rfl);walk_at "ss";refine t_none (both_t ?_);refine cAll_andK ?_;walk_at "ss";refine cT_valK ?_ (by intros;rfl);walk_at "ss";refine t_none (both_t ?_);refine cAll_and_nil (both_t ?_);walk_at "ss";refine cT_valK ?_ (by intros;rfl);walk_at "ss";refine truthy_bool' (both_t ?_);walk_at "ss";refine a_inst (cls_G h) (fd_G h (by kernel_rfl)) rfl ?_;walk_at "ss";exact hk
theorem lhsI_get {A:Str}(hd:DomOk rs dom)(hk:k (.v (.list (lhsOf rs A))) μ):cCall C d ((a,.list [])::μ) (.builtin "dict.get") [.v (lhsI rs dom),.v (hK A).val,.l a] [] k:=by
 have hH:Has ((a,O.list [])::μ) (.v (lhsI rs dom)) (.dict (dom.map fun A=>(hK A,W.v (.list (lhsOf rs A))))):=by
  show O.dict _=O.dict _;rw [List.map_map];rfl
 refine cCall.fzR (c_getD (key:=hK A) hH (fun p hp=>by obtain ⟨B,_,rfl⟩:=List.mem_map.mp hp;rfl) (by show (1:Nat)≠2;decide) (fun hn=>?_) fun u hu=>?_)
 ·have:lhsOf rs A=[]:=lhsOf_nil fun q=>hn (by rw [List.map_map];exact List.mem_map.mpr ⟨A,(hd.dm A).mpr q,rfl⟩);exact ⟨_,.v (.list []),μ,fz_obj (.head _) (.list rfl) .here (FrzT.refl _),.put,this▸hk⟩
 ·obtain ⟨B,hB,e⟩:=List.mem_map.mp hu;injection e with e1 e2;have:=hK_inj e1;subst this;subst e2;exact ⟨_,_,μ,Fz.weak (List.sublist_cons_self ..),rfl,hk⟩
theorem prodsL_spec {A:Str}(hd:DomOk rs dom)(hk:k (.v (.list (lhsOf rs A))) μ):cCall C 4 μ (.ref 199) [.v (gramV st rs dom m1 m2)] [("lhs",.v (nonT A))] k:=by
 apply cCall_enter [("self",.v (gramV st rs dom m1 m2)),("lhs",.v (nonT A)),("rhs",.v .none),("empty",.v (.bool false))];walk_at "enter"
 case hbind =>
  intro F s vs kvs X hv hkv;refine WsAt.i1 hv fun u h1=>?_
  cases hkv with
  | cons h2 hn =>
   cases hn
   refine ⟨_,BindsTo.of_defaults rfl (X _ _ (by rw [h];exact rfl)) rfl rfl rfl,?_⟩;exact .cons h1 (.cons h2 (.cons .none (.cons (.bool _) .nil)))
 walk_at "ss";refine cAll_andK ?_;refine cT_valK ?_ (by intros;rfl);walk_at "ss";refine t_none (both_f (both_f ?_));walk_at "ss";refine cAll_andK ?_;walk_at "ss";refine cT_valK ?_ (by intros;rfl);walk_at "ss";refine t_inst (fd_N h (by kernel_rfl)) (fd_N h (by kernel_rfl)) (both_f (both_f ?_));walk_at "ss";refine cAll_andK ?_;refine cT_valK ?_ (by intros;rfl);walk_at "ss";refine t_inst (fd_N h (by kernel_rfl)) (fd_N h (by kernel_rfl)) (both_t ?_);refine cAll_andK ?_;walk_at "ss";refine cT_valK ?_ (by intros;rfl);walk_at "ss";refine t_none (both_t ?_);refine cAll_and_nil (both_t ?_);walk_at "ss";refine cT_valK ?_ (by intros;rfl);walk_at "ss";refine truthy_bool' (both_t ?_);walk_at "ss";refine a_inst (cls_G h) (fd_G h (by kernel_rfl)) rfl ?_;refine m_dict (kvs:=dom.map fun A=>(hK A,W.v (.list (lhsOf rs A)))) (by show O.dict _=O.dict _;rw [List.map_map];rfl) PySem.F.slot_dict_get rfl ?_;walk_at "ss";refine (key_spec (i:=.N A) h ?_).deep (by decide);walk_at "ss";refine cE_listM ?_;walk_at "ss";refine ⟨by simp,fun a=>?_⟩;walk_at "ss";refine lhsI_get h hd ?_;walk_at "ss";exact hk
end
end
@[reducible] noncomputable def sS:Str := "S"
@[reducible] noncomputable def sA:Str := "A"
@[reducible] noncomputable def sB:Str := "B"
@[reducible] noncomputable def sx:Str := "x"
@[reducible] noncomputable def sy:Str := "y"
noncomputable def itR:It->V
 | .N x=>.tup [.bool true,.str x]
 | .T x=>.tup [.bool false,.str x]
noncomputable def rwV (p:Rw):V:=.tup [.str p.1,.list (p.2.map itR)]
noncomputable def itOk:It->Bool
 | .N x=>sOk x
 | .T x=>sOk x
noncomputable def rowOk (p:Rw):Prop:=sOk p.1=true∧∀ i∈p.2,itOk i=true
theorem eqv_itR (i j:It):PyData.eqv (toD (itR i)) (toD (itR j))=decide (i=j):=by
 cases i with
 | N x=>cases j with
  | N y =>
   show (PyData.eqv (.bool true) (.bool true)&&(PyData.eqv (.str x) (.str y)&&true))=_;have e:decide (It.N x=It.N y)=decide (x=y):=decide_eq_decide.mpr ⟨fun q=>by injection q,fun q=>by rw [q]⟩;rw [eqv_str,e];simp [PyData.eqv]
  | T y =>
   show (PyData.eqv (.bool true) (.bool false)&&(PyData.eqv (.str x) (.str y)&&true))=_;simp [PyData.eqv]
 | T x=>cases j with
  | N y =>
   show (PyData.eqv (.bool false) (.bool true)&&(PyData.eqv (.str x) (.str y)&&true))=_;simp [PyData.eqv]
  | T y =>
   show (PyData.eqv (.bool false) (.bool false)&&(PyData.eqv (.str x) (.str y)&&true))=_;have e:decide (It.T x=It.T y)=decide (x=y):=decide_eq_decide.mpr ⟨fun q=>by injection q,fun q=>by rw [q]⟩;rw [eqv_str,e];simp [PyData.eqv]
theorem eqv_body (b c:List It):PyData.eqv (toD (.list (b.map itR))) (toD (.list (c.map itR)))=decide (b=c):=by
 rw [toD_list,toD_list,List.map_map,List.map_map];simp only [PyData.eqv];exact eqvAll_map (f:=toD∘itR) (fun x y=>eqv_itR x y) b c
theorem eqv_row (p q:Rw):PyData.eqv (toD (rwV p)) (toD (rwV q))=decide (p=q):=by
 obtain ⟨a,b⟩:=p;obtain ⟨c,d⟩:=q;show (PyData.eqv (.str a) (.str c)&&(PyData.eqv (toD (.list (b.map itR))) (toD (.list (d.map itR)))&&true))=_;rw [eqv_str,eqv_body]
 by_cases h1:a=c<;>by_cases h2:b=d<;>simp [h1,h2]
theorem eqv_rows (p q:List Rw):PyData.eqv (toD (.list (p.map rwV))) (toD (.list (q.map rwV)))=decide (p=q):=by
 rw [toD_list,toD_list,List.map_map,List.map_map];simp only [PyData.eqv];exact eqvAll_map (f:=toD∘rwV) (fun x y=>eqv_row x y) p q
theorem dp_itR (i:It):(toD (itR i)).depth≤1:=by
 cases i<;>(unfold itR;rw [toD_tup];simp [PyData.depth,PyData.depthAll,toD])
theorem cl_itR {i:It}(h:itOk i=true):(toD (itR i)).canLay0=true:=by
 cases i with
 | N x=>show (true&&((PyData.str x).canLay0&&true))=true;rw [show (PyData.str x).canLay0=true from h];rfl
 | T x=>show (true&&((PyData.str x).canLay0&&true))=true;rw [show (PyData.str x).canLay0=true from h];rfl
theorem sh_itR {i:It}(h:itOk i=true):SeqAt.shaped (toD (itR i))=true:=by
 unfold SeqAt.shaped;rw [Bool.and_eq_true_iff];exact ⟨cl_itR h,decide_eq_true (Nat.le_trans (dp_itR i) (by decide))⟩
theorem dp_body (b:List It):(toD (.list (b.map itR))).depth≤2:=by
 rw [toD_list,List.map_map];have:=depthAll_map (f:=toD∘itR) (n:=1) b fun x _=>dp_itR x;simp only [PyData.depth];lia
theorem cl_body {b:List It}(h:∀ i∈b,itOk i=true):(toD (.list (b.map itR))).canLay0=true:=by
 rw [toD_list,List.map_map];simp only [PyData.canLay0];exact canLayAll_map b fun i hi=>cl_itR (h i hi)
theorem sh_body {b:List It}(h:∀ i∈b,itOk i=true):SeqAt.shaped (toD (.list (b.map itR)))=true:=by
 unfold SeqAt.shaped;rw [Bool.and_eq_true_iff];exact ⟨cl_body h,decide_eq_true (Nat.le_trans (dp_body b) (by decide))⟩
theorem dp_row (p:Rw):(toD (rwV p)).depth≤3:=by
 have:=dp_body p.2;show (PyData.tuple [.str p.1,toD (.list (p.2.map itR))]).depth≤3;simp only [PyData.depth,PyData.depthAll];exact Nat.succ_le_succ (Nat.max_le.mpr ⟨Nat.zero_le _,Nat.max_le.mpr ⟨this,Nat.zero_le _⟩⟩)
theorem cl_row {p:Rw}(h:rowOk p):(toD (rwV p)).canLay0=true:=by
 show ((PyData.str p.1).canLay0&&((toD (.list (p.2.map itR))).canLay0&&true))=true;rw [cl_body h.2,show (PyData.str p.1).canLay0=true from h.1];rfl
theorem sh_row {p:Rw}(h:rowOk p):SeqAt.shaped (toD (rwV p))=true:=by
 unfold SeqAt.shaped;rw [Bool.and_eq_true_iff];exact ⟨cl_row h,decide_eq_true (Nat.le_trans (dp_row p) (by decide))⟩
theorem sh_rows {l:List Rw}(h:∀ p∈l,rowOk p):SeqAt.shaped (toD (.list (l.map rwV)))=true:=by
 unfold SeqAt.shaped;rw [Bool.and_eq_true_iff,toD_list,List.map_map];refine ⟨by simp only [PyData.canLay0];exact canLayAll_map l fun p hp=>cl_row (h p hp),decide_eq_true ?_⟩;have:=depthAll_map (f:=toD∘rwV) (n:=3) l fun x _=>dp_row x;simp only [PyData.depth];lia
theorem any_row {l:List Rw}{p:Rw}:((l.map rwV).any fun y=>PyData.eqv (toD y) (toD (rwV p)))=decide (p∈l):=by
 rw [List.any_map,show ((fun y=>PyData.eqv (toD y) (toD (rwV p)))∘rwV)=fun x=>decide (x=p) from funext fun x=>eqv_row x p,Bool.eq_iff_iff,List.any_eq_true,decide_eq_true_iff];exact ⟨fun ⟨x,hx,e⟩=>(of_decide_eq_true e)▸hx,fun q=>⟨p,q,by simp⟩⟩
theorem done_map {α:Type}{f:α->V}{l:List α}:Done (.list (l.map fun p=>W.v (f p))) (.list (l.map f)):=by
 refine .list ?_;have:=frozen_map (l.map f);rw [List.map_map] at this;exact this
noncomputable def ddup (rs:List Rw):List Rw:=rs.foldl (fun acc p=>if p∈acc then acc else acc++[p]) []
theorem ddup_snoc {p:Rw}:ddup (rs++[p])=if p∈ddup rs then ddup rs else ddup rs++[p]:=by
 unfold ddup;rw [List.foldl_append];rfl
theorem mem_ddup:∀ {p:Rw},p∈ddup rs↔p∈rs:=by
 refine less (p:=fun n=>∀ rs:List Rw,rs.length=n->∀ {p:Rw},p∈ddup rs↔p∈rs) (fun n ih rs hn p=>?_) rs.length rs rfl;by_cases e:rs=[]
 ·subst e;exact Iff.rfl
 ·rw [<-List.dropLast_concat_getLast e,ddup_snoc]
  have hl:(rs.dropLast).length<n:=by rw [List.length_dropLast,<-hn];exact sub_one_lt (List.length_pos_iff.mpr e)
  have q:=fun p=>ih _ hl rs.dropLast rfl (p:=p);by_cases c:rs.getLast e∈ddup rs.dropLast
  ·rw [if_pos c,q p,List.mem_append,List.mem_singleton];exact ⟨.inl,fun r=>r.elim id fun r=>r▸(q _).mp c⟩
  ·rw [if_neg c,List.mem_append,List.mem_append,q p]
theorem ddup_len (rs:List Rw):(ddup rs).length≤rs.length:=by
 refine less (p:=fun n=>∀ rs:List Rw,rs.length=n->(ddup rs).length≤rs.length) (fun n ih rs hn=>?_) rs.length rs rfl;by_cases e:rs=[]
 ·subst e;exact Nat.le_refl _
 ·have hl:(rs.dropLast).length<n:=by rw [List.length_dropLast,<-hn];exact sub_one_lt (List.length_pos_iff.mpr e)
  have q:=ih _ hl rs.dropLast rfl
  have e1:rs.length=rs.dropLast.length+1:=by rw [List.length_dropLast];exact (Nat.sub_add_cancel (List.length_pos_iff.mpr e)).symm
  rw [e1,<-List.dropLast_concat_getLast e,ddup_snoc];split
  ·rw [List.dropLast_concat];exact Nat.le_succ_of_le q
  ·rw [List.length_append,List.length_singleton,List.dropLast_concat];exact Nat.succ_le_succ q
theorem ddup_nodup (h:rs.Nodup):ddup rs=rs:=by
 refine less (p:=fun n=>∀ rs:List Rw,rs.length=n->rs.Nodup->ddup rs=rs) (fun n ih rs hn h=>?_) rs.length rs rfl h;by_cases e:rs=[]
 ·subst e;rfl
 ·have hl:(rs.dropLast).length<n:=by rw [List.length_dropLast,<-hn];exact sub_one_lt (List.length_pos_iff.mpr e)
  have h':=h;rw [<-List.dropLast_concat_getLast e] at h' ⊢;obtain ⟨h1,h2,h3⟩:=List.nodup_append.mp h';rw [ddup_snoc,ih _ hl rs.dropLast rfl h1,if_neg fun q=>h3 _ q _ (.head _) rfl]
noncomputable def unR (v:V):V:=match v with
 | .tup [.bool true,.str x]=>nonT x
 | .tup [.bool false,.str x]=>.str x
 | _=>.none
noncomputable def toR (v:V):V:=match v with
 | .inst _ [(_,.str x)]=>.tup [.bool true,.str x]
 | v=>.tup [.bool false,v]
theorem unR_it (i:It):unR (itR i)=i.v:=by cases i<;>rfl
theorem toR_it (i:It):toR i.v=itR i:=by cases i<;>rfl
section
variable (h:C.K=Mine.hk.heap_1 C.P)(hg:C.gen=false)
include h
theorem sym_spec (hk:k (.v (.str x)) μ):cCall C 2 μ (.ref 42) [.v (nonT x)] [] k:=by
 apply cCall_enter [("self",.v (nonT x))];walk_at "enter"
 case hbind=>walk_at "bind1"
 walk_at "ss";refine a_inst (cls_N h) (fd_N h (by kernel_rfl)) rfl ?_;walk_at "ss";exact hk
theorem m_N {kk:Value->List W->Mem->Prop}(hk:kk (.ref 42) [.v (nonT x)] μ):cMeth C d μ (.v (nonT x)) "symbol" kk :=
 m_inst (cls_N h) (mt_f h (by kernel_rfl) (by kernel_rfl) (by kernel_rfl)) (by decide) hk
theorem rows_spec {st:Str}{m1 m2:Int}(hok:∀ p∈rs,rowOk p∧p.2.length≤10)(hz:rs.length≤2000)(hk:k (.v (.list ((ddup rs).map rwV))) μ) :
  cCall C 6 μ (.ref 367) [.v (gramV st rs dom m1 m2)] [] k:=by
 refine cCall.fzR ?_;apply cCall_enter [("grammar",.v (gramV st rs dom m1 m2))];walk_at "enter"
 case hbind=>walk_at "bind1"
 walk_at "ss";refine cE_listM ?_;walk_at "ss";refine ⟨by simp,fun ra=>?_⟩;walk_at "ss";refine m_Gv (f:=199) h (by kernel_rfl) (by kernel_rfl) (by kernel_rfl) (by decide) ?_;walk_at "ss";refine (prodsV_spec h ?_).deep (by decide);refine for_is it_list ?_;refine fr000 at_map (fun t ε' μ'=>ε'=([("rows",W.l ra),("grammar",.v (gramV st rs dom m1 m2))]:List (Str×W))∧μ'=(ra,O.list ((ddup (rs.take t)).map fun p=>W.v (rwV p)))::μ) (fun _ _ _=>rfl) (⟨rfl,rfl⟩) (fun J hJ t p hpt=>?_) ?_
 ·have hpm:=List.mem_of_getElem? hpt
  have htk:rs.take (t+1)=rs.take t++[p]:=by rw [List.take_add_one,hpt];rfl
  have hro:=hok p hpm;obtain ⟨l,r⟩:=p;walk_at "ss";refine cS1_listVM rfl (by kernel_rfl) rfl (by intros;rfl) (sw_at rfl) (by walk_at "kind") ?_;walk_at "ss";refine m_P (f:=119) h (by kernel_rfl) (by kernel_rfl) (by kernel_rfl) (by decide) ?_;walk_at "ss";refine (rhs_spec h ?_).deep (by decide);refine ⟨_,it_tup,fun items e=>⟨fun _=>true,toR,by subst e;rw [List.length_map];have:=hro.2;simp only at this;lia,fun x hx=>?_,fun ba=>?_⟩⟩
  ·subst e;obtain ⟨i,hi,rfl⟩:=List.mem_map.mp hx;refine ⟨_,tgt_name (by walk_at "kind"),fun acc L=>ifs_nil ⟨rfl,rfl,fun _=>?_⟩⟩;walk_at "ss";refine cT_valK ?_ (by intros;rfl);walk_at "ss";refine isN_it h ?_;refine truthy_bool' ⟨fun e=>?_,fun e=>?_⟩
   ·cases i with
    | T x=>cases e
    | N x =>
     walk_at "ss";refine cE_tuple ?_;walk_at "ss";refine m_N h ?_;walk_at "ss";refine (sym_spec h ?_).deep (by decide);walk_at "ss";exact ⟨_,rfl,by simp,rfl,rfl⟩
   ·cases i with
    | N x=>cases e
    | T x =>
     walk_at "ss";refine cE_tuple ?_;walk_at "ss";exact ⟨_,rfl,by simp,rfl,rfl⟩
  ·have e1:((items.filter fun _=>true).map toR)=r.map itR:=by
    subst e;rw [List.filter_eq_self.mpr (fun _ _=>rfl),List.map_map];exact List.map_congr_left fun i _=>toR_it i
   rw [e1];refine seqK_next (cS.fz (fz_obj (a:=ba) (d:=.list (r.map itR)) (.head _) (.list (frozen_map _)) .here (FrzT.refl _)) (.cons .put (relN_refl _)) ?_);walk_at "ss";refine cE_tuple ?_;walk_at "ss";refine m_P (f:=112) h (by kernel_rfl) (by kernel_rfl) (by kernel_rfl) (by decide) ?_;walk_at "ss";refine (lhs_spec h ?_).deep (by decide);refine m_N h ?_;walk_at "ss";refine (sym_spec h ?_).deep (by decide);walk_at "ss";refine ⟨_,rfl,by simp,?_⟩;walk_at "ss";refine v_notInL (x:=.l ra) (vs:=(ddup (rs.take t)).map rwV) (a:=rwV (l,r)) (by rw [List.map_map];exact .head _) (cl_toDs fun q hq=>sh_row (hok q (List.mem_of_mem_take (mem_ddup.mp hq))).1) (sh_row hro.1) ?_;rw [any_row];walk_at "ss";refine ⟨fun hb=>?_,fun hb=>?_⟩
   ·have hno:(l,r)∉ddup (rs.take t):=by simpa using hb
    walk_at "ss";refine m_list (.head _) PySem.F.slot_list_append rfl ?_;walk_at "ss";refine v_append .here (by rw [List.length_map];exact ok_of (Nat.le_trans (ddup_len _) (Nat.le_trans (List.length_take_le' ..) hz))) ?_;walk_at "ss";refine forK_next hJ (ε':=[("rows",W.l ra),("grammar",.v (gramV st rs dom m1 m2))]) ⟨rfl,rfl,trivial⟩ (List.Sublist.refl _) ⟨rfl,?_⟩;rw [htk,ddup_snoc,if_neg hno,List.map_append];rfl
   ·have hin:(l,r)∈ddup (rs.take t):=by simpa using hb
    walk_at "ss";refine forK_next hJ (ε':=[("rows",W.l ra),("grammar",.v (gramV st rs dom m1 m2))]) ⟨rfl,rfl,trivial⟩ (List.Sublist.refl _) ⟨rfl,?_⟩;rw [htk,ddup_snoc,if_pos hin]
 ·rw [List.length_map,List.take_length];walk_at "ss";exact ⟨_,.v (.list ((ddup rs).map rwV)),μ,fz_obj (.head _) done_map .here (FrzT.refl _),.put,hk⟩
include hg
theorem made_spec {U T:List Str}(hT:∀ P∈C.tabs,(P,O.tab)∈μ)(hU:U.length≤50)(hTl:T.length≤50)(ok:RsOk U T rs)(hk:∀ dom m1 m2,GOk rs dom m1 m2->k (.v (gramV sS rs dom m1 m2)) μ) :
  cCall C 18 μ (.ref 362) [.v (.list (rs.map rwV))] [] k:=by
 apply cCall_enter [("rows",.v (.list (rs.map rwV)))];walk_at "enter"
 case hbind=>walk_at "bind1"
 walk_at "ss";refine cE_listM ?_;walk_at "ss";refine ⟨by simp,fun ra=>?_⟩;walk_at "ss";refine for_is it_list ?_;refine fr000 at_map (fun t ε' μ'=>ε'=([("rules",W.l ra),("rows",.v (.list (rs.map rwV)))]:List (Str×W))∧μ'=(ra,O.list ((rs.take t).map fun p=>W.v (Rw.v p)))::μ) (fun _ _ _=>rfl) (⟨rfl,rfl⟩) (fun J hJ t p hpt=>?_) ?_
 ·have hpm:=List.mem_of_getElem? hpt
  have htk:rs.take (t+1)=rs.take t++[p]:=by rw [List.take_add_one,hpt];rfl
  have hr10:=ok.len p hpm;have hsz:=ok.sz;have htl:t<rs.length:=(List.getElem?_eq_some_iff.mp hpt).1;obtain ⟨l,r⟩:=p;unfold Rw.ok at hr10;simp only at hr10;refine asg_tup2 (by walk_at "kind") (by walk_at "kind") ?_;walk_at "ss";refine m_list (.head _) PySem.F.slot_list_append rfl ?_;walk_at "ss";refine (mk_N h ?_).deep (by decide);walk_at "ss";refine cE_listV rfl (by kernel_rfl) rfl (by intros;rfl) ?_;walk_at "ss";refine ⟨_,it_list,fun items e=>⟨fun _=>true,unR,by subst e;rw [List.length_map];lia,fun x hx=>?_,?_⟩⟩
  ·subst e;obtain ⟨i,hi,rfl⟩:=List.mem_map.mp hx
   cases i with
   | N x =>
    refine ⟨_,tgt_tup2 (by walk_at "kind") (by walk_at "kind"),fun acc L=>ifs_nil ⟨rfl,rfl,fun _=>?_⟩⟩;walk_at "ss";refine cT_valK ?_ (by intros;rfl);walk_at "ss";refine truthy_bool' (both_t ?_);walk_at "ss";refine (mk_N h ?_).deep (by decide);exact ⟨rfl,rfl⟩
   | T x =>
    refine ⟨_,tgt_tup2 (by walk_at "kind") (by walk_at "kind"),fun acc L=>ifs_nil ⟨rfl,rfl,fun _=>?_⟩⟩;walk_at "ss";refine cT_valK ?_ (by intros;rfl);walk_at "ss";refine truthy_bool' (both_f ?_);walk_at "ss";exact ⟨rfl,rfl⟩
  ·have e1:((items.filter fun _=>true).map unR)=r.map It.v:=by
    subst e;rw [List.filter_eq_self.mpr (fun _ _=>rfl),List.map_map];exact List.map_congr_left fun i _=>unR_it i
   rw [e1];walk_at "ss";refine (mk_P h (by lia) ?_).deep (by decide);walk_at "ss";refine v_append .here (by rw [List.length_map,List.length_take];lia) ?_;walk_at "ss";refine forK_next hJ (ε':=[("rules",W.l ra),("rows",.v (.list (rs.map rwV)))]) ⟨rfl,rfl,trivial⟩ (List.Sublist.refl _) ⟨rfl,?_⟩;rw [htk,List.map_append];rfl
 ·rw [List.length_map,List.take_length];refine seqK_next (cS.fz (fz_obj (a:=ra) (d:=.list (rs.map Rw.v)) (.head _) done_map .here (FrzT.refl _)) (.cons .put (relN_refl _)) ?_);walk_at "ss";refine (mk_N h ?_).deep (by decide);walk_at "ss";refine (mk_G h hg hT hU hTl ok fun dom m1 m2 hG=>?_).deep (by decide);walk_at "ss";exact hk dom m1 m2 hG
end
theorem nxt_range {ns:List Int}{k many:Int}(h:0<many):0≤nxt ns k many∧nxt ns k many<many:=by
 unfold nxt;split
 ·exact ⟨Int.fmod_nonneg_of_pos _ h,Int.fmod_lt_of_pos _ h⟩
 ·exact ⟨Int.fmod_nonneg_of_pos _ h,Int.fmod_lt_of_pos _ h⟩
theorem nxt_nat {ns:List Int}{k:Int}{many:Nat}(h:0<many):∃ m:Nat,m<many∧nxt ns k many=m:=by
 have:=nxt_range (ns:=ns) (k:=k) (many:=many) (Int.natCast_pos.mpr h);exact ⟨(nxt ns k many).toNat,(Int.toNat_lt this.1).mpr this.2,(Int.toNat_of_nonneg this.1).symm⟩
noncomputable def hand (ns:List Int)(k:Int):O:=.list [.v (.list (ns.map .int)),.v (.int k)]
noncomputable def items5:List It:=[.N sS,.T sx,.N sA,.T sy,.N sB]
noncomputable def head3 (A:Str):Prop:=A=sS∨A=sA∨A=sB
noncomputable def RowIs (p:Rw):Prop:=head3 p.1∧p.2.length≤4∧∀ i∈p.2,i∈items5
structure Drawn (t:Nat)(rs:List Rw):Prop where
 nd:rs.Nodup
 a:(sA,[.T sx])∈rs
 b:(sB,[.T sy])∈rs
 s:1≤t->∃ b,(sS,b)∈rs
 sz:rs.length≤2+t
 row:∀ p∈rs,RowIs p
theorem sOk3 {A:Str}(h:head3 A):sOk A=true:=by
 rcases h with rfl | rfl | rfl<;>decide +kernel
theorem itOk5 {i:It}(h:i∈items5):itOk i=true:=by
 simp only [items5,List.mem_cons,List.not_mem_nil,or_false] at h
 rcases h with rfl | rfl | rfl | rfl | rfl<;>decide +kernel
theorem RowIs.ok {p:Rw}(h:RowIs p):rowOk p:=⟨sOk3 h.1,fun i hi=>itOk5 (h.2.2 i hi)⟩
theorem i_sab (hm:m<3)(h:∀ A,head3 A->k (.v (.str A)) μ):SubOk C μ (.v (.str (Str.ofString "SAB")))∧cV2 C d μ (.v (.str (Str.ofString "SAB"))) (.v (.int m)) getItem k:=by
 have:=(by decide:∀ m:Nat,m<3->m=0∨m=1∨m=2) m hm
 rcases this with rfl | rfl | rfl
 ·exact ⟨sub_str,v_item_str (c:=83) (by decide) (by decide) (by decide +kernel) (by rw [show (⟨#[83]⟩:Str)=sS from by decide +kernel];exact h _ (.inl rfl))⟩
 ·exact ⟨sub_str,v_item_str (c:=65) (by decide) (by decide) (by decide +kernel) (by rw [show (⟨#[65]⟩:Str)=sA from by decide +kernel];exact h _ (.inr (.inl rfl)))⟩
 ·exact ⟨sub_str,v_item_str (c:=66) (by decide) (by decide) (by decide +kernel) (by rw [show (⟨#[66]⟩:Str)=sB from by decide +kernel];exact h _ (.inr (.inr rfl)))⟩
theorem i_size (hm:m<5)(h:∀ z:Nat,z≤4->k (.v (.int z)) μ):SubOk C μ (.v (.list [.int 2,.int 3,.int 1,.int 4,.int 0]))∧cV2 C d μ (.v (.list [.int 2,.int 3,.int 1,.int 4,.int 0])) (.v (.int m)) getItem k:=by
 have:=(by decide:∀ m:Nat,m<5->m=0∨m=1∨m=2∨m=3∨m=4) m hm
 rcases this with rfl | rfl | rfl | rfl | rfl
 ·exact ⟨sub_list,v_item_list (x:=.int 2) (by decide) (by decide) rfl (h 2 (by decide))⟩
 ·exact ⟨sub_list,v_item_list (x:=.int 3) (by decide) (by decide) rfl (h 3 (by decide))⟩
 ·exact ⟨sub_list,v_item_list (x:=.int 1) (by decide) (by decide) rfl (h 1 (by decide))⟩
 ·exact ⟨sub_list,v_item_list (x:=.int 4) (by decide) (by decide) rfl (h 4 (by decide))⟩
 ·exact ⟨sub_list,v_item_list (x:=.int 0) (by decide) (by decide) rfl (h 0 (by decide))⟩
noncomputable def itAt (q:Int):It:=items5.getD q.toNat (.N sS)
theorem itAt_mem (q:Int):itAt q∈items5:=by
 unfold itAt;rw [List.getD_eq_getElem?_getD]
 cases e:items5[q.toNat]? with
 | none=>exact .head _
 | some i=>exact List.mem_of_getElem? e
theorem itAt_get {q:Int}(h0:0≤q)(h5:q<5):(items5.map itR)[q.toNat]? = some (itR (itAt q)):=by
 have:q.toNat<items5.length:=(Int.toNat_lt h0).mpr h5;rw [List.getElem?_map];unfold itAt;rw [List.getD_eq_getElem?_getD,List.getElem?_eq_getElem this];rfl
theorem dr_top {k:Int}{t z:Nat}(h:k≤2+6*t)(hz:z≤4):k+1+z≤1+6*((t+1:Nat):Int):=by lia
section
variable (h:C.K=Mine.hk.heap_1 C.P)
include h
theorem next_at {ns:List Int}{kk:Int}{many:Nat}(hk0:0≤kk)(hk1:kk<1000)(hmany:0<many)(hl:ns.length≤100)(hU:UpdAt a (hand ns kk) (hand ns (kk+1)) μ μ')(hk:∀ m:Nat,m<many->nxt ns kk many=m->k (.v (.int m)) μ'):cCall C 3 μ (.ref 352) [.l a,.v (.int many)] [] k:=by
 obtain ⟨m,hm,e⟩:=nxt_nat (ns:=ns) (k:=kk) hmany;refine law_next_spec h hk0 hk1 (Int.natCast_ne_zero.mpr (Nat.ne_of_gt hmany)) hl hU ?_;rw [e];exact hk m hm e
theorem drawn_spec {hd:Addr}{ns:List Int}(hl:ns.length≤100)(hk:∀ rs kk,Drawn 3 rs->0≤kk->kk≤100->k (.v (.list (rs.map rwV))) ((hd,hand ns kk)::μ)) :
  cCall C 8 ((hd,hand ns 0)::μ) (.ref 357) [.l hd] [] k:=by
 refine cCall.fzR ?_;apply cCall_enter [("hand",.l hd)];walk_at "enter"
 case hbind=>walk_at "bind1"
 walk_at "ss";refine cE_listM ?_;walk_at "ss";refine cE_tuple ?_;walk_at "ss";refine cE_listF ?_;walk_at "ss";refine cE_tuple ?_;walk_at "ss";refine ⟨_,rfl,by simp,?_⟩;walk_at "ss";refine ⟨_,rfl,by simp,?_⟩;walk_at "ss";refine ⟨_,rfl,by simp,?_⟩;walk_at "ss";refine cE_tuple ?_;walk_at "ss";refine cE_listF ?_;walk_at "ss";refine cE_tuple ?_;walk_at "ss";refine ⟨_,rfl,by simp,?_⟩;walk_at "ss";refine ⟨_,rfl,by simp,?_⟩;walk_at "ss";refine ⟨_,rfl,by simp,?_⟩;walk_at "ss";refine ⟨by simp,fun ra=>?_⟩;walk_at "ss";refine cE_listF ?_;walk_at "ss";refine cE_tuple ?_;walk_at "ss";refine ⟨_,rfl,by simp,?_⟩;walk_at "ss";refine cE_tuple ?_;walk_at "ss";refine ⟨_,rfl,by simp,?_⟩;walk_at "ss";refine cE_tuple ?_;walk_at "ss";refine ⟨_,rfl,by simp,?_⟩;walk_at "ss";refine cE_tuple ?_;walk_at "ss";refine ⟨_,rfl,by simp,?_⟩;walk_at "ss";refine cE_tuple ?_;walk_at "ss";refine ⟨_,rfl,by simp,?_⟩;walk_at "ss";refine ⟨_,rfl,by simp,?_⟩;walk_at "ss";refine (next_at (many:=3) (ns:=ns) (kk:=0) h (by decide) (by decide) (by decide) hl (.there .here) fun m hm _=>?_).deep (by decide);walk_at "ss";rw [show (1:Int)+(m:Int)=((1+m:Nat):Int) from (Int.natCast_add 1 m).symm];refine for_is (it_rng (by decide) (by decide) (ni_neg _) (ni_big (Nat.add_lt_add_left hm 1))) ?_;refine fr101 (at_rng (n:=1+m)) (fun t ε' μ'=>ε'=([("items",W.v (.list (items5.map itR))),("rows",W.l ra),("hand",.l hd)]:List (Str×W))∧∃ s:List Rw×Int,μ'=(ra,O.list (s.1.map fun p=>W.v (rwV p)))::(hd,hand ns s.2)::μ∧(Drawn t s.1∧0≤s.2∧s.2≤1+6*t)) (fun _ _ _=>rfl) (⟨rfl,⟨[(sA,[.T sx]),(sB,[.T sy])],0+1⟩,rfl,⟨?_,.head _,.tail _ (.head _),fun q=>absurd q (by decide),by simp,fun p hp=>?_⟩,by decide,by decide⟩) (fun J hJ t _ s ht hs=>?_) (fun s hs=>?_)
 ·decide +kernel
 ·simp only [List.mem_cons,List.not_mem_nil,or_false] at hp
  rcases hp with rfl | rfl
  ·exact ⟨.inr (.inl rfl),by simp,fun i hi=>by rw [List.mem_singleton.mp hi];exact .tail _ (.head _)⟩
  ·exact ⟨.inr (.inr rfl),by simp,fun i hi=>by rw [List.mem_singleton.mp hi];exact .tail _ (.tail _ (.tail _ (.head _)))⟩
 ·obtain ⟨rs,kk⟩:=s;obtain ⟨hD,hk0,hk1⟩:=hs;simp only at hD hk0 hk1;have ht3:t≤3:=Nat.le_of_lt_succ (Nat.lt_of_lt_of_le ht (Nat.add_le_add_left (Nat.le_of_lt hm) 1));have hkt:(6:Int)*t≤18:=Int.mul_le_mul_of_nonneg_left (Int.ofNat_le.mpr ht3) (by decide);refine asg_name (by walk_at "kind") ?_;refine cS_cons (cS1.joinE (fun a:Str×Int=>([("head",W.v (.str a.1)),("k",.v (.int t)),("items",W.v (.list (items5.map itR))),("rows",W.l ra),("hand",.l hd)]:List (Str×W))) (fun a=>(ra,O.list (rs.map fun p=>W.v (rwV p)))::(hd,hand ns a.2)::μ) (fun a=>head3 a.1∧(t=0->a.1=sS)∧0≤a.2∧a.2≤2+6*t) (fun K hK=>?_) ?_)
  ·walk_at "ss";refine ⟨fun e=>?_,fun e=>?_⟩
   ·walk_at "ss";exact hK (sS,kk) ⟨.inl rfl,fun _=>rfl,hk0,Int.le_trans hk1 (Int.add_le_add_right (by decide) _)⟩
   ·have e':t≠0:=fun q=>by subst q;simp at e
    walk_at "ss";refine (next_at (many:=3) (ns:=ns) (kk:=kk) h hk0 (Int.lt_of_le_of_lt (Int.le_trans hk1 (Int.add_le_add_left hkt 1)) (by decide)) (by decide) hl (.there .here) fun q hq _=>?_).deep (by decide);walk_at "ss";refine i_sab hq fun A hA=>?_;walk_at "ss";exact hK (A,kk+1) ⟨hA,fun q=>absurd q e',Int.add_nonneg hk0 (by decide),Int.le_trans (Int.add_le_add_right hk1 1) (Int.le_of_eq (by rw [Int.add_right_comm];rfl))⟩
  clear hk0 hk1;intro a hS;obtain ⟨A,kk'⟩:=a;have hA:head3 A:=hS.1;have hA0:t=0->A=sS:=hS.2.1;have hk0:0≤kk':=hS.2.2.1;have hk1:kk'≤2+6*t:=hS.2.2.2;clear hS;dsimp only;walk_at "ss";refine cE_listF ?_;walk_at "ss";refine ⟨_,rfl,by simp,?_⟩;walk_at "ss";refine (next_at (many:=5) (ns:=ns) (kk:=kk') h hk0 (Int.lt_of_le_of_lt (Int.le_trans hk1 (Int.add_le_add_left hkt 2)) (by decide)) (by decide) hl (.there .here) fun q hq _=>?_).deep (by decide);walk_at "ss";refine i_size hq fun z hz=>?_;walk_at "ss";refine cE_tuple ?_
  (walk_at "s");(walk_at "s");(walk_at "s")
  refine cE_listSt rfl (by kernel_rfl) rfl (by intros;rfl) (by walk_at "kind") ?_;walk_at "ss";refine ⟨z,rfl,Nat.lt_of_le_of_lt hz (by decide),fun i=>(ra,O.list (rs.map fun p=>W.v (rwV p)))::(hd,hand ns (kk'+1+i))::μ,fun i=>itR (itAt (nxt ns (kk'+1+i) 5)),by simp,fun i hi acc L=>?_,?_⟩
  ·walk_at "ss";refine (next_at (many:=5) (ns:=ns) (kk:=kk'+1+i) h (Int.add_nonneg (Int.add_nonneg hk0 (by decide)) (Int.natCast_nonneg i)) (Int.lt_of_le_of_lt (Int.add_le_add (Int.add_le_add_right (Int.le_trans hk1 (Int.add_le_add_left hkt 2)) 1) (Int.ofNat_le.mpr (Nat.le_trans (Nat.le_of_lt hi) hz))) (by decide)) (by decide) hl (.there (.there .here)) fun q hq e=>?_).deep (by decide);have e:nxt ns (kk'+1+i) 5=q:=e;refine ⟨sub_list,v_item_list (x:=itR (itAt q)) (Int.natCast_nonneg _) (ni_big hq) (itAt_get (Int.natCast_nonneg _) (Int.ofNat_lt.mpr hq)) ?_⟩;refine ⟨by show _=W.v (itR (itAt (nxt ns (kk'+1+i) 5)));rw [e],?_⟩;show _=_::(ra,O.list (rs.map fun p=>W.v (rwV p)))::(hd,hand ns (kk'+1+((i+1:Nat):Int)))::μ;rw [show kk'+1+(i:Int)+1=kk'+1+((i+1:Nat):Int) from Int.add_assoc _ _ _]
  ·walk_at "ss";refine ⟨_,rfl,by simp,?_⟩;refine gen (α:=List It) ((List.range z).map fun (i:Nat)=>itAt (nxt ns (kk'+1+i) 5)) fun b hb=>?_
   have e1:((List.range z).map fun (i:Nat)=>itR (itAt (nxt ns (kk'+1+i) 5)))=b.map itR:=by rw [hb,List.map_map];rfl
   rw [e1]
   have hbl:b.length≤4:=by rw [hb];simpa using hz
   have hbm:∀ i∈b,i∈items5:=fun i hi=>by
    rw [hb] at hi;obtain ⟨j,_,rfl⟩:=List.mem_map.mp hi;exact itAt_mem _
   have hrow:RowIs (A,b):=⟨hA,hbl,hbm⟩;clear hb e1;walk_at "ss";refine v_notInL (x:=.l ra) (vs:=rs.map rwV) (a:=rwV (A,b)) (by rw [List.map_map];exact .head _) (cl_toDs fun q hq=>sh_row (hD.row q hq).ok) (sh_row hrow.ok) ?_;rw [any_row];walk_at "ss";refine ⟨fun hb=>?_,fun hb=>?_⟩
   ·have hno:(A,b)∉rs:=by simpa using hb
    walk_at "ss";refine m_list (.head _) PySem.F.slot_list_append rfl ?_;walk_at "ss";refine v_append .here (by rw [List.length_map];exact ok_of (Nat.le_trans hD.sz (Nat.add_le_add_left ht3 2))) ?_;walk_at "ss";refine forK_next hJ (ε':=[("items",W.v (.list (items5.map itR))),("rows",W.l ra),("hand",.l hd)]) ⟨rfl,rfl,rfl,trivial⟩ (List.Sublist.refl _) ⟨rfl,⟨rs++[(A,b)],kk'+1+z⟩,by rw [List.map_append];rfl,⟨?_,List.mem_append_left _ hD.a,List.mem_append_left _ hD.b,fun _=>?_,?_,fun p hp=>?_⟩,Int.add_nonneg (Int.add_nonneg hk0 (by decide)) (Int.natCast_nonneg z),dr_top hk1 hz⟩
    ·exact List.nodup_append.mpr ⟨hD.nd,List.pairwise_singleton _ _,fun x hx y hy e=>hno (by rw [List.mem_singleton.mp hy] at e;exact e▸hx)⟩
    ·by_cases e:t=0
     ·exact ⟨b,List.mem_append_right _ (by rw [hA0 e];exact .head _)⟩
     ·obtain ⟨b',hb'⟩:=hD.s (Nat.pos_of_ne_zero e);exact ⟨b',List.mem_append_left _ hb'⟩
    ·show (rs++[(A,b)]).length≤_;rw [List.length_append,List.length_singleton];exact Nat.succ_le_succ hD.sz
    ·rcases List.mem_append.mp hp with q | q
     ·exact hD.row p q
     ·rw [List.mem_singleton.mp q];exact hrow
   ·have hin:(A,b)∈rs:=by simpa using hb
    walk_at "ss";refine forK_next hJ (ε':=[("items",W.v (.list (items5.map itR))),("rows",W.l ra),("hand",.l hd)]) ⟨rfl,rfl,rfl,trivial⟩ (List.Sublist.refl _) ⟨rfl,⟨rs,kk'+1+z⟩,rfl,⟨hD.nd,hD.a,hD.b,fun _=>?_,Nat.le_succ_of_le hD.sz,hD.row⟩,Int.add_nonneg (Int.add_nonneg hk0 (by decide)) (Int.natCast_nonneg z),dr_top hk1 hz⟩;by_cases e:t=0
    ·exact ⟨b,by rw [<-hA0 e];exact hin⟩
    ·exact hD.s (Nat.pos_of_ne_zero e)
 ·obtain ⟨rs,kk⟩:=s;obtain ⟨hD,hk0,hk1⟩:=hs
  have erl:(rngV 0 ((1+m:Nat):Int)).length=1+m:=by unfold rngV;rw [List.length_map,List.length_range];exact Int.toNat_natCast (1+m)
  rw [erl] at hD hk1;simp only at hD hk0 hk1;walk_at "ss";exact ⟨_,.v (.list (rs.map rwV)),_,fz_obj (.head _) done_map .here (FrzT.refl _),.put,hk rs kk ⟨hD.nd,hD.a,hD.b,fun _=>hD.s (by lia),by have:=hD.sz;lia,hD.row⟩ hk0 (by lia)⟩
end
section
open PySem PySem.Calls
noncomputable def sw (u:List Nat):Str:=⟨u.toArray⟩
theorem wd_sw (u:List Nat):wd (sw u)=u:=rfl
theorem sw_wd (x:Str):sw (wd x)=x:=by cases x;rfl
theorem wd_app (x y:Str):wd (x++y)=wd x++wd y:=Array.toList_append
theorem sw_app (u v:List Nat):sw (u++v)=sw u++sw v:=by
 rw [<-sw_wd (sw u++sw v),wd_app,wd_sw,wd_sw]
theorem str_len (x:Str):x.length=(wd x).length:=Array.length_toList.symm
noncomputable def allL:Nat->List (List Nat)
 | 0=>[[]]
 | n+1=>(allL n).map (120::·)++(allL n).map (121::·)
theorem mem_allL:∀ {n:Nat}{u:List Nat},u∈allL n↔u.length=n∧∀ c∈u,c=120∨c=121
 | 0,u=>by
  rw [show allL 0=[[]] from rfl,List.mem_singleton];exact ⟨fun q=>by subst q;exact ⟨rfl,by simp⟩,fun q=>List.eq_nil_of_length_eq_zero q.1⟩
 | n+1,u=>by
  rw [show allL (n+1)=(allL n).map (120::·)++(allL n).map (121::·) from rfl,List.mem_append,List.mem_map,List.mem_map];constructor
  ·rintro (⟨v,hv,rfl⟩ | ⟨v,hv,rfl⟩)
   ·obtain ⟨h1,h2⟩:=mem_allL.mp hv;exact ⟨by rw [List.length_cons,h1],fun c hc=>(List.mem_cons.mp hc).elim (fun q=>.inl q) (h2 c)⟩
   ·obtain ⟨h1,h2⟩:=mem_allL.mp hv;exact ⟨by rw [List.length_cons,h1],fun c hc=>(List.mem_cons.mp hc).elim (fun q=>.inr q) (h2 c)⟩
  ·rintro ⟨h1,h2⟩
   cases u with
   | nil=>cases h1
   | cons c v =>
    have hv:v∈allL n:=mem_allL.mpr ⟨by simpa using h1,fun c hc=>h2 c (.tail _ hc)⟩
    rcases h2 c (.head _) with rfl | rfl
    ·exact .inl ⟨v,hv,rfl⟩
    ·exact .inr ⟨v,hv,rfl⟩
noncomputable def allW (n:Nat):List Str:=(allL n).map sw
theorem mem_allW:x∈allW n↔(wd x).length=n∧∀ c∈wd x,c=120∨c=121:=by
 unfold allW;rw [List.mem_map,<-mem_allL];exact ⟨fun ⟨u,hu,e⟩=>by subst e;exact hu,fun q=>⟨_,q,sw_wd x⟩⟩
theorem allW_app {a b:Nat}(hx:x∈allW a)(hy:y∈allW b):x++y∈allW (a+b):=by
 obtain ⟨h1,h2⟩:=mem_allW.mp hx;obtain ⟨h3,h4⟩:=mem_allW.mp hy;refine mem_allW.mpr ⟨by rw [wd_app,List.length_append,h1,h3],fun c hc=>?_⟩;rw [wd_app] at hc;exact (List.mem_append.mp hc).elim (h2 c) (h4 c)
theorem allW_len:∀ a,a<4->(allW a).length≤8:=by decide +kernel
theorem allW_nd:∀ a,a<4->(allW a).Nodup:=by decide +kernel
theorem allW_ok:∀ a,a<4->∀ x∈allW a,sOk x=true:=by decide +kernel
theorem allW_sorted:∀ a,a<4->(allW a).Pairwise fun a b=>¬ b.cps.toList<a.cps.toList:=by decide +kernel
theorem words_len {a:Nat}{l:List Str}(ha:a<4)(hn:l.Nodup)(h:∀ x∈l,x∈allW a):l.length≤8:=Nat.le_trans (List.Nodup.length_le_of_subset hn h) (allW_len a ha)
noncomputable def fourV (H:Nat->List Str):V:=.list ((List.range 4).map fun a=>.list ((H a).map .str))
theorem fourV_eq {H H':Nat->List Str}(h:∀ a,a<4->H a=H' a):fourV H=fourV H':=by
 unfold fourV
 congr 1
 exact List.map_congr_left fun a ha=>by rw [h a (List.mem_range.mp ha)]
section
open Classical
noncomputable def lang (rs:List Rw)(A:Str)(a:Nat):List Str:=(allW a).filter fun w=>decide (Lg rs A (wd w))
theorem mem_lang {A:Str}{a:Nat}{w:Str}:w∈lang rs A a↔w∈allW a∧Lg rs A (wd w):=by
 unfold lang;rw [List.mem_filter,decide_eq_true_iff]
theorem lang_same {rs':List Rw}{A A':Str}(h:∀ w,Lg rs A w↔Lg rs' A' w)(a:Nat):lang rs A a=lang rs' A' a :=
 List.filter_congr fun w _=>by rw [decide_eq_decide];exact h _
end
noncomputable def rdL (L:Str->Nat->List Str)(A:Str)(u:List Nat):Prop:=sw u∈L A u.length
theorem sem_short {I J:Str->List Nat->Prop}(h:∀ A u,u.length<4->I A u->J A u){b:List It}:∀ {w:List Nat},w.length<4->Sem I b w->Sem J b w:=by
 induction b with
 | nil=>exact fun _ q=>q
 | cons i r ih =>
  rintro w hw ⟨u,v,rfl,h1,h2⟩;rw [List.length_append] at hw;refine ⟨u,v,rfl,?_,ih (by lia) h2⟩
  cases i with
  | T x=>exact h1
  | N B=>exact h B u (by lia) h1
theorem lg_full {L:Str->Nat->List Str}(h:∀ A b,(A,b)∈rs->∀ u:List Nat,u.length<4->Sem (rdL L) b u->rdL L A u){A:Str}{u:List Nat}(q:Lg rs A u)(hu:u.length<4):rdL L A u :=
 q (fun A u=>u.length<4->rdL L A u) (fun A b w hm hs hw=>h A b hm w hw (sem_short (fun B v hv x=>x hv) hw hs)) hu
theorem sem_snoc {I:Str->List Nat->Prop}{b:List It}{i:It}:∀ {w:List Nat},Sem I (b++[i]) w↔∃ u v,w=u++v∧Sem I b u∧semI I i v:=by
 induction b with
 | nil =>
  intro w;rw [List.nil_append,sem_one];exact ⟨fun q=>⟨[],w,rfl,rfl,q⟩,fun q=>el23 q fun u v e hu hv=>by rw [e,sem_nil.mp hu];exact hv⟩
 | cons j r ih =>
  intro w
  exact ⟨fun q=>el23 (sem_cons.mp q) fun u v e h1 h2=>el23 (ih.mp h2) fun x y e2 h3 h4=>⟨u++x,y,by rw [e,e2,List.append_assoc],⟨u,x,rfl,h1,h3⟩,h4⟩,
   fun q=>el23 q fun u v e h1 h2=>el23 (sem_cons.mp h1) fun x y e2 h3 h4=>⟨x,y++v,by rw [e,e2,List.append_assoc],h3,ih.mpr ⟨y,v,rfl,h4,h2⟩⟩⟩
noncomputable def partOf (L:Str->Nat->List Str)(i:It)(j:Nat):List Str:=match i with
 | .T x=>if j=1 then [x] else []
 | .N B=>L B j
inductive Jn (Q:Nat->Nat->Str->Str->Prop) (H P:Nat->List Str) (c:Nat) (w:Str):Prop
 | mk (a b:Nat) (l r:Str) (e:a+b=c) (hl:l∈H a) (hr:r∈P b) (q:Q a b l r) (ew:w=l++r):Jn Q H P c w
noncomputable def JP (Q:Nat->Nat->Str->Str->Prop)(H P R:Nat->List Str):Prop:=∀ c,c<4->(R c).Nodup∧∀ w,w∈R c↔Jn Q H P c w
theorem Jn.map {Q Q':Nat->Nat->Str->Str->Prop}{H P:Nat->List Str}{c:Nat}{w:Str}(hc:c<4)(hq:∀ a b l r,a+b<4->l∈H a->r∈P b->Q a b l r->Q' a b l r)(h:Jn Q H P c w):Jn Q' H P c w :=
 h.casesOn fun a b l r e hl hr q ew=>⟨a,b,l,r,e,hl,hr,hq a b l r (e▸hc) hl hr q,ew⟩
theorem JP.congr {Q Q':Nat->Nat->Str->Str->Prop}{H P R:Nat->List Str}(h:JP Q H P R)(hq:∀ a b l r,a+b<4->l∈H a->r∈P b->(Q a b l r↔Q' a b l r)):JP Q' H P R:=fun c hc =>
 ⟨(h c hc).1,fun w=>((h c hc).2 w).trans ⟨Jn.map hc fun a b l r e hl hr=>(hq a b l r e hl hr).mp,Jn.map hc fun a b l r e hl hr=>(hq a b l r e hl hr).mpr⟩⟩
section
variable {Q:Nat->Nat->Str->Str->Prop}{H P R:Nat->List Str}{a b c:Nat}{l r w:Str}
theorem Jn.put (hl:l∈H a)(hr:r∈P b):Jn Q H P c w∨(a+b=c∧w=l++r)↔Jn (fun a' b' l' r'=>Q a' b' l' r'∨(a'=a∧b'=b∧l'=l∧r'=r)) H P c w :=
 ⟨fun h=>h.elim (fun h=>h.casesOn fun a' b' l' r' e hl hr q ew=>⟨a',b',l',r',e,hl,hr,.inl q,ew⟩) fun h=>⟨a,b,l,r,h.1,hl,hr,.inr ⟨rfl,rfl,rfl,rfl⟩,h.2⟩,
  fun h=>h.casesOn fun a' b' l' r' e hl hr q ew=>q.elim (fun q=>.inl ⟨a',b',l',r',e,hl,hr,q,ew⟩) fun q=>.inr ⟨by rw [<-e,q.1,q.2.1],by rw [ew,q.2.2.1,q.2.2.2]⟩⟩
theorem JP.put (h:JP Q H P R)(hl:l∈H a)(hr:r∈P b) :
  (l++r∉R (a+b)->JP (fun a' b' l' r'=>Q a' b' l' r'∨(a'=a∧b'=b∧l'=l∧r'=r)) H P fun c=>if c=a+b then R c++[l++r] else R c) ∧
  (l++r∈R (a+b)->JP (fun a' b' l' r'=>Q a' b' l' r'∨(a'=a∧b'=b∧l'=l∧r'=r)) H P R):=by
 refine ⟨fun hno c hc=>?_,fun hin c hc=>⟨(h c hc).1,fun w=>((h c hc).2 w).trans ((or_iff_left_of_imp fun q=>?_).symm.trans (Jn.put hl hr))⟩⟩
 ·show (if c=a+b then R c++[l++r] else R c).Nodup∧∀ w,w∈(if c=a+b then R c++[l++r] else R c)↔_;by_cases e:c=a+b
  ·rw [if_pos e]
   exact ⟨List.nodup_append.mpr ⟨(h _ hc).1,List.pairwise_singleton _ _,fun x hx y hy q=>hno (by rw [<-List.mem_singleton.mp hy,<-q,<-e];exact hx)⟩,
    fun w=>(List.mem_append.trans (or_congr ((h c hc).2 w) (List.mem_singleton.trans ⟨fun q=>⟨e.symm,q⟩,And.right⟩))).trans (Jn.put hl hr)⟩
  ·rw [if_neg e];exact ⟨(h _ hc).1,fun w=>((h c hc).2 w).trans ((or_iff_left fun q=>e q.1.symm).symm.trans (Jn.put hl hr))⟩
 ·rw [<-q.1,q.2];exact ((h _ (by rw [q.1];exact hc)).2 _).mp hin
end
noncomputable def jA (a:Nat):Nat->Nat->Str->Str->Prop:=fun a' _ _ _=>a'<a
noncomputable def jB (a t:Nat):Nat->Nat->Str->Str->Prop:=fun a' b' _ _=>a'<a∨(a'=a∧b'<t)
noncomputable def jC (a b:Nat)(L:List Str):Nat->Nat->Str->Str->Prop:=fun a' b' l' _=>a'<a∨(a'=a∧(b'<b∨(b'=b∧l'∈L)))
noncomputable def jD (a b:Nat)(l:Str)(L K:List Str):Nat->Nat->Str->Str->Prop:=fun a' b' l' r'=>a'<a∨(a'=a∧(b'<b∨(b'=b∧(l'∈L∨(l'=l∧r'∈K)))))
section
variable {H P R:Nat->List Str}{a b:Nat}{l r:Str}{L K:List Str}
theorem or_no {p q:Prop}(h:¬ q):p↔p∨q:=⟨.inl,fun x=>x.elim id fun y=>absurd y h⟩
theorem jp0:JP (jA 0) H P fun _=>[]:=fun c _=>⟨.nil,fun w=>⟨fun q=>(nomatch q),fun q=>q.casesOn fun a' _ _ _ _ _ _ q _=>absurd q (Nat.not_lt_zero a')⟩⟩
theorem jAB (h:JP (jA a) H P R):JP (jB a 0) H P R:=h.congr fun _ b' _ _ _ _ _=>or_no fun q=>absurd q.2 (Nat.not_lt_zero b')
theorem jBC (h:JP (jB a b) H P R):JP (jC a b []) H P R:=h.congr fun _ _ _ _ _ _ _=>or_congr Iff.rfl (and_congr Iff.rfl (or_no fun q=>nomatch q.2))
theorem jCD (h:JP (jC a b L) H P R):JP (jD a b l L []) H P R:=h.congr fun _ _ _ _ _ _ _=>or_congr Iff.rfl (and_congr Iff.rfl (or_congr Iff.rfl (and_congr Iff.rfl (or_no fun q=>nomatch q.2))))
theorem jDs (h:JP (fun a' b' l' r'=>jD a b l L K a' b' l' r'∨(a'=a∧b'=b∧l'=l∧r'=r)) H P R):JP (jD a b l L (K++[r])) H P R:=h.congr fun a' b' l' r' _ _ _=>by
 unfold jD;rw [List.mem_append,List.mem_singleton];constructor
 ·rintro ((q | ⟨q,q2 | ⟨q2,q3 | ⟨q3,q4⟩⟩⟩) | ⟨q,q2,q3,q4⟩)
  ·exact .inl q
  ·exact .inr ⟨q,.inl q2⟩
  ·exact .inr ⟨q,.inr ⟨q2,.inl q3⟩⟩
  ·exact .inr ⟨q,.inr ⟨q2,.inr ⟨q3,.inl q4⟩⟩⟩
  ·exact .inr ⟨q,.inr ⟨q2,.inr ⟨q3,.inr q4⟩⟩⟩
 ·rintro (q | ⟨q,q2 | ⟨q2,q3 | ⟨q3,q4 | q4⟩⟩⟩)
  ·exact .inl (.inl q)
  ·exact .inl (.inr ⟨q,.inl q2⟩)
  ·exact .inl (.inr ⟨q,.inr ⟨q2,.inl q3⟩⟩)
  ·exact .inl (.inr ⟨q,.inr ⟨q2,.inr ⟨q3,q4⟩⟩⟩)
  ·exact .inr ⟨q,q2,q3,q4⟩
theorem jDC (h:JP (jD a b l L (P b)) H P R):JP (jC a b (L++[l])) H P R:=h.congr fun a' b' l' r' _ _ hr=>or_congr Iff.rfl (and_congr Iff.rfl (or_congr Iff.rfl (and_congr_right fun e=>by
 rw [List.mem_append,List.mem_singleton]
 exact or_congr Iff.rfl (and_iff_left (e▸hr)))))
theorem jCB (h:JP (jC a b (H a)) H P R):JP (jB a (b+1)) H P R:=h.congr fun a' b' l' r' _ hl _=>or_congr Iff.rfl (and_congr_right fun e =>
 ⟨fun q=>q.elim Nat.lt_succ_of_lt fun q=>q.1▸Nat.lt_succ_self _,fun q=>(Nat.lt_or_eq_of_le (Nat.le_of_lt_succ q)).imp id fun q=>⟨q,e▸hl⟩⟩)
theorem jBA (h:JP (jB a (4-a)) H P R):JP (jA (a+1)) H P R:=h.congr fun a' b' _ _ h4 _ _ =>
 ⟨fun q=>q.elim Nat.lt_succ_of_lt fun q=>q.1▸Nat.lt_succ_self _,fun q=>(Nat.lt_or_eq_of_le (Nat.le_of_lt_succ q)).imp id fun e=>⟨e,Nat.lt_sub_of_add_lt (by rw [Nat.add_comm,<-e];exact h4)⟩⟩
theorem jAs (hn:H a=[])(h:JP (jA a) H P R):JP (jA (a+1)) H P R:=h.congr fun a' b' _ _ _ hl _ =>
 ⟨Nat.lt_succ_of_lt,fun q=>(Nat.lt_or_eq_of_le (Nat.le_of_lt_succ q)).elim id fun e=>by rw [e,hn] at hl;cases hl⟩
theorem jAT (h:JP (jA 4) H P R):JP (fun _ _ _ _=>True) H P R:=h.congr fun a' b' _ _ h4 _ _=>⟨fun _=>trivial,fun _=>Nat.lt_of_le_of_lt (Nat.le_add_right ..) h4⟩
end
theorem JP.all {Q:Nat->Nat->Str->Str->Prop}{H P R:Nat->List Str}(h:JP Q H P R)(hH:∀ a,a<4->∀ w∈H a,w∈allW a)(hP:∀ a,a<4->∀ w∈P a,w∈allW a){c:Nat}(hc:c<4):∀ w∈R c,w∈allW c:=fun w hw=>by
 refine (((h c hc).2 w).mp hw).casesOn fun a b l r e h1 h2 _ ew=>?_;rw [ew,<-e];rw [<-e] at hc;exact allW_app (hH a (Nat.lt_of_le_of_lt (Nat.le_add_right ..) hc) l h1) (hP b (Nat.lt_of_le_of_lt (Nat.le_add_left ..) hc) r h2)
noncomputable def HeapIs (L:Str->Nat->List Str)(b:List It)(H:Nat->List Str):Prop:=∀ a,a<4->(H a).Nodup∧∀ w,w∈H a↔(wd w).length=a∧Sem (rdL L) b (wd w)
theorem heap_nil {L:Str->Nat->List Str}:HeapIs L [] fun a=>if a=0 then [sw []] else []:=fun a ha=>by
 show (if a=0 then [sw []] else []).Nodup∧∀ w,w∈(if a=0 then [sw []] else [])↔_;by_cases e:a=0
 ·subst e;rw [if_pos rfl];refine ⟨List.pairwise_singleton _ _,fun w=>?_⟩;rw [List.mem_singleton,sem_nil];exact ⟨fun q=>by subst q;exact ⟨rfl,rfl⟩,fun q=>by rw [<-sw_wd w,q.2]⟩
 ·rw [if_neg e];refine ⟨.nil,fun w=>⟨fun q=>(by cases q),fun ⟨q1,q2⟩=>?_⟩⟩;rw [sem_nil.mp q2] at q1;exact absurd q1.symm e
theorem sem_part {L:Str->Nat->List Str}{i:It}(hT:∀ x,i=.T x->(wd x).length=1)(v:List Nat):semI (rdL L) i v↔sw v∈partOf L i v.length:=by
 cases i with
 | T x =>
  show v=wd x↔sw v∈(if v.length=1 then [x] else []);constructor
  ·intro e;rw [e,if_pos (hT x rfl),sw_wd];exact .head _
  ·intro q;by_cases e:v.length=1
   ·rw [if_pos e] at q;rw [<-List.mem_singleton.mp q];rfl
   ·rw [if_neg e] at q;cases q
 | N B=>exact Iff.rfl
theorem part_len {L:Str->Nat->List Str}{i:It}(hT:∀ x,i=.T x->(wd x).length=1)(hL:∀ B j,∀ w∈L B j,(wd w).length=j){w:Str}(hw:w∈partOf L i j):(wd w).length=j:=by
 cases i with
 | T x =>
  have hw:w∈(if j=1 then [x] else []):=hw;by_cases e:j=1
  ·rw [if_pos e] at hw;rw [List.mem_singleton.mp hw,e];exact hT x rfl
  ·rw [if_neg e] at hw;cases hw
 | N B=>exact hL B j w hw
theorem heap_snoc {L:Str->Nat->List Str}{b:List It}{H R:Nat->List Str}{i:It}(hH:HeapIs L b H)(hT:∀ x,i=.T x->(wd x).length=1)(hL:∀ B j,∀ w∈L B j,(wd w).length=j)(hJ:JP (fun _ _ _ _=>True) H (partOf L i) R):HeapIs L (b++[i]) R:=fun c hc =>
 ⟨(hJ c hc).1,fun w=>((hJ c hc).2 w).trans ⟨fun h=>h.casesOn fun a j l r e hl hr _ ew=>by
  have h1:=((hH a (Nat.lt_of_le_of_lt (Nat.le_add_right ..) (e▸hc))).2 l).mp hl;have e2:=part_len hT hL hr
  exact ⟨by rw [ew,wd_app,List.length_append,h1.1,e2,e],sem_snoc.mpr ⟨wd l,wd r,ew▸wd_app l r,h1.2,(sem_part hT _).mpr (by rw [sw_wd,e2];exact hr)⟩⟩,
  fun h=>el23 (sem_snoc.mp h.2) fun u v ew h1 h2=>by
  have el:u.length+v.length=c:=by rw [<-List.length_append,<-ew,h.1]
  exact ⟨u.length,v.length,sw u,sw v,el,((hH u.length (Nat.lt_of_le_of_lt (Nat.le_add_right ..) (el▸hc))).2 _).mpr ⟨rfl,h1⟩,(sem_part hT v).mp h2,trivial,by rw [<-sw_app,<-ew,sw_wd]⟩⟩⟩
end
theorem cAsg.weak {t:Expr}{w:W}{ke:Env1->Mem->Prop}(he:∀ x w,ε'.lookup x=some w->ε.lookup x=some w)(hm:μ'.Sublist μ)(h:cAsg C d sc ε' μ' t w ke):cAsg C d sc ε μ t w ke :=
 fun A env F Z s v a b S=>h A env F Z s v a b (S.weaken he hm)
noncomputable def Looks (E ε:Env1):Prop:=∀ x w,E.lookup x=some w->ε.lookup x=some w
section
variable {t:Expr}{body:List Stmt}{items:List V}{β:Type}{f:Nat->β->V}{At:Nat->β->Prop}
noncomputable def frI {α:Type}(E:α->Env1)(M:α->Mem)(S:Nat->α->Prop):Nat->Env1->Mem->Prop:=fun i ε μ=>∃ a,Looks (E a) ε∧μ=M a∧S i a
theorem frX1 {α:Type}(hat:∀ i x,items[i]? = some x->∃ y,x=f i y∧At i y)(E:α->Env1)(M:α->Mem)(S:Nat->α->Prop)(a₀:α)(he:Looks (E a₀) ε)(hm:μ=M a₀)(h0:S 0 a₀)(turn:∀ J:Nat->Env1->Mem->Prop,(∀ i a,S i a->J i (E a) (M a))->∀ i y a,At i y->S i a->kTurn C d sc t body kf J i (f i y) (E a) (M a))(fin:∀ ε' a,Looks (E a) ε'->S items.length a->kf .next ε' (M a)):cFor C d sc ε μ t body items kf :=
 ⟨frI E M S,⟨a₀,he,hm,h0⟩,fun i x ε' μ' hx hI=>hI.elim fun a hI=>(hat i x hx).elim fun y hy=>by
  rw [hI.2.1,hy.1]
  exact cAsg.weak hI.1 (List.Sublist.refl _) (turn (frI E M S) (fun i a h=>⟨a,fun _ _ q=>q,rfl,h⟩) i y a hy.2 hI.2.2),
   fun ε' μ' hI=>hI.elim fun a hI=>by rw [hI.2.1];exact fin ε' a hI.1 hI.2.2⟩
theorem frX3 {α α' α'':Type}(hat:∀ i x,items[i]? = some x->∃ y,x=f i y∧At i y)(E:α->α'->α''->Env1)(M:α->α'->α''->Mem)(S:Nat->α->α'->α''->Prop)(a b c)(he:Looks (E a b c) ε)(hm:μ=M a b c)(h0:S 0 a b c)(turn:∀ J:Nat->Env1->Mem->Prop,(∀ i a b c,S i a b c->J i (E a b c) (M a b c))->∀ i y a b c,At i y->S i a b c->kTurn C d sc t body kf J i (f i y) (E a b c) (M a b c))(fin:∀ ε' a b c,Looks (E a b c) ε'->S items.length a b c->kf .next ε' (M a b c)):cFor C d sc ε μ t body items kf :=
 frX1 hat (fun a:α×α'×α''=>E a.1 a.2.1 a.2.2) (fun a=>M a.1 a.2.1 a.2.2) (fun i a=>S i a.1 a.2.1 a.2.2) (a,b,c) he hm h0 (fun J hJ i y a=>turn J (fun i a b c=>hJ i (a,b,c)) i y a.1 a.2.1 a.2.2) fun ε' a=>fin ε' a.1 a.2.1 a.2.2
theorem forX {J:Nat->Env1->Mem->Prop}(hJ:J (i+1) ε' μ')(hk:Looks ε' ε)(hm:μ'.Sublist μ):forK J i kf .next ε μ:=⟨ε',μ',⟨hk,hm⟩,hJ⟩
theorem whX3 {α α' α'':Type}{test:Expr}(E:α->α'->α''->Env1)(M:α->α'->α''->Mem)(S:Nat->α->α'->α''->Prop)(n:Nat)(a b c)(he:ε=E a b c)(hm:μ=M a b c)(h0:S n a b c)(turn:∀ J:Nat->Env1->Mem->Prop,(∀ i a b c,S i a b c->J i (E a b c) (M a b c))->∀ n a b c,S n a b c->cT C d sc (E a b c) (M a b c) test fun b' μ₂=>(b'=true->cS C d sc (E a b c) μ₂ body (whK J n kf))∧(b'=false->kf .next (E a b c) μ₂)) :
  cS1 C d sc ε μ (.While test body [] pos) kf :=
 cS1_while (fun n ε μ=>∃ a b c,ε=E a b c∧μ=M a b c∧S n a b c) n ⟨a,b,c,he,hm,h0⟩ fun n ε' μ' hI=>hI.elim fun a hI=>hI.elim fun b hI=>hI.elim fun c hI=>by
  rw [hI.1,hI.2.1];exact turn _ (fun i a b c h=>⟨a,b,c,rfl,rfl,h⟩) n a b c hI.2.2
theorem whX {J:Nat->Env1->Mem->Prop}(hmn:m<n)(hJ:J m ε' μ')(hk:Looks ε' ε)(hm:μ'.Sublist μ):whK J n kf .next ε μ:=⟨m,ε',μ',hmn,⟨hk,hm⟩,hJ⟩
end
noncomputable def sW (l:List Str):List W:=l.map fun x=>.v (.str x)
theorem sW_is (l:List Str):sW l=(l.map V.str).map .v:=by unfold sW;rw [List.map_map];rfl
theorem any_str {l:List Str}{w:Str}:((l.map V.str).any fun y=>PyData.eqv (toD y) (toD (.str w)))=decide (w∈l):=by
 rw [List.any_map,show ((fun y=>PyData.eqv (toD y) (toD (.str w)))∘V.str)=fun x=>decide (x=w) from funext fun x=>eqv_str x w,Bool.eq_iff_iff,List.any_eq_true,decide_eq_true_iff];exact ⟨fun ⟨x,hx,e⟩=>(of_decide_eq_true e)▸hx,fun q=>⟨w,q,by simp⟩⟩
theorem four_at {H:Nat->List Str}{a:Nat}(ha:a<4):((List.range 4).map fun a=>V.list ((H a).map .str))[((a:Int)).toNat]? = some (.list ((H a).map .str)):=by
 rw [show ((a:Int)).toNat=a from rfl,List.getElem?_map,List.getElem?_range ha];rfl
theorem l4_at {m:Nat->Addr}{c:Nat}(hc:c<4):[W.l (m 0),.l (m 1),.l (m 2),.l (m 3)][((c:Int)).toNat]? = some (.l (m c)):=by
 have:c=0∨c=1∨c=2∨c=3:=by lia
 rcases this with rfl | rfl | rfl | rfl<;>rfl
noncomputable def StrL (μ:Mem)(w:W)(xs:List Str):Prop:=w=.v (.list (xs.map .str))∨∃ a,w=.l a∧(a,O.list (sW xs))∈μ
noncomputable def PartAt (μ:Mem)(part:W)(P:Nat->List Str):Prop:=part=.v (fourV P)∨∃ (a:Addr) (b:Nat->Addr),part=.l a∧(a,O.list [.l (b 0),.l (b 1),.l (b 2),.l (b 3)])∈μ∧∀ j,j<4->(b j,O.list (sW (P j)))∈μ
section
theorem part_sub {part:W}{P:Nat->List Str}{b:Nat}(hp:PartAt μ part P)(hs:∀ p∈μ,p∈μ')(hb:b<4)(h:∀ w,StrL μ w (P b)->k w μ'):SubOk C μ' part∧cV2 C d μ' part (.v (.int b)) getItem k:=by
 rcases hp with rfl | ⟨a,m,rfl,h1,h2⟩
 ·exact ⟨sub_list,v_item_list (x:=.list ((P b).map .str)) (Int.natCast_nonneg _) (ni_big hb) (four_at hb) (h _ (.inl rfl))⟩
 ·exact ⟨sub_listM (hs _ h1),v_item_listM (x:=.l (m b)) (hs _ h1) (Int.natCast_nonneg _) (ni_big hb) (l4_at hb) (h _ (.inr ⟨_,rfl,h2 b hb⟩))⟩
theorem cIterG.mono {w:W}{items:List W}{G G':Mem->Prop}(h:cIterG C d μ w items G)(hg:∀ m,G' m->G m):cIterG C d μ w items G':=fun A F Z s v hA S hv =>
 wpBot (h A F Z s v hA S hv) fun itv s₂ hq=>hq.casesOn fun it J F₂ o e le₂ S₂ hz hJ hit=>⟨it,J,F₂,o,e,le₂,S₂,hz,hJ,hit.shape,fun i x A s' Q E o' F' Y μ' hh le S' g=>hit.item i x A s' Q E o' F' Y μ' hh le S' (hg _ g),fun i A s' Q E o' F' Y μ' hh le S' g=>hit.done i A s' Q E o' F' Y μ' hh le S' (hg _ g)⟩
theorem it_strL {w:W}{xs:List Str}(h:StrL μ w xs)(hs:∀ p∈μ,p∈μ'):cIterG C d μ' w (sW xs) fun m=>∀ p∈μ,p∈m:=by
 rcases h with rfl | ⟨a,rfl,h⟩
 ·rw [sW_is];exact (cIter.toG it_list).mono fun _ _=>trivial
 ·exact (it_own (hs _ h)).mono fun _ g=>g _ h
theorem cForG_mk {t:Expr}{body:List Stmt}{items:List W}{G:Mem->Prop}(Inv:Nat->Env1->Mem->Prop)(h0:Inv 0 ε μ)(hG:∀ i ε' μ',Inv i ε' μ'->G μ')(turn:∀ J:Nat->Env1->Mem->Prop,(∀ {i ε μ},Inv i ε μ->J i ε μ)->∀ i x ε' μ',items[i]? = some x->Inv i ε' μ'->cAsg C d sc ε' μ' t x fun ε₁ μ₁=>cS C d sc ε₁ μ₁ body (forK J i kf))(fin:∀ ε' μ',Inv items.length ε' μ'->kf .next ε' μ'):cForG C d sc ε μ t body items G kf:=⟨Inv,h0,hG,turn Inv id,fin⟩
end
noncomputable def JM (M:Addr)(m:Nat->Addr)(μ:Mem)(R:Nat->List Str):Mem :=
 (M,.list [.l (m 0),.l (m 1),.l (m 2),.l (m 3)])::(m 3,.list (sW (R 3)))::(m 2,.list (sW (R 2)))::(m 1,.list (sW (R 1)))::(m 0,.list (sW (R 0)))::μ
section
variable {M:Addr}{m:Nat->Addr}{R:Nat->List Str}{c:Nat}{w:Str}
theorem JM.at' (hc:c<4):(m c,O.list (sW (R c)))∈JM M m μ R:=by
 have:c=0∨c=1∨c=2∨c=3:=by lia
 rcases this with rfl | rfl | rfl | rfl
 ·exact .tail _ (.tail _ (.tail _ (.tail _ (.head _))))
 ·exact .tail _ (.tail _ (.tail _ (.head _)))
 ·exact .tail _ (.tail _ (.head _))
 ·exact .tail _ (.head _)
theorem JM.sub:∀ p∈μ,p∈JM M m μ R:=fun p hp=>.tail _ (.tail _ (.tail _ (.tail _ (.tail _ hp))))
theorem JM.upd (hc:c<4):UpdAt (m c) (.list (sW (R c))) (.list (sW (R c)++[.v (.str w)])) (JM M m μ R) (JM M m μ fun x=>if x=c then R x++[w] else R x):=by
 have e:sW (R c)++[W.v (.str w)]=sW (R c++[w]):=by unfold sW;rw [List.map_append];rfl
 rw [e]
 have:c=0∨c=1∨c=2∨c=3:=by lia
 rcases this with rfl | rfl | rfl | rfl
 ·exact .there (.there (.there (.there .here)))
 ·exact .there (.there (.there .here))
 ·exact .there (.there .here)
 ·exact .there .here
theorem JM.fzT (ht:FrzT M (fourV R) μ μ'):Fz C (FrzW M (fourV R)) (JM M m μ R) μ':=by
 have f:Fz C (FrzW (m 3) (.list ((R 3).map .str))) ((M,.list [.l (m 0),.l (m 1),.l (m 2),.l (m 3)])::(m 3,.list (((R 3).map V.str).map .v))::(m 2,.list (((R 2).map V.str).map .v))::(m 1,.list (((R 1).map V.str).map .v))::(m 0,.list (((R 0).map V.str).map .v))::μ)
  ((M,.list [.l (m 0),.l (m 1),.l (m 2),.v (.list ((R 3).map .str))])::(m 2,.list (((R 2).map V.str).map .v))::(m 1,.list (((R 1).map V.str).map .v))::(m 0,.list (((R 0).map V.str).map .v))::μ) :=
  fz_obj (.tail _ (.head _)) (.list (frozen_map _)) (.there .here) (.cons (.list (.cons (.same _) (.cons (.same _) (.cons (.same _) (.cons .put .nil))))) (FrzT.refl _))
 have f2:Fz C (FrzW (m 2) (.list ((R 2).map .str))) ((M,.list [.l (m 0),.l (m 1),.l (m 2),.v (.list ((R 3).map .str))])::(m 2,.list (((R 2).map V.str).map .v))::(m 1,.list (((R 1).map V.str).map .v))::(m 0,.list (((R 0).map V.str).map .v))::μ)
  ((M,.list [.l (m 0),.l (m 1),.v (.list ((R 2).map .str)),.v (.list ((R 3).map .str))])::(m 1,.list (((R 1).map V.str).map .v))::(m 0,.list (((R 0).map V.str).map .v))::μ) :=
  fz_obj (.tail _ (.head _)) (.list (frozen_map _)) (.there .here) (.cons (.list (.cons (.same _) (.cons (.same _) (.cons .put (.cons (.same _) .nil))))) (FrzT.refl _))
 have f1:Fz C (FrzW (m 1) (.list ((R 1).map .str))) ((M,.list [.l (m 0),.l (m 1),.v (.list ((R 2).map .str)),.v (.list ((R 3).map .str))])::(m 1,.list (((R 1).map V.str).map .v))::(m 0,.list (((R 0).map V.str).map .v))::μ)
  ((M,.list [.l (m 0),.v (.list ((R 1).map .str)),.v (.list ((R 2).map .str)),.v (.list ((R 3).map .str))])::(m 0,.list (((R 0).map V.str).map .v))::μ) :=
  fz_obj (.tail _ (.head _)) (.list (frozen_map _)) (.there .here) (.cons (.list (.cons (.same _) (.cons .put (.cons (.same _) (.cons (.same _) .nil))))) (FrzT.refl _))
 have f0:Fz C (FrzW (m 0) (.list ((R 0).map .str))) ((M,.list [.l (m 0),.v (.list ((R 1).map .str)),.v (.list ((R 2).map .str)),.v (.list ((R 3).map .str))])::(m 0,.list (((R 0).map V.str).map .v))::μ)
  ((M,.list [.v (.list ((R 0).map .str)),.v (.list ((R 1).map .str)),.v (.list ((R 2).map .str)),.v (.list ((R 3).map .str))])::μ) :=
  fz_obj (.tail _ (.head _)) (.list (frozen_map _)) (.there .here) (.cons (.list (.cons .put (.cons (.same _) (.cons (.same _) (.cons (.same _) .nil))))) (FrzT.refl _))
 have fM:Fz C (FrzW M (fourV R)) ((M,.list [.v (.list ((R 0).map .str)),.v (.list ((R 1).map .str)),.v (.list ((R 2).map .str)),.v (.list ((R 3).map .str))])::μ) μ' :=
  fz_obj (.head _) (.list rfl) .here ht
 have e:∀ l,sW l=(l.map V.str).map W.v:=sW_is;unfold JM;rw [e,e,e,e];exact ((((f.trans f2).trans f1).trans f0).trans fM).imp fun w w' q=>⟨w,⟨w,⟨w,⟨w,.same _,.same _⟩,.same _⟩,.same _⟩,q⟩
end
theorem sh_words {l:List Str}{a:Nat}(ha:a<4)(h:∀ x∈l,x∈allW a):SeqAt.shaped (toD (.list (l.map .str)))=true:=sh_strs fun x hx=>allW_ok a ha x (h x hx)
@[reducible] noncomputable def jE (M:Addr)(H:Nat->List Str)(part:W):Env1:=[("more",.l M),("heap",.v (fourV H)),("part",part)]
@[reducible] noncomputable def jE1 (a:Nat)(M:Addr)(H:Nat->List Str)(part:W):Env1:=("a",.v (.int a))::jE M H part
@[reducible] noncomputable def jE2 (b a:Nat)(M:Addr)(H:Nat->List Str)(part:W):Env1:=("b",.v (.int b))::jE1 a M H part
@[reducible] noncomputable def jE3 (l:Str)(b a:Nat)(M:Addr)(H:Nat->List Str)(part:W):Env1:=("left",.v (.str l))::jE2 b a M H part
section
variable (h:C.K=Mine.hk.heap_1 C.P)
include h
theorem joined_spec {H P:Nat->List Str}{part:W}(hH:∀ a,a<4->(H a).Nodup∧∀ w∈H a,w∈allW a)(hP:∀ a,a<4->∀ w∈P a,w∈allW a)(hp:PartAt μ part P)(hk:∀ R,JP (fun _ _ _ _=>True) H P R->k (.v (fourV R)) μ):cCall C 6 μ (.ref 374) [.v (fourV H),part] [] k:=by
 refine cCall.fzR ?_;apply cCall_enter [("heap",.v (fourV H)),("part",part)];walk_at "enter"
 case hbind=>walk_at "bind2"
 walk_at "ss";refine cE_listM ?_;walk_at "ss";refine cE_listM ?_;walk_at "ss";refine ⟨by simp,fun m0=>?_⟩;walk_at "ss";refine cE_listM ?_;walk_at "ss";refine ⟨by simp,fun m1=>?_⟩;walk_at "ss";refine cE_listM ?_;walk_at "ss";refine ⟨by simp,fun m2=>?_⟩;walk_at "ss";refine cE_listM ?_;walk_at "ss";refine ⟨by simp,fun m3=>?_⟩;walk_at "ss";refine ⟨by simp,fun M=>?_⟩;refine gen (α:=Nat->Addr) (fun j=>[m0,m1,m2,m3].getD j 0) fun m hm=>?_
 have e0:((M,O.list [W.l m0,.l m1,.l m2,.l m3])::(m3,O.list [])::(m2,O.list [])::(m1,O.list [])::(m0,O.list [])::μ)=JM M m μ fun _=>[]:=by subst hm;rfl
 rw [e0];clear hm e0;walk_at "ss";have hHa:=fun a ha=>(hH a ha).2;refine for_is (it_rng (by decide) (by decide) (by decide) (by decide)) ?_;refine fr101 (at_rng (n:=4)) (fun t ε' μ'=>ε'=jE M H part∧∃ R,μ'=JM M m μ R∧JP (jA t) H P R) (fun _ _ _=>rfl) (⟨rfl,fun _=>[],rfl,jp0⟩) (fun J hJ a _ R ha hR=>?_) (fun R hR=>?_)
 ·walk_at "ss";refine ⟨sub_list,v_item_list (x:=.list ((H a).map .str)) (Int.natCast_nonneg _) (ni_big ha) (four_at ha) ?_⟩;refine cE_listF ?_;walk_at "ss";refine ⟨[],rfl,by simp,?_⟩;refine v_neD (b:=.list (([]:List Str).map .str)) (sh_words ha (hHa a ha)) rfl ?_;rw [eqv_strs];walk_at "ss";refine ⟨fun hb=>?_,fun hb=>?_⟩
  ·walk_at "ss";rw [show (4:Int)-(a:Int)=((4-a:Nat):Int) from (Int.ofNat_sub (Nat.le_of_lt ha)).symm];refine for_is (it_rng (by decide) (by decide) (ni_neg _) (ni_big (Nat.lt_succ_of_le (Nat.sub_le 4 a)))) ?_;refine fr101 (at_rng (n:=4-a)) (fun t ε' μ'=>ε'=jE1 a M H part∧∃ R,μ'=JM M m μ R∧JP (jB a t) H P R) (fun _ _ _=>rfl) (⟨rfl,R,rfl,jAB hR⟩) (fun J2 hJ2 b _ R hb4 hR=>?_) (fun R hR=>?_)
   ·have hab:a+b<4:=Nat.add_lt_of_lt_sub' hb4;have hb3:b<4:=Nat.lt_of_le_of_lt (Nat.le_add_left ..) hab;walk_at "ss";refine ⟨sub_list,v_item_list (x:=.list ((H a).map .str)) (Int.natCast_nonneg _) (ni_big ha) (four_at ha) ?_⟩;refine for_is it_list ?_;refine fr101 at_map (fun t ε' μ'=>ε'=jE2 b a M H part∧∃ R,μ'=JM M m μ R∧JP (jC a b ((H a).take t)) H P R) (fun _ _ _=>rfl) (⟨rfl,R,rfl,jBC hR⟩) (fun J3 hJ3 i l R hl hR=>?_) (fun R hR=>?_)
    ·have hlm:l∈H a:=List.mem_of_getElem? hl
     have htk:(H a).take (i+1)=(H a).take i++[l]:=by rw [List.take_add_one,hl];rfl
     have hl3:l.length≤3:=by rw [str_len,(mem_allW.mp (hHa a ha l hlm)).1];exact Nat.le_of_lt_succ ha
     refine asg_name (by walk_at "kind") ?_;refine cS_cons (cS1_forG (by intros;rfl) ?_);walk_at "ss";refine part_sub hp JM.sub hb3 fun w hw=>?_;refine ⟨_,_,it_strL hw JM.sub,cForG_mk (fun t ε' μ'=>ε'=jE3 l b a M H part∧∃ R,μ'=JM M m μ R∧JP (jD a b l ((H a).take i) ((P b).take t)) H P R) ⟨rfl,R,rfl,jCD hR⟩ (fun i ε' μ' hI=>hI.2.elim fun R hI=>hI.1▸JM.sub) (fun J4 hJ4 j x ε' μ' hx hI=>hI.2.elim fun R hR=>?_) fun ε' μ' hI=>hI.2.elim fun R hR=>?_⟩
     ·have hR':=hR.2;rw [hI.1,hR.1];unfold sW at hx;rw [List.getElem?_map] at hx;refine el12 (Option.map_eq_some_iff.mp hx) fun r hr er=>?_;rw [<-er];have hrm:r∈P b:=List.mem_of_getElem? hr
      have htr:(P b).take (j+1)=(P b).take j++[r]:=by rw [List.take_add_one,hr];rfl
      have hlr:l.length+r.length≤10000:=Nat.le_trans (Nat.add_le_add hl3 (show r.length≤3 by rw [str_len,(mem_allW.mp (hP b hb3 r hrm)).1];exact Nat.le_of_lt_succ hb3)) (by decide);have hRa:=hR'.all hHa hP hab;have hput:=hR'.put hlm hrm;have hok:sOk (l++r)=true:=allW_ok (a+b) hab _ (allW_app (hHa a ha l hlm) (hP b hb3 r hrm));walk_at "ss";refine v_addS hlr ?_;walk_at "ss";rw [<-Int.natCast_add a b];refine ⟨sub_listM (.head _),v_item_listM (x:=.l (m (a+b))) (.head _) (Int.natCast_nonneg _) (ni_big hab) (l4_at hab) ?_⟩;refine v_notInL (x:=.l (m (a+b))) (vs:=(R (a+b)).map .str) (a:=.str (l++r)) (by rw [<-sW_is];exact JM.at' hab) (cl_toDs fun x hx=>sh_str (allW_ok (a+b) hab x (hRa x hx))) (sh_str hok) ?_;rw [any_str];walk_at "ss";refine ⟨fun hb=>?_,fun hb=>?_⟩
      ·have hno:l++r∉R (a+b):=by simpa using hb
       walk_at "ss";rw [<-Int.natCast_add a b];refine ⟨sub_listM (.head _),v_item_listM (x:=.l (m (a+b))) (.head _) (Int.natCast_nonneg _) (ni_big hab) (l4_at hab) ?_⟩;refine m_list (JM.at' hab) PySem.F.slot_list_append rfl ?_;walk_at "ss";refine v_addS hlr ?_;walk_at "ss";refine v_append (JM.upd hab) (by unfold sW;rw [List.length_map];exact ok_of (words_len hab (hR' _ hab).1 hRa)) ?_;walk_at "ss";refine forK_next hJ4 (ε':=jE3 l b a M H part) ⟨rfl,rfl,rfl,rfl,rfl,rfl,trivial⟩ (List.Sublist.refl _) ⟨rfl,_,rfl,by rw [htr];exact jDs (hput.1 hno)⟩
      ·have hin:l++r∈R (a+b):=by simpa using hb
       walk_at "ss";refine forK_next hJ4 (ε':=jE3 l b a M H part) ⟨rfl,rfl,rfl,rfl,rfl,rfl,trivial⟩ (List.Sublist.refl _) ⟨rfl,_,rfl,by rw [htr];exact jDs (hput.2 hin)⟩
     ·have hR':=hR.2;unfold sW at hR';rw [List.length_map,List.take_length] at hR';rw [hI.1,hR.1];walk_at "ss";exact forK_next hJ3 (ε':=jE2 b a M H part) ⟨rfl,rfl,rfl,rfl,rfl,trivial⟩ (List.Sublist.refl _) ⟨rfl,R,rfl,by rw [htk];exact jDC hR'⟩
    ·rw [List.length_map,List.take_length] at hR;walk_at "ss";exact forK_next hJ2 (ε':=jE1 a M H part) ⟨rfl,rfl,rfl,rfl,trivial⟩ (List.Sublist.refl _) ⟨rfl,R,rfl,jCB hR⟩
   ·have erl:(rngV 0 ((4-a:Nat):Int)).length=4-a:=by unfold rngV;rw [List.length_map,List.length_range];exact Int.toNat_natCast (4-a)
    rw [erl] at hR;walk_at "ss";exact forK_next hJ (ε':=jE M H part) ⟨rfl,rfl,rfl,trivial⟩ (List.Sublist.refl _) ⟨rfl,R,rfl,jBA hR⟩
  ·have hnil:H a=[]:=by simpa using hb
   walk_at "ss";exact forK_next hJ (ε':=jE M H part) ⟨rfl,rfl,rfl,trivial⟩ (List.Sublist.refl _) ⟨rfl,R,rfl,jAs hnil hR⟩
 ·walk_at "ss";exact ⟨_,.v (fourV R),μ,JM.fzT (FrzT.refl _),.put,hk R (jAT hR)⟩
end
section
open PySem PySem.Calls
section
theorem cDSet.nod {x y:W}{kk:Mem->Prop}(h:(μ.map (·.1)).Nodup->cDSet C d μ D x y kk):cDSet C d μ D x y kk:=fun A F Z s u v hA S=>h S.nod.1 A F Z s u v hA S
theorem lim_10:10000≤100000:=by decide
abbrev DictO (C:Cx)(d:Nat)(sc₀ sc:Scope)(ε:Env1)(μ₁:Mem)(target kx vx:Expr)(items:List V)(k:PostW):Prop:=∃ (κ:Nat) (Q:Nat->List (Key×W)->Mem->Prop),κ≠2∧Q 0 [] []∧items.length≤10000 ∧
   (∀ i x kvs X D,items[i]? = some x->Q i kvs X->∃ bs,cTgt C sc₀ target (.v x) bs∧cE C d (relS sc₀ sc) (bs++dropN sc₀ ε) (X++(D,.dict kvs)::μ₁) kx fun w m=>∃ key:Key,w=.v key.val∧key.kind=κ ∧
    cE C d (relS sc₀ sc) (bs++dropN sc₀ ε) m vx fun w m'=>(m'.map (·.1)).Nodup->∃ Y,m'=Y++(D,.dict kvs)::μ₁∧Q (i+1) (kput kvs key w) Y) ∧
   ∀ D kvs X,Q items.length kvs X->k (.l D) (X++(D,.dict kvs)::μ₁)
inductive DictI (μ₁:Mem) (κ:Nat) (Q:Nat->List (Key×W)->Mem->Prop) (acc:Addr) (i:Nat) (m:Mem):Prop
 | mk (kvs:List (Key×W)) (X:Mem) (hQ:Q i kvs X) (hk:∀ p∈kvs,p.1.kind=κ) (hl:kvs.length≤i) (e:m=X++(acc,.dict kvs)::μ₁):DictI μ₁ κ Q acc i m
theorem dictO_items {items:List V}(h:DictO C d sc₀ sc ε μ target kx vx items k):cItems C d sc₀ sc ε μ target [] (emitD kx vx) (.dict []) items fun a μ'=>k (.l a) μ':=fun acc=>h.elim fun κ h=>h.elim fun Q h=>by
 refine ⟨DictI μ κ Q acc,⟨[],[],h.2.1,fun _ q=>(nomatch q),Nat.le_refl _,rfl⟩,fun i x μ' hx hI=>hI.casesOn fun kvs X hQ hkd hl e=>el12 (h.2.2.2.1 i x kvs X acc hx hQ) fun bs ht hif=>⟨bs,ht,ifs_nil ⟨fun _=>?_,fun q=>by cases q⟩⟩,fun μ' hI=>hI.casesOn fun kvs X hQ _ _ e=>e▸h.2.2.2.2 acc kvs X hQ⟩;rw [e];refine u_dict (cE.mono hif fun w m hq=>el13 hq fun key ew hkk hv=>?_);rw [ew];refine cE.mono hv fun w m' hq=>cDSet.nod fun hnd=>el12 (hq hnd) fun Y em hQ'=>?_;have hlt:i<items.length:=(List.getElem?_eq_some_iff.mp hx).1;rw [em];exact ds_dict (UpdAt.app .here Y) (fun p hp=>(hkd p hp).trans hkk.symm) (by rw [hkk];exact h.1) (Nat.le_trans (Nat.le_of_lt (Nat.lt_of_le_of_lt hl hlt)) (Nat.le_trans h.2.2.1 lim_10)) ⟨_,Y,hQ',fun p hp=>(mem_kput hp).elim (hkd p) fun q=>q▸hkk,Nat.le_trans kput_len (Nat.succ_le_succ hl),rfl⟩
theorem cE_dictO (hk:sc₀.kind=.function)(hn:decide (sc₀.names.map (·.1)).Nodup=true)(hfree:(sc₀.names.all fun x=>x.2 != .free||(sc.names.lookup x.1 == some .cell||sc.names.lookup x.1 == some .free))=true)(hs:∀ env x,foldedSetIterable iter env x=pure x)(h:cE C d sc ε μ iter fun w μ₁=>∃ P,cIter C d μ₁ w P∧∀ items,P items->DictO C d sc₀ sc ε μ₁ target kx vx items k) :
  cE C d sc ε μ (.DictComp kx vx [⟨target,iter,[],0⟩] sc₀ pos) k :=
 cE_comp (compD_ok hk (of_decide_eq_true hn) hfree hs) (fun env=>rfl) (cE.mono h fun w μ₁ hq=>el12 hq fun P hi hP=>⟨P,hi,fun items hpi=>dictO_items (hP items hpi)⟩)
end
theorem kput_map {f:Str->W}{A:Str}{w:W}(hn:hs.Nodup):kput (hs.map fun B=>(Key.s B,f B)) (.s A) w=(if A∈hs then hs else hs++[A]).map fun B=>(Key.s B,if B=A then w else f B):=by
 induction hs with
 | nil=>simp [kput]
 | cons B hs ih =>
  have h:=List.nodup_cons.mp hn;rw [List.map_cons];unfold kput;by_cases e:B=A
  ·subst e;rw [if_pos rfl,if_pos (.head _),List.map_cons,if_pos rfl]
   congr 1
   exact List.map_congr_left fun x hx=>by rw [if_neg fun q:x=B=>h.1 (q▸hx)]
  ·rw [if_neg fun q:Key.s B=Key.s A=>e (by injection q),ih h.2];by_cases e2:A∈hs
   ·rw [if_pos e2,if_pos (.tail _ e2),List.map_cons,if_neg e]
   ·rw [if_neg e2,if_neg fun q=>(List.mem_cons.mp q).elim (fun q=>e q.symm) e2,List.cons_append,List.map_cons,if_neg e]
structure Made (X:Mem)(hs:List Str)(od:Str->Addr)(bd:Str->Nat->Addr)(L:Str->Nat->List Str):Prop where
 o:∀ A∈hs,(od A,O.list [.l (bd A 0),.l (bd A 1),.l (bd A 2),.l (bd A 3)])∈X
 b:∀ A∈hs,∀ j,j<4->(bd A j,O.list (sW (L A j)))∈X
 inj:∀ A∈hs,∀ B∈hs,∀ i j,i<4->j<4->bd A i=bd B j->A=B∧i=j
theorem nodup_inj {α β:Type}{f:α->β}{l:List α}(hn:(l.map f).Nodup){x y:α}(hx:x∈l)(hy:y∈l)(e:f x=f y):x=y:=by
 induction l with
 | nil=>cases hx
 | cons a l ih =>
  have h:=List.nodup_cons.mp hn;refine (List.mem_cons.mp hx).elim (fun q=>(List.mem_cons.mp hy).elim (fun q'=>q.trans q'.symm) fun q'=>absurd ?_ h.1) fun q=>(List.mem_cons.mp hy).elim (fun q'=>absurd ?_ h.1) fun q'=>ih h.2 q q'
  ·rw [<-q,e];exact List.mem_map_of_mem q'
  ·rw [<-q',<-e];exact List.mem_map_of_mem q
theorem four_mem:∀ i,i<4->i∈[3,2,1,0]:=by decide
theorem four_inj {b:Nat->Addr}(h:([3,2,1,0].map b).Nodup)(hi:i<4)(hj:j<4)(e:b i=b j):i=j:=nodup_inj (f:=b) h (four_mem i hi) (four_mem j hj) e
section
variable {X X':Mem}{od:Str->Addr}{bd:Str->Nat->Addr}{L:Str->Nat->List Str}
theorem sW_ne {r:List W}{l:List Str}:O.list (.l a::r)≠O.list (sW l):=fun q=>by
 injection q with q
 cases l with
 | nil=>cases q
 | cons x l=>unfold sW at q;rw [List.map_cons] at q;injection q with q _;cases q
theorem Made.put {A:Str}{o':Addr}{m:Nat->Addr}(h:Made X hs od bd fun _ _=>[])(hn:((JM o' m X fun _=>[]).map (·.1)).Nodup) :
  Made (JM o' m X fun _=>[]) (if A∈hs then hs else hs++[A]) (fun x=>if x=A then o' else od x) (fun x=>if x=A then m else bd x) fun _ _=>[]:=by
 have hmem:∀ {B},B∈(if A∈hs then hs else hs++[A])->B≠A->B∈hs:=fun {B} hB hne=>by
  by_cases e:A∈hs
  ·rw [if_pos e] at hB;exact hB
  ·rw [if_neg e] at hB;exact (List.mem_append.mp hB).elim id fun q=>absurd (List.mem_singleton.mp q) hne
 have hn:=List.nodup_append.mp (show ([3,2,1,0].map m++X.map (·.1)).Nodup from (List.nodup_cons.mp hn).2);have h4:=hn.1;have hout:∀ i,i<4->∀ z,(m i,z)∉X:=fun i hi z hz=>hn.2.2 (m i) (List.mem_map_of_mem (four_mem i hi)) _ (List.mem_map_of_mem (f:=(·.1)) hz) rfl;refine ⟨fun B hB=>?_,fun B hB j hj=>?_,fun B hB B' hB' i j hi hj e=>?_⟩
 ·show ((if B=A then o' else od B),O.list [.l ((if B=A then m else bd B) 0),.l ((if B=A then m else bd B) 1),.l ((if B=A then m else bd B) 2),.l ((if B=A then m else bd B) 3)])∈_;by_cases e:B=A
  ·rw [if_pos e,if_pos e];exact .head _
  ·rw [if_neg e,if_neg e];exact JM.sub _ (h.o B (hmem hB e))
 ·show ((if B=A then m else bd B) j,_)∈_;by_cases e:B=A
  ·rw [if_pos e];exact JM.at' (R:=fun _=>[]) hj
  ·rw [if_neg e];exact JM.sub _ (h.b B (hmem hB e) j hj)
 ·have e:(if B=A then m else bd B) i=(if B'=A then m else bd B') j:=e;by_cases e1:B=A
  ·by_cases e2:B'=A
   ·rw [if_pos e1,if_pos e2] at e;exact ⟨e1.trans e2.symm,four_inj h4 hi hj e⟩
   ·rw [if_pos e1,if_neg e2] at e;exact absurd (e▸h.b B' (hmem hB' e2) j hj) (hout i hi _)
  ·by_cases e2:B'=A
   ·rw [if_neg e1,if_pos e2] at e;exact absurd (e▸h.b B (hmem hB e1) i hi) (hout j hj _)
   ·rw [if_neg e1,if_neg e2] at e;exact h.inj B (hmem hB e1) B' (hmem hB' e2) i j hi hj e
theorem Made.upd {A:Str}{w:Str}(h:Made X hs od bd L)(hA:A∈hs)(hj:j<4)(hU:UpdAt (bd A j) (.list (sW (L A j))) (.list (sW (L A j)++[.v (.str w)])) X X') :
  Made X' hs od bd fun B i=>if B=A∧i=j then L B i++[w] else L B i:=by
 refine ⟨fun B hB=>?_,fun B hB i hi=>?_,h.inj⟩
 ·rcases hU.carry (h.o B hB) with q | ⟨_,q,_⟩
  ·exact q
  ·exact absurd q sW_ne
 ·show (bd B i,O.list (sW (if B=A∧i=j then L B i++[w] else L B i)))∈X';by_cases e:B=A∧i=j
  ·obtain ⟨rfl,rfl⟩:=e;rw [if_pos ⟨rfl,rfl⟩];have:=hU.mem'
   have e:sW (L B i)++[W.v (.str w)]=sW (L B i++[w]):=by unfold sW;rw [List.map_append];rfl
   rw [e] at this;exact this
  ·rw [if_neg e]
   rcases hU.carry (h.b B hB i hi) with q | ⟨q,_,_⟩
   ·exact q
   ·exact absurd (h.inj B hB A hA i j hi hj q) e
end
section
noncomputable def mblk (od:Str->Addr)(bd:Str->Nat->Addr)(L:Str->Nat->List Str)(A:Str):Mem:=JM (od A) (bd A) [] (L A)
section
variable {X:Mem}{od:Str->Addr}{bd:Str->Nat->Addr}{L:Str->Nat->List Str}
theorem blk_mem (h:Made X hs od bd L){A:Str}(hA:A∈hs):∀ p∈mblk od bd L A,p∈X:=fun p hp=>by
 unfold mblk JM at hp;simp only [List.mem_cons,List.not_mem_nil,or_false] at hp
 rcases hp with rfl | rfl | rfl | rfl | rfl
 ·exact h.o A hA
 ·exact h.b A hA 3 (by decide)
 ·exact h.b A hA 2 (by decide)
 ·exact h.b A hA 1 (by decide)
 ·exact h.b A hA 0 (by decide)
theorem blk_names {A:Str}{x:Addr}(h:x∈(mblk od bd L A).map (·.1)):x=od A∨∃ j,j<4∧x=bd A j:=by
 unfold mblk JM at h;simp only [List.map_cons,List.map_nil,List.mem_cons,List.not_mem_nil,or_false] at h
 rcases h with rfl | rfl | rfl | rfl | rfl
 ·exact .inl rfl
 ·exact .inr ⟨3,by decide,rfl⟩
 ·exact .inr ⟨2,by decide,rfl⟩
 ·exact .inr ⟨1,by decide,rfl⟩
 ·exact .inr ⟨0,by decide,rfl⟩
theorem Made.ob (h:Made X hs od bd L)(hn:(X.map (·.1)).Nodup){A B:Str}(hA:A∈hs)(hB:B∈hs)(hj:j<4):od A≠bd B j:=fun q=>by
 have h1:=h.o A hA;rw [q] at h1;exact sW_ne (nod_eq hn h1 (h.b B hB j hj))
theorem Made.oo (h:Made X hs od bd L)(hn:(X.map (·.1)).Nodup){A B:Str}(hA:A∈hs)(hB:B∈hs)(q:od A=od B):A=B:=by
 have h1:=h.o A hA;rw [q] at h1;have e:=nod_eq hn h1 (h.o B hB);injection e with e;injection e with e _;injection e with e;exact (h.inj A hA B hB 0 0 (by decide) (by decide) e).1
theorem blk_one (h:Made X hs od bd L)(hn:(X.map (·.1)).Nodup){A:Str}(hA:A∈hs):((mblk od bd L A).map (·.1)).Nodup:=by
 refine List.nodup_cons.mpr ⟨fun q=>(List.mem_map.mp (show od A∈[3,2,1,0].map (bd A) from q)).elim fun j hj=>h.ob hn hA hA (j:=j) ((by decide:∀ j∈[3,2,1,0],j<4) j hj.1) hj.2.symm,?_⟩;show ([3,2,1,0].map (bd A)).Nodup;exact List.pairwise_map.mpr (List.Pairwise.imp_of_mem (R:=(·≠·)) (fun {i j} hi hj hij q=>hij (h.inj A hA A hA i j ((by decide:∀ j∈[3,2,1,0],j<4) i hi) ((by decide:∀ j∈[3,2,1,0],j<4) j hj) q).2) (by decide))
theorem blks_nodup (h:Made X hs od bd L)(hn:(X.map (·.1)).Nodup){l:List Str}(hl:l.Nodup)(hs':∀ A∈l,A∈hs):((l.flatMap (mblk od bd L)).map (·.1)).Nodup:=by
 induction l with
 | nil=>exact .nil
 | cons A l ih =>
  have hl:=List.nodup_cons.mp hl;have hA:=hs' A (.head _);rw [List.flatMap_cons,List.map_append];refine List.nodup_append.mpr ⟨blk_one h hn hA,ih hl.2 fun B hB=>hs' B (.tail _ hB),fun x hx y hy e=>(List.mem_map.mp hy).elim fun p hp=>(List.mem_flatMap.mp hp.1).elim fun B hB=>?_⟩;have hB':=hs' B (.tail _ hB.1);have hne:A≠B:=fun q=>hl.1 (q▸hB.1);have hy:=blk_names (List.mem_map_of_mem (f:=(·.1)) hB.2);rw [hp.2,<-e] at hy;refine (blk_names hx).elim (fun e1=>hy.elim (fun e2=>hne (h.oo hn hA hB' (e1.symm.trans e2))) fun q=>el12 q fun j hj e2=>h.ob hn hA hB' hj (e1.symm.trans e2)) fun q=>el12 q fun i hi e1=>hy.elim (fun e2=>h.ob hn hB' hA hi (e2.symm.trans e1)) fun q=>el12 q fun j hj e2=>hne (h.inj A hA B hB' i j hi hj (e1.symm.trans e2)).1
theorem fz_dict {l:List Str}{A:Str}:FrzT (od A) (fourV (L A)) ((D,.dict (dom.map fun B=>(Key.s B,if B∈A::l then W.l (od B) else W.v (fourV (L B)))))::μ) ((D,.dict (dom.map fun B=>(Key.s B,if B∈l then W.l (od B) else W.v (fourV (L B)))))::μ):=by
 refine .cons (.dict ?_) (FrzT.refl _)
 induction dom with
 | nil=>exact .nil
 | cons x dom ih =>
  refine .cons ?_ ih;by_cases e1:x∈l
  ·rw [if_pos e1,if_pos (.tail _ e1)];exact .same _
  ·rw [if_neg e1];by_cases e2:x=A
   ·rw [e2,if_pos (.head _)];exact .put
   ·rw [if_neg fun q=>(List.mem_cons.mp q).elim e2 e1];exact .same _
theorem fz_blks (l:List Str):Fz C (fun w w'=>w=w') (l.flatMap (mblk od bd L)++(D,.dict (dom.map fun A=>(Key.s A,if A∈l then W.l (od A) else W.v (fourV (L A)))))::μ) ((D,.dict (dom.map fun A=>(Key.s A,W.v (fourV (L A)))))::μ):=by
 induction l with
 | nil=>simpa using Fz.refl
 | cons A l ih =>
  refine Fz.imp (Fz.trans (μ':=l.flatMap (mblk od bd L)++(D,.dict (dom.map fun B=>(Key.s B,if B∈l then W.l (od B) else W.v (fourV (L B)))))::μ) (ρ:=FrzW (od A) (fourV (L A))) ?_ ih) fun w w' q=>⟨w,.same _,q⟩;rw [List.flatMap_cons,List.append_assoc];exact JM.fzT (R:=L A) (m:=bd A) (M:=od A) (FrzT.append (x:=l.flatMap (mblk od bd L)) (y:=l.flatMap (mblk od bd L)) (FrzT.refl _) fz_dict)
noncomputable def toldV (hs:List Str)(L:Str->Nat->List Str):V:=.dict (hs.map fun A=>(Key.s A,fourV (L A)))
theorem fz_made (h:Made X hs od bd L)(hd:hs.Nodup):Fz C (FrzW D (toldV hs L)) (X++(D,.dict (hs.map fun A=>(Key.s A,W.l (od A))))::μ) μ:=by
 have f1:Fz C (fun w w'=>w=w') (X++(D,.dict (hs.map fun A=>(Key.s A,W.l (od A))))::μ) (hs.flatMap (mblk od bd L)++(D,.dict (hs.map fun A=>(Key.s A,if A∈hs then W.l (od A) else W.v (fourV (L A)))))::μ):=by
  have e:(hs.map fun A=>(Key.s A,if A∈hs then W.l (od A) else W.v (fourV (L A))))=hs.map fun A=>(Key.s A,W.l (od A)):=List.map_congr_left fun A hA=>by rw [if_pos hA]
  rw [e]
  have hm:∀ p∈hs.flatMap (mblk od bd L),p∈X:=fun p hp=>by
   obtain ⟨A,hA,hp⟩:=List.mem_flatMap.mp hp;exact blk_mem h hA p hp
  refine Fz.pick (fun p hp=>?_) fun hn=>?_
  ·rcases List.mem_append.mp hp with q | q
   ·exact List.mem_append_left _ (hm p q)
   ·exact List.mem_append_right _ q
  ·rw [List.map_append] at hn ⊢;obtain ⟨n1,n2,n3⟩:=List.nodup_append.mp hn;refine List.nodup_append.mpr ⟨blks_nodup h n1 hd fun _ q=>q,n2,fun x hx y hy=>n3 x ?_ y hy⟩;obtain ⟨p,hp,rfl⟩:=List.mem_map.mp hx;exact List.mem_map_of_mem (hm p hp)
 have f3:Fz C (FrzW D (toldV hs L)) ((D,.dict (hs.map fun A=>(Key.s A,W.v (fourV (L A)))))::μ) μ:=by
  refine fz_obj (.head _) (.dict ?_) .here (FrzT.refl _);have:=frozenD_map (hs.map fun A=>(Key.s A,fourV (L A)));rw [List.map_map] at this;exact this
 exact ((f1.trans (fz_blks hs)).trans f3).imp fun w w' q=>⟨w,⟨w,rfl,rfl⟩,q⟩
end
end
section
open Classical
noncomputable def srt (l:List Str):List Str:=if h:∃ R:List Str,R.Perm l∧StrSorted R then h.choose else l
theorem srt_is {l R:List Str}(hp:R.Perm l)(hs:StrSorted R):srt l=R:=by
 have h:∃ R:List Str,R.Perm l∧StrSorted R:=⟨R,hp,hs⟩;unfold srt;rw [dif_pos h];exact (h.choose_spec.1.trans hp.symm).eq_of_pairwise (le:=fun a b:Str=>¬ b.cps.toList<a.cps.toList) (fun a b _ _=>str_antisymm) h.choose_spec.2 hs
end
noncomputable def strOf (v:V):Str:=match v with
 | .str x=>x
 | _=>⟨#[]⟩
noncomputable def srtV (v:V):V:=match v with
 | .list vs=>.list ((srt (vs.map strOf)).map .str)
 | v=>v
theorem srtV_is (l:List Str):srtV (.list (l.map .str))=.list ((srt l).map .str):=by
 show V.list ((srt ((l.map V.str).map strOf)).map .str)=_;rw [List.map_map,show strOf∘V.str=id from rfl,List.map_id]
noncomputable def total (hs:List Str)(L:Str->Nat->List Str):Nat:=(hs.map fun A=>(L A 0).length+(L A 1).length+(L A 2).length+(L A 3).length).sum
structure Snd (rs:List Rw)(hs:List Str)(L:Str->Nat->List Str):Prop where
 w:∀ A j,∀ w∈L A j,j<4∧w∈allW j∧Lg rs A (wd w)
 nd:∀ A j,(L A j).Nodup
 out:∀ A,A∉hs->∀ j,L A j=[]
theorem total_le {L:Str->Nat->List Str}(h:Snd rs hs L):total hs L≤32*hs.length:=by
 have:∀ l:List Str,total l L≤32*l.length:=fun l=>by
  induction l with
  | nil=>exact Nat.le_refl _
  | cons A l ih =>
   have q:∀ j,j<4->(L A j).length≤8:=fun j hj=>words_len hj (h.nd A j) fun x hx=>(h.w A j x hx).2.1;show (List.map _ (A::l)).sum≤_;rw [List.map_cons,List.sum_cons,List.length_cons,Nat.mul_succ,Nat.add_comm];exact Nat.add_le_add ih (Nat.add_le_add (Nat.add_le_add (Nat.add_le_add (q 0 (by decide)) (q 1 (by decide))) (q 2 (by decide))) (q 3 (by decide)))
 exact this hs
theorem sum_le {α:Type}{f g:α->Nat}{l:List α}(h:∀ x,f x≤g x):(l.map f).sum≤(l.map g).sum:=by
 induction l with
 | nil=>exact Nat.le_refl _
 | cons x l ih=>rw [List.map_cons,List.sum_cons,List.map_cons,List.sum_cons];exact Nat.add_le_add (h x) ih
theorem sum_lt {α:Type}{f g:α->Nat}{l:List α}{a:α}(h:∀ x,f x≤g x)(ha:a∈l)(hl:f a<g a):(l.map f).sum<(l.map g).sum:=by
 induction ha with
 | head l=>rw [List.map_cons,List.sum_cons,List.map_cons,List.sum_cons];exact Nat.add_lt_add_of_lt_of_le hl (sum_le h)
 | tail x _ ih=>rw [List.map_cons,List.sum_cons,List.map_cons,List.sum_cons];exact Nat.add_lt_add_of_le_of_lt (h x) ih
theorem total_add {L:Str->Nat->List Str}{A:Str}{w:Str}(hA:A∈hs)(hj:j<4):total hs L<total hs fun B i=>if B=A∧i=j then L B i++[w] else L B i:=by
 have le:∀ B i,(L B i).length≤(if B=A∧i=j then L B i++[w] else L B i).length:=fun B i=>by
  by_cases e:B=A∧i=j
  ·rw [if_pos e,List.length_append];exact Nat.le_add_right ..
  ·rw [if_neg e];exact Nat.le_refl _
 have lt:(L A j).length<(if A=A∧j=j then L A j++[w] else L A j).length:=by rw [if_pos ⟨rfl,rfl⟩,List.length_append];exact Nat.lt_succ_self _
 refine sum_lt (fun B=>Nat.add_le_add (Nat.add_le_add (Nat.add_le_add (le B 0) (le B 1)) (le B 2)) (le B 3)) hA ?_;have h4:=four_mem j hj;simp only [List.mem_cons,List.not_mem_nil,or_false] at h4
 rcases h4 with e | e | e | e<;>rw [e] at le lt ⊢
 ·exact Nat.add_lt_add_of_le_of_lt (Nat.add_le_add (Nat.add_le_add (le A 0) (le A 1)) (le A 2)) lt
 ·exact Nat.add_lt_add_of_lt_of_le (Nat.add_lt_add_of_le_of_lt (Nat.add_le_add (le A 0) (le A 1)) lt) (le A 3)
 ·exact Nat.add_lt_add_of_lt_of_le (Nat.add_lt_add_of_lt_of_le (Nat.add_lt_add_of_le_of_lt (le A 0) lt) (le A 2)) (le A 3)
 ·exact Nat.add_lt_add_of_lt_of_le (Nat.add_lt_add_of_lt_of_le (Nat.add_lt_add_of_lt_of_le lt (le A 1)) (le A 2)) (le A 3)
theorem Snd.add {L:Str->Nat->List Str}(h:Snd rs hs L){A:Str}{w:Str}(hA:A∈hs)(hj:j<4)(hw:w∈allW j)(hl:Lg rs A (wd w))(hno:w∉L A j):Snd rs hs fun B i=>if B=A∧i=j then L B i++[w] else L B i:=by
 refine ⟨fun B i x hx=>?_,fun B i=>?_,fun B hB i=>?_⟩
 ·have hx:x∈(if B=A∧i=j then L B i++[w] else L B i):=hx;by_cases e:B=A∧i=j
  ·rw [if_pos e] at hx;refine (List.mem_append.mp hx).elim (h.w B i x) fun q=>?_;rw [List.mem_singleton.mp q,e.1,e.2];exact ⟨hj,hw,hl⟩
  ·rw [if_neg e] at hx;exact h.w B i x hx
 ·show (if B=A∧i=j then L B i++[w] else L B i).Nodup;by_cases e:B=A∧i=j
  ·rw [if_pos e,e.1,e.2];exact List.nodup_append.mpr ⟨h.nd A j,List.pairwise_singleton _ _,fun x hx y hy e=>hno (by rw [<-List.mem_singleton.mp hy,<-e];exact hx)⟩
  ·rw [if_neg e];exact h.nd B i
 ·show (if B=A∧i=j then L B i++[w] else L B i)=[];rw [if_neg (fun q:B=A∧i=j=>hB (q.1▸hA))];exact h.out B hB i
noncomputable def Shut (L:Str->Nat->List Str)(p:Rw):Prop:=∀ u:List Nat,u.length<4->Sem (rdL L) p.2 u->rdL L p.1 u
noncomputable def TxtXY (rs:List Rw):Prop:=∀ p∈rs,∀ t,It.T t∈p.2->t=sx∨t=sy
theorem snd_sem {L:Str->Nat->List Str}(h:Snd rs hs L){b:List It}{u:List Nat}(q:Sem (rdL L) b u):Sem (Lg rs) b u :=
 sem_mono (fun i _ v x=>semI_mono (fun A v y=>by have:=(h.w A v.length (sw v) y).2.2;rwa [wd_sw] at this) x) q
theorem sem_xy {L:Str->Nat->List Str}(h:Snd rs hs L){b:List It}(ht:∀ t,It.T t∈b->t=sx∨t=sy):∀ {u:List Nat},Sem (rdL L) b u->∀ c∈u,c=120∨c=121:=by
 induction b with
 | nil=>intro u q;rw [sem_nil.mp q];simp
 | cons i r ih =>
  intro u hq c hc;refine el23 (sem_cons.mp hq) fun x y e h1 h2=>?_;rw [e] at hc;refine (List.mem_append.mp hc).elim (fun q=>?_) (ih (fun t ht'=>ht t (.tail _ ht')) h2 c)
  cases i with
  | N B=>exact (mem_allW.mp (h.w B _ _ h1).2.1).2 c q
  | T t =>
   rw [show x=wd t from h1] at q
   exact (ht t (.head _)).imp (fun e=>by rw [e,show wd sx=[120] by decide +kernel] at q;exact List.mem_singleton.mp q) fun e=>by rw [e,show wd sy=[121] by decide +kernel] at q;exact List.mem_singleton.mp q
theorem lang_of {L:Str->Nat->List Str}(h:Snd rs hs L)(hc:∀ p∈rs,Shut L p){A:Str}(hj:j<4):srt (L A j)=lang rs A j∧(L A j).Perm (lang rs A j):=by
 have hm:∀ w,w∈L A j↔w∈allW j∧Lg rs A (wd w):=fun w=>by
  constructor
  ·intro q;exact (h.w A j w q).2
  ·rintro ⟨q1,q2⟩;have e:=(mem_allW.mp q1).1;have:=lg_full (L:=L) (fun A b hm u hu hs=>hc (A,b) hm u hu hs) q2 (by rw [e];exact hj);unfold rdL at this;rw [sw_wd,e] at this;exact this
 have hp:(L A j).Perm (lang rs A j):=perm_of_mem (h.nd A j) ((allW_nd j hj).filter _) fun w=>by rw [hm w,mem_lang]
 exact ⟨srt_is hp.symm ((allW_sorted j hj).filter _),hp⟩
end
noncomputable def kvM (hs:List Str)(od:Str->Addr):List (Key×W):=hs.map fun A=>(Key.s A,W.l (od A))
theorem kvM_kind {od:Str->Addr}:∀ p∈kvM hs od,p.1.kind=0:=fun p hp=>by obtain ⟨A,_,rfl⟩:=List.mem_map.mp hp;rfl
theorem kvM_mem {od:Str->Addr}{A:Str}(h:A∈hs):(Key.s A,W.l (od A))∈kvM hs od:=List.mem_map_of_mem (f:=fun A=>(Key.s A,W.l (od A))) h
noncomputable def MM (X:Mem)(D:Addr)(hs:List Str)(od:Str->Addr)(μ:Mem):Mem:=X++(D,.dict (kvM hs od))::μ
section
variable {X X':Mem}{od:Str->Addr}
theorem MM.dd:(D,O.dict (kvM hs od))∈MM X D hs od μ:=List.mem_append_right _ (.head _)
theorem MM.xx {p:Addr×O}(h:p∈X):p∈MM X D hs od μ:=List.mem_append_left _ h
theorem MM.uu {x y:O}(h:UpdAt a x y X X'):UpdAt a x y (MM X D hs od μ) (MM X' D hs od μ):=h.inApp _
end
@[reducible] noncomputable def wE (D:Addr)(rs:List Rw)(g:Bool):Env1:=[("grown",.v (.bool g)),("made",.l D),("rows",.v (.list (rs.map rwV)))]
@[reducible] noncomputable def wF (D:Addr)(rs:List Rw)(g:Bool)(p:Rw)(H:Nat->List Str):Env1:=("heap",.v (fourV H))::("body",.v (.list (p.2.map itR)))::("head",.v (.str p.1))::wE D rs g
theorem get_part {X:Mem}{od:Str->Addr}{bd:Str->Nat->Addr}{L:Str->Nat->List Str}{B:Str}(hM:Made X hs od bd L)(hS:Snd rs hs L)(hk:∀ w,PartAt (MM X D hs od μ) w (L B)->k w (MM X D hs od μ)):cCall C d (MM X D hs od μ) (.builtin "dict.get") [.l D,.v (.str B),.v (.list [.list [],.list [],.list [],.list []])] [] k:=by
 refine c_getD (key:=.s B) (kvs:=kvM hs od) MM.dd kvM_kind (by show (0:Nat)≠2;decide) (fun hn=>hk _ (.inl ?_)) fun u hu=>?_
 ·have:B∉hs:=fun q=>hn (List.mem_map_of_mem (f:=(·.1)) (kvM_mem q));have e:L B=fun _=>[]:=funext fun j=>hS.out B this j;rw [e];rfl
 ·obtain ⟨A,hA,e⟩:=List.mem_map.mp hu;injection e with e1 e2;injection e1 with e1;subst e1;subst e2;exact hk _ (.inr ⟨_,bd A,rfl,MM.xx (hM.o A hA),fun j hj=>MM.xx (hM.b A hA j hj)⟩)
section
variable (h:C.K=Mine.hk.heap_1 C.P)
include h
theorem words_spec {Un:List Str}(hxy:TxtXY rs)(hz:rs.length≤2000)(hb:∀ p∈rs,p.2.length≤10)(hUn:∀ p∈rs,p.1∈Un)(hUl:Un.length<900)(hk:∀ hs,DomOk rs hs->k (.v (toldV hs (lang rs))) μ):cCall C 9 μ (.ref 379) [.v (.list (rs.map rwV))] [] k:=by
 apply cCall_enter [("rows",.v (.list (rs.map rwV)))];walk_at "enter"
 case hbind=>walk_at "bind1"
 walk_at "ss";refine cE_dictO rfl (by kernel_rfl) rfl (by intros;rfl) ?_;walk_at "ss";refine ⟨_,it_list,fun items e=>⟨0,fun i kvs X=>∃ hs od bd,DomOk (rs.take i) hs∧kvs=kvM hs od∧Made X hs od bd (fun _ _=>[]),by decide,⟨[],fun _=>0,fun _ _=>0,⟨.nil,by simp⟩,rfl,⟨by simp,by simp,by simp⟩⟩,by subst e;rw [List.length_map];lia,fun i x kvs X D hx hQ=>?_,fun D kvs X hQ=>?_⟩⟩
 ·subst e;rw [List.getElem?_map] at hx;obtain ⟨p,hp,rfl⟩:=Option.map_eq_some_iff.mp hx;obtain ⟨hs,od,bd,hD,rfl,hM⟩:=hQ
  have htk:rs.take (i+1)=rs.take i++[p]:=by rw [List.take_add_one,hp];rfl
  refine ⟨_,tgt_tup2 (by walk_at "kind") (by walk_at "kind"),?_⟩;walk_at "ss";refine ⟨.s p.1,rfl,rfl,?_⟩;walk_at "ss";refine cE_listM ?_;walk_at "ss";refine cE_listM ?_;walk_at "ss";refine ⟨by simp,fun m0=>?_⟩;walk_at "ss";refine cE_listM ?_;walk_at "ss";refine ⟨by simp,fun m1=>?_⟩;walk_at "ss";refine cE_listM ?_;walk_at "ss";refine ⟨by simp,fun m2=>?_⟩;walk_at "ss";refine cE_listM ?_;walk_at "ss";refine ⟨by simp,fun m3=>?_⟩;walk_at "ss";refine ⟨by simp,fun M hn=>?_⟩
  have hnJ:((JM M (fun j=>[m0,m1,m2,m3].getD j 0) X fun _=>[]).map (·.1)).Nodup:=by
   have e:((M,O.list [W.l m0,.l m1,.l m2,.l m3])::(m3,O.list [])::(m2,O.list [])::(m1,O.list [])::(m0,O.list [])::(X++(D,O.dict (kvM hs od))::μ))=(JM M (fun j=>[m0,m1,m2,m3].getD j 0) X fun _=>[])++(D,O.dict (kvM hs od))::μ:=rfl;rw [e,List.map_append] at hn;exact (List.nodup_append.mp hn).1
  refine ⟨JM M (fun j=>[m0,m1,m2,m3].getD j 0) X fun _=>[],rfl,if p.1∈hs then hs else hs++[p.1],fun x=>if x=p.1 then M else od x,_,?_,?_,hM.put hnJ⟩
  ·refine ⟨?_,fun A=>?_⟩
   ·by_cases e:p.1∈hs
    ·rw [if_pos e];exact hD.nd
    ·rw [if_neg e];exact List.nodup_append.mpr ⟨hD.nd,List.pairwise_singleton _ _,fun x hx y hy e'=>e (by rw [List.mem_singleton.mp hy] at e';exact e'▸hx)⟩
   ·rw [htk];have hA:=hD.dm A;by_cases e:p.1∈hs
    ·rw [if_pos e,hA];constructor
     ·rintro ⟨q,hq,e'⟩;exact ⟨q,List.mem_append_left _ hq,e'⟩
     ·rintro ⟨q,hq,e'⟩
      rcases List.mem_append.mp hq with w | w
      ·exact ⟨q,w,e'⟩
      ·rw [List.mem_singleton.mp w] at e';exact hA.mp (e'▸e)
    ·rw [if_neg e,List.mem_append,List.mem_singleton,hA];constructor
     ·rintro (⟨q,hq,e'⟩ | rfl)
      ·exact ⟨q,List.mem_append_left _ hq,e'⟩
      ·exact ⟨p,by simp,rfl⟩
     ·rintro ⟨q,hq,e'⟩
      rcases List.mem_append.mp hq with w | w
      ·exact .inl ⟨q,w,e'⟩
      ·rw [List.mem_singleton.mp w] at e';exact .inr e'.symm
  ·unfold kvM;rw [kput_map hD.nd]
   exact List.map_congr_left fun B _=>by by_cases e:B=p.1<;>simp [e]
 subst e;obtain ⟨hs,od,bd,hD,rfl,hM⟩:=hQ;rw [List.length_map,List.take_length] at hD
 have hhl:hs.length<900:=by
  have:=List.Nodup.length_le_of_subset hD.nd (l₂:=Un) fun A hA=>by obtain ⟨p,hp,rfl⟩:=(hD.dm A).mp hA;exact hUn p hp
  lia
 rw [show (X++(D,O.dict (kvM hs od))::μ)=MM X D hs od μ from rfl];walk_at "ss";refine whX3 (fun g _ _=>wE D rs g) (fun _ _ X=>MM X D hs od μ) (fun n g L X=>Made X hs od bd L∧Snd rs hs L∧(g=true->total hs L+n=32*hs.length+1)∧(g=false->∀ p∈rs,Shut L p)) (32*hs.length+1) true (fun _ _=>[]) X rfl rfl ⟨hM,⟨by simp,fun _ _=>.nil,fun _ _ _=>rfl⟩,fun _=>?_,fun q=>nomatch q⟩ fun Jw hJw n g L X hI=>?_
 ·have:∀ l:List Str,total l (fun _ _=>[])=0:=fun l=>by
   unfold total
   induction l with
   | nil=>rfl
   | cons x l ih=>rw [List.map_cons,List.sum_cons,ih];rfl
  rw [this];exact Nat.zero_add _
 have hM:=hI.1;have hS:=hI.2.1;have hn:=hI.2.2.1;have hsh:=hI.2.2.2;refine cT_valK ?_ (by intros;rfl);walk_at "ss";refine truthy_bool' ⟨fun hg=>?_,fun hg=>?_⟩
 ·have hn:=hn hg;walk_at "ss";refine for_is it_list ?_;refine frX3 at_map (fun g _ _=>wE D rs g) (fun _ _ X'=>MM X' D hs od μ) (fun t g L' X'=>Made X' hs od bd L'∧Snd rs hs L'∧(g=true->total hs L<total hs L')∧(g=false->L'=L∧∀ p∈rs.take t,Shut L p)) false L X (look_sub ⟨rfl,rfl,rfl,trivial⟩) rfl ⟨hM,hS,(fun q=>nomatch q),fun _=>⟨rfl,by simp⟩⟩ (fun J hJ t p g L' X' hp hI'=>?_) (fun ε' g L' X' hlook hI'=>?_)
  ·have hM':=hI'.1;have hS':=hI'.2.1;have hg1:=hI'.2.2.1;have hg0:=hI'.2.2.2;have hpm:=List.mem_of_getElem? hp;have hA:p.1∈hs:=(hD.dm p.1).mpr ⟨p,hpm,rfl⟩
   have htk:rs.take (t+1)=rs.take t++[p]:=by rw [List.take_add_one,hp];rfl
   have hb10:=hb p hpm;have hxyp:=hxy p hpm;refine asg_tup2 (by walk_at "kind") (by walk_at "kind") ?_;walk_at "ss";refine cE_listF ?_;walk_at "ss";refine cE_listF ?_;walk_at "ss";refine ⟨_,rfl,by simp,?_⟩;walk_at "ss";refine cE_listF ?_;walk_at "ss";refine ⟨_,rfl,by simp,?_⟩;walk_at "ss";refine cE_listF ?_;walk_at "ss";refine ⟨_,rfl,by simp,?_⟩;walk_at "ss";refine cE_listF ?_;walk_at "ss";refine ⟨_,rfl,by simp,?_⟩;walk_at "ss";refine ⟨_,rfl,by simp,?_⟩;walk_at "ss";refine for_is it_list ?_;refine frX1 at_map (fun H=>wF D rs g p H) (fun _=>MM X' D hs od μ) (fun i H=>HeapIs L' (p.2.take i) H) (fun a=>if a=0 then [sw []] else []) ?_ rfl heap_nil (fun J2 hJ2 i i0 H hi0 hH=>?_) (fun ε' H hlook hH=>?_)
   ·rw [show Str.ofString "" = sw [] from by decide +kernel];exact look_sub ⟨rfl,rfl,rfl,rfl,rfl,rfl,trivial⟩
   ·have hbk:p.2.take (i+1)=p.2.take i++[i0]:=by rw [List.take_add_one,hi0];rfl
    have him:=List.mem_of_getElem? hi0;have hxyb:∀ t,It.T t∈p.2.take i->t=sx∨t=sy:=fun t ht=>hxyp t (List.mem_of_mem_take ht)
    have hHa:∀ a,a<4->(H a).Nodup∧∀ w∈H a,w∈allW a:=fun a ha=>⟨(hH a ha).1,fun w hw=>by
     obtain ⟨e1,e2⟩:=((hH a ha).2 w).mp hw
     exact mem_allW.mpr ⟨e1,sem_xy hS' hxyb e2⟩⟩
    have hpa:∀ a,a<4->∀ w∈partOf L' i0 a,w∈allW a:=fun a ha w hw=>by
     cases i0 with
     | N B=>exact (hS'.w B a w hw).2.1
     | T x =>
      have hw:w∈(if a=1 then [x] else []):=hw;by_cases e:a=1
      ·rw [if_pos e] at hw;rw [List.mem_singleton.mp hw,e]
       rcases hxyp x him with rfl | rfl<;>decide +kernel
      ·rw [if_neg e] at hw;cases hw
    have hstep:∀ R,JP (fun _ _ _ _=>True) H (partOf L' i0) R->HeapIs L' (p.2.take i++[i0]) R:=fun R hR=>heap_snoc hH (fun x e=>by
     subst e
     rcases hxyp x him with rfl | rfl<;>decide +kernel) (fun B j w hw=>(mem_allW.mp (hS'.w B j w hw).2.1).1) hR
    cases i0 with
    | T x =>
     refine asg_tup2 (by walk_at "kind") (by walk_at "kind") ?_;walk_at "ss";refine cE_listF ?_;walk_at "ss";refine cE_listF ?_;walk_at "ss";refine ⟨_,rfl,by simp,?_⟩;walk_at "ss";refine cE_listF ?_;walk_at "ss";refine ⟨_,rfl,by simp,?_⟩;walk_at "ss";refine cE_listF ?_;walk_at "ss";refine ⟨_,rfl,by simp,?_⟩;walk_at "ss";refine cE_listF ?_;walk_at "ss";refine ⟨_,rfl,by simp,?_⟩;walk_at "ss";refine ⟨_,rfl,by simp,?_⟩;walk_at "ss";refine cT_valK ?_ (by intros;rfl);walk_at "ss";refine truthy_bool' (both_f ?_);walk_at "ss";refine (joined_spec (H:=H) (P:=partOf L' (.T x)) h hHa hpa (.inl rfl) fun R hR=>?_).deep (by decide);walk_at "ss";exact forX (hJ2 (i+1) R (by rw [hbk];exact hstep R hR)) (look_sub ⟨rfl,rfl,rfl,rfl,rfl,rfl,trivial⟩) (List.Sublist.refl _)
    | N B =>
     refine asg_tup2 (by walk_at "kind") (by walk_at "kind") ?_;walk_at "ss";refine cE_listF ?_;walk_at "ss";refine cE_listF ?_;walk_at "ss";refine ⟨_,rfl,by simp,?_⟩;walk_at "ss";refine cE_listF ?_;walk_at "ss";refine ⟨_,rfl,by simp,?_⟩;walk_at "ss";refine cE_listF ?_;walk_at "ss";refine ⟨_,rfl,by simp,?_⟩;walk_at "ss";refine cE_listF ?_;walk_at "ss";refine ⟨_,rfl,by simp,?_⟩;walk_at "ss";refine ⟨_,rfl,by simp,?_⟩;walk_at "ss";refine cT_valK ?_ (by intros;rfl);walk_at "ss";refine truthy_bool' (both_t ?_);walk_at "ss";refine m_dict MM.dd PySem.F.slot_dict_get rfl ?_;walk_at "ss";refine cE_listF ?_;walk_at "ss";refine cE_listF ?_;walk_at "ss";refine ⟨_,rfl,by simp,?_⟩;walk_at "ss";refine cE_listF ?_;walk_at "ss";refine ⟨_,rfl,by simp,?_⟩;walk_at "ss";refine cE_listF ?_;walk_at "ss";refine ⟨_,rfl,by simp,?_⟩;walk_at "ss";refine cE_listF ?_;walk_at "ss";refine ⟨_,rfl,by simp,?_⟩;walk_at "ss";refine ⟨_,rfl,by simp,?_⟩;walk_at "ss";refine get_part hM' hS' fun w hw=>?_;walk_at "ss";refine (joined_spec (H:=H) (P:=L' B) h hHa hpa hw fun R hR=>?_).deep (by decide);walk_at "ss";exact forX (hJ2 (i+1) R (by rw [hbk];exact hstep R hR)) (look_sub ⟨rfl,rfl,rfl,rfl,rfl,rfl,trivial⟩) (List.Sublist.refl _)
   ·rw [List.length_map,List.take_length] at hH;refine seqK_next (cS.weak hlook (List.Sublist.refl _) ?_);clear hlook
    have hHa:∀ a,a<4->(H a).Nodup∧∀ w∈H a,w∈allW a∧Lg rs p.1 (wd w):=fun a ha=>⟨(hH a ha).1,fun w hw=>by
     obtain ⟨e1,e2⟩:=((hH a ha).2 w).mp hw
     exact ⟨mem_allW.mpr ⟨e1,sem_xy hS' hxyp e2⟩,lg_closed rs p.1 p.2 (wd w) hpm (snd_sem hS' e2)⟩⟩
    walk_at "ss";refine for_is (it_rng (by decide) (by decide) (by decide) (by decide)) ?_;refine frX3 (at_rng (n:=4)) (fun g2 _ _=>wF D rs g2 p H) (fun _ _ X2=>MM X2 D hs od μ) (fun t g2 L2 X2=>Made X2 hs od bd L2∧Snd rs hs L2∧(g2=true->total hs L<total hs L2)∧(g2=false->g=false∧L2=L')∧∀ a,a<t->∀ w∈H a,w∈L2 p.1 a) g L' X' (fun _ _ q=>q) rfl ⟨hM',hS',hg1,fun q=>⟨q,rfl⟩,fun a ha=>by lia⟩ (fun J2 hJ2 a _ g2 L2 X2 ha hI2=>?_) (fun ε' g2 L2 X2 hlook hI2=>?_)
    ·have hM2:=hI2.1;have hS2:=hI2.2.1;have h21:=hI2.2.2.1;have h20:=hI2.2.2.2.1;have h2w:=hI2.2.2.2.2;refine asg_name (by walk_at "kind") ?_;walk_at "ss";refine ⟨sub_list,v_item_list (x:=.list ((H a).map .str)) (Int.natCast_nonneg _) (ni_big ha) (four_at ha) ?_⟩;refine for_is it_list ?_;refine frX3 at_map (fun g3 _ _=>("a",.v (.int a))::wF D rs g3 p H) (fun _ _ X3=>MM X3 D hs od μ) (fun t g3 L3 X3=>Made X3 hs od bd L3∧Snd rs hs L3∧(g3=true->total hs L<total hs L3)∧(g3=false->g=false∧L3=L')∧(∀ c,c<a->∀ w∈H c,w∈L3 p.1 c)∧∀ w∈(H a).take t,w∈L3 p.1 a) g2 L2 X2 (fun _ _ q=>q) rfl ⟨hM2,hS2,h21,h20,h2w,by simp⟩ (fun J3 hJ3 i w g3 L3 X3 hw hI3=>?_) (fun ε' g3 L3 X3 hlook hI3=>?_)
     ·have hM3:=hI3.1;have hS3:=hI3.2.1;have h31:=hI3.2.2.1;have h30:=hI3.2.2.2.1;have h3w:=hI3.2.2.2.2.1;have h3t:=hI3.2.2.2.2.2;have hwm:=List.mem_of_getElem? hw
      have hwk:(H a).take (i+1)=(H a).take i++[w]:=by rw [List.take_add_one,hw];rfl
      have hwa:=((hHa a ha).2 w hwm).1;have hwl:=((hHa a ha).2 w hwm).2;have hLa:∀ x∈L3 p.1 a,x∈allW a:=fun x hx=>(hS3.w _ _ x hx).2.1;refine asg_name (by walk_at "kind") ?_;walk_at "ss";refine ⟨sub_dict MM.dd,v_itemD (key:=.s p.1) (kvs:=kvM hs od) (u:=.l (od p.1)) MM.dd kvM_kind (by show (0:Nat)≠2;decide) (kvM_mem hA) ?_⟩;walk_at "ss";refine ⟨sub_listM (MM.xx (hM3.o p.1 hA)),v_item_listM (x:=.l (bd p.1 a)) (MM.xx (hM3.o p.1 hA)) (Int.natCast_nonneg _) (ni_big ha) (l4_at ha) ?_⟩;refine v_notInL (x:=.l (bd p.1 a)) (vs:=(L3 p.1 a).map .str) (a:=.str w) (by rw [<-sW_is];exact MM.xx (hM3.b p.1 hA a ha)) (cl_toDs fun x hx=>sh_str (allW_ok a ha x (hLa x hx))) (sh_str (allW_ok a ha w hwa)) ?_;rw [any_str];walk_at "ss";refine ⟨fun hb=>?_,fun hb=>?_⟩
      ·have hno:w∉L3 p.1 a:=by simpa using hb
       refine (UpdAt.exists (.list (sW (L3 p.1 a)++[.v (.str w)])) (hM3.b p.1 hA a ha)).elim fun X4 hU=>?_;walk_at "ss";refine ⟨sub_dict MM.dd,v_itemD (key:=.s p.1) (kvs:=kvM hs od) (u:=.l (od p.1)) MM.dd kvM_kind (by show (0:Nat)≠2;decide) (kvM_mem hA) ?_⟩;walk_at "ss";refine ⟨sub_listM (MM.xx (hM3.o p.1 hA)),v_item_listM (x:=.l (bd p.1 a)) (MM.xx (hM3.o p.1 hA)) (Int.natCast_nonneg _) (ni_big ha) (l4_at ha) ?_⟩;refine m_list (MM.xx (hM3.b p.1 hA a ha)) PySem.F.slot_list_append rfl ?_;walk_at "ss";refine v_append (MM.uu hU) (by unfold sW;rw [List.length_map];have:=words_len ha (hS3.nd _ _) hLa;lia) ?_;walk_at "ss";have htot:=total_add (L:=L3) (w:=w) hA ha
       have hle:total hs L≤total hs L3:=by
        cases g3 with
        | true=>exact Nat.le_of_lt (h31 rfl)
        | false =>
         obtain ⟨q1,q2⟩:=h30 rfl;rw [q2,(hg0 q1).1];exact Nat.le_refl _
       refine forX (hJ3 (i+1) true _ X4 ⟨hM3.upd hA ha hU,hS3.add hA ha hwa hwl hno,fun _=>Nat.lt_of_le_of_lt hle htot,fun q=>(nomatch q),fun c hc x hx=>?_,fun x hx=>?_⟩) (look_sub ⟨rfl,rfl,rfl,rfl,rfl,rfl,rfl,trivial⟩) (List.Sublist.refl _)
       ·show x∈(if p.1=p.1∧c=a then L3 p.1 c++[w] else L3 p.1 c);rw [if_neg fun q=>by lia];exact h3w c hc x hx
       ·show x∈(if p.1=p.1∧a=a then L3 p.1 a++[w] else L3 p.1 a);rw [if_pos ⟨rfl,rfl⟩];rw [hwk] at hx
        rcases List.mem_append.mp hx with q | q
        ·exact List.mem_append_left _ (h3t x q)
        ·exact List.mem_append_right _ q
      ·have hin:w∈L3 p.1 a:=by simpa using hb
       walk_at "ss";refine forX (hJ3 (i+1) g3 L3 X3 ⟨hM3,hS3,h31,h30,h3w,fun x hx=>?_⟩) (look_sub ⟨rfl,rfl,rfl,rfl,rfl,rfl,rfl,trivial⟩) (List.Sublist.refl _);rw [hwk] at hx
       rcases List.mem_append.mp hx with q | q
       ·exact h3t x q
       ·rw [List.mem_singleton.mp q];exact hin
     ·have h3t:=hI3.2.2.2.2.2;rw [List.length_map,List.take_length] at h3t;walk_at "ss";refine forX (hJ2 (a+1) g3 L3 X3 ⟨hI3.1,hI3.2.1,hI3.2.2.1,hI3.2.2.2.1,fun c hc y hy=>?_⟩) (fun y u q=>hlook y u ?_) (List.Sublist.refl _)
      ·by_cases e:c=a
       ·subst e;exact h3t y hy
       ·exact hI3.2.2.2.2.1 c (by lia) y hy
      ·exact look_sub (ε':=wF D rs g3 p H) (ε:=("a",.v (.int a))::wF D rs g3 p H) ⟨rfl,rfl,rfl,rfl,rfl,rfl,trivial⟩ y u q
    ·have h2w:=hI2.2.2.2.2;have erl:(rngV 0 4).length=4:=rfl;rw [erl] at h2w;walk_at "ss";refine forX (hJ (t+1) g2 L2 X2 ⟨hI2.1,hI2.2.1,hI2.2.2.1,fun q=>?_⟩) (fun y u q=>hlook y u ?_) (List.Sublist.refl _)
     ·obtain ⟨q1,rfl⟩:=hI2.2.2.2.1 q;obtain ⟨rfl,q3⟩:=hg0 q1;refine ⟨rfl,fun r hr=>?_⟩;rw [htk] at hr
      rcases List.mem_append.mp hr with w | w
      ·exact q3 r w
      ·rw [List.mem_singleton.mp w];intro u hu hs';have:=h2w u.length hu (sw u) (((hH u.length hu).2 _).mpr ⟨rfl,hs'⟩);exact this
     ·exact look_sub (ε':=wE D rs g2) (ε:=wF D rs g2 p H) ⟨rfl,rfl,rfl,trivial⟩ y u q
  ·have hg0:=hI'.2.2.2;rw [List.length_map,List.take_length] at hg0;walk_at "ss";have hle:=total_le hI'.2.1;have hle0:=total_le hS
   cases g with
   | true=>exact whX (Nat.sub_lt_left_of_lt_add (Nat.le_succ_of_le hle) (by show 32*hs.length+1<total hs L'+n;rw [<-hn];exact Nat.add_lt_add_right (hI'.2.2.1 rfl) n)) (hJw (32*hs.length+1-total hs L') true L' X' ⟨hI'.1,hI'.2.1,fun _=>Nat.add_sub_of_le (Nat.le_succ_of_le hle),fun q=>(nomatch q)⟩) hlook (List.Sublist.refl _)
   | false=>exact whX (Nat.pos_of_ne_zero fun e=>by rw [e,Nat.add_zero] at hn;rw [hn] at hle0;exact absurd hle0 (Nat.not_succ_le_self _)) (hJw 0 false L' X' ⟨hI'.1,hI'.2.1,fun q=>(nomatch q),fun _ p hp=>by rw [(hg0 rfl).1];exact (hg0 rfl).2 p hp⟩) hlook (List.Sublist.refl _)
 ·have hsh:=hsh hg;refine seqK_next (cS.fz (fz_made hM hD.nd) (ε':=[("grown",.v (.bool g)),("made",.v (toldV hs L)),("rows",.v (.list (rs.map rwV)))]) (.cons (.same _) (.cons .put (.cons (.same _) .nil))) ?_)
  have hH:∀ m:Mem,Has m (.v (toldV hs L)) (.dict (hs.map fun A=>(Key.s A,W.v (fourV (L A))))):=fun m=>by
   show O.dict _=O.dict _;rw [List.map_map];rfl
  walk_at "ss";refine cE_dictV rfl (by kernel_rfl) rfl (by intros;rfl) ?_;walk_at "ss";refine ⟨_,it_dict,fun items e=>⟨hs.map .s,fun key=>fourV (lang rs (sOf key)),0,?_,map_nodup (fun x _ y _ q=>by injection q) hD.nd,fun x hx=>?_,by decide,by rw [List.length_map];lia,fun key hkey=>?_,?_⟩⟩
  ·rw [e,List.map_map,List.map_map];rfl
  ·obtain ⟨A,_,rfl⟩:=List.mem_map.mp hx;rfl
  ·obtain ⟨A,hA,rfl⟩:=List.mem_map.mp hkey;refine ⟨_,tgt_name (by walk_at "kind"),fun acc Dv=>?_⟩;walk_at "ss";refine ⟨rfl,?_⟩;refine cE_listV rfl (by kernel_rfl) rfl (by intros;rfl) ?_;walk_at "ss";refine ⟨sub_dict (hH _),v_itemD (key:=.s A) (u:=.v (fourV (L A))) (hH _) (fun q hq=>by obtain ⟨B,_,rfl⟩:=List.mem_map.mp hq;rfl) (by show (0:Nat)≠2;decide) (List.mem_map_of_mem (f:=fun A=>(Key.s A,W.v (fourV (L A)))) hA) ?_⟩;refine ⟨_,it_list,fun items e=>⟨fun _=>true,srtV,by subst e;rw [List.length_map];decide,fun x hx=>⟨_,tgt_name (by walk_at "kind"),fun acc2 L2=>ifs_nil ⟨rfl,rfl,fun _=>?_⟩⟩,?_⟩⟩
   ·subst e;obtain ⟨j,hj,rfl⟩:=List.mem_map.mp hx;have hj4:=List.mem_range.mp hj;walk_at "ss";refine (c_sortedL (d:=0) (by have:=words_len hj4 (hS.nd A j) fun x hx=>(hS.w A j x hx).2.1;lia) fun R hR hs'=>?_).deep (by decide);exact ⟨by rw [srtV_is,srt_is hR hs'],rfl⟩
   ·subst e;rw [List.filter_eq_self.mpr (fun _ _=>rfl),List.map_map];refine ⟨?_,rfl⟩;unfold fourV
    congr 2
    refine List.map_congr_left fun j hj=>?_;show srtV (.list ((L A j).map .str))=_;rw [srtV_is,(lang_of hS hsh (List.mem_range.mp hj)).1];rfl
  ·walk_at "ss";have:=hk hs hD
   have e2:((hs.map Key.s).map fun key=>(key,fourV (lang rs (sOf key))))=hs.map fun A=>(Key.s A,fourV (lang rs A)):=by rw [List.map_map];rfl
   rw [e2];exact this
end
section
open PySem PySem.Calls
@[reducible] noncomputable def s0:Str := "S0_SIGMA"
@[reducible] noncomputable def padS:Str := "@$@"
noncomputable def dmN (t:Str):Str:=((Str.empty++Txt.upper t)++padS)++Txt.upper t
noncomputable def nmI:It->Str
 | .N x=>x
 | .T x=>x
noncomputable def chN (A:Str)(x:It):Str:=(A++padS)++nmI x
noncomputable def old4:List Str:=[sS,sA,sB,s0]
noncomputable def v3:List Str:=[sS,sA,sB]
noncomputable def v5:List Str:=[sS,sA,sB,dmN sx,dmN sy]
noncomputable def xy:List Str:=[sx,sy]
noncomputable def kList:List (Str×List It):=(old4.flatMap fun A=>v5.map fun B=>(A,[It.N B]))++old4.flatMap fun A=>v5.flatMap fun B=>v5.map fun B'=>(A,[It.N B,It.N B'])
noncomputable def newN:List Str:=kList.map fun q=>q.2.foldl chN q.1
noncomputable def uni:List Str:=old4++[dmN sx,dmN sy]++newN
theorem uni_ok:∀ A∈uni,sOk A=true:=by decide +kernel
theorem uni_len:uni.length<900:=by decide +kernel
theorem uni_short:∀ A∈uni,A.length≤100:=by decide +kernel
theorem new_nodup:newN.Nodup:=by decide +kernel
theorem new_old:∀ N∈newN,N∉old4∧N∉v5∧N≠dmN sx∧N≠dmN sy:=by decide +kernel
theorem dm_facts:dmN sx≠dmN sy∧(∀ t∈xy,dmN t∉old4∧dmN t∉v3∧dmN t∈v5)∧s0∉v3∧s0∉v5∧sOk sx=true∧sOk sy=true:=by decide +kernel
theorem old_uni {A:Str}(h:A∈old4):A∈uni:=List.mem_append_left _ (List.mem_append_left _ h)
theorem v3_old {A:Str}(h:A∈v3):A∈old4:=by
 simp only [v3,List.mem_cons,List.not_mem_nil,or_false] at h
 rcases h with rfl | rfl | rfl<;>simp [old4]
theorem v3_v5 {A:Str}(h:A∈v3):A∈v5:=by
 simp only [v3,List.mem_cons,List.not_mem_nil,or_false] at h
 rcases h with rfl | rfl | rfl<;>simp [v5]
theorem dm_uni {t:Str}(h:t∈xy):dmN t∈uni:=by
 simp only [xy,List.mem_cons,List.not_mem_nil,or_false] at h
 rcases h with rfl | rfl<;>simp [uni]
theorem v5_uni {A:Str}(h:A∈v5):A∈uni:=by
 simp only [v5,List.mem_cons,List.not_mem_nil,or_false] at h
 rcases h with rfl | rfl | rfl | rfl | rfl<;>simp [uni,old4]
theorem new_uni {A:Str}(h:A∈newN):A∈uni:=List.mem_append_right _ h
theorem items5_N {B:Str}:It.N B∈items5↔B∈v3:=by
 simp only [items5,v3,List.mem_cons,List.not_mem_nil,or_false];constructor
 ·rintro (q | q | q | q | q)
  ·injection q with q;exact .inl q
  ·nomatch q
  ·injection q with q;exact .inr (.inl q)
  ·nomatch q
  ·injection q with q;exact .inr (.inr q)
 ·rintro (rfl | rfl | rfl)
  ·exact .inl rfl
  ·exact .inr (.inr (.inl rfl))
  ·exact .inr (.inr (.inr (.inr rfl)))
theorem items5_T {t:Str}:It.T t∈items5↔t∈xy:=by
 simp only [items5,xy,List.mem_cons,List.not_mem_nil,or_false];constructor
 ·rintro (q | q | q | q | q)
  ·nomatch q
  ·injection q with q;exact .inl q
  ·nomatch q
  ·injection q with q;exact .inr q
  ·nomatch q
 ·rintro (rfl | rfl)
  ·exact .inr (.inl rfl)
  ·exact .inr (.inr (.inr (.inl rfl)))
structure Gd (rs:List Rw):Prop where
 ne:rs≠[]
 hd:∀ p∈rs,p.1∈uni
 len:∀ p∈rs,p.2.length≤4
 itn:∀ p∈rs,∀ B,It.N B∈p.2->B∈uni
 itt:∀ p∈rs,∀ t,It.T t∈p.2->t∈xy
 opn:∀ p∈rs,∀ B,p.2.head? = some (.N B)->B∈v5
 un:∀ p∈rs,∀ C,p.2=[.N C]->p.1∈old4∧C∈v3
theorem Gd.ok (h:Gd rs)(hz:rs.length≤2000):RsOk v5 xy rs :=
 ⟨fun p hp=>Nat.le_trans (h.len p hp) (by decide),fun p hp i hi=>by
  cases i with
  | N B=>exact h.opn p hp B hi
  | T t=>exact h.itt p hp t (List.mem_of_mem_head? hi),fun p hp=>uni_ok _ (h.hd p hp),hz,h.ne⟩
theorem Gd.row (h:Gd rs):∀ p∈rs,rowOk p∧p.2.length≤10:=fun p hp=>⟨⟨uni_ok _ (h.hd p hp),fun i hi=>by
 cases i with
 | N B=>exact uni_ok B (h.itn p hp B hi)
 | T t =>
  have:=h.itt p hp t hi;simp only [xy,List.mem_cons,List.not_mem_nil,or_false] at this
  rcases this with rfl | rfl
  ·exact dm_facts.2.2.2.2.1
  ·exact dm_facts.2.2.2.2.2⟩,Nat.le_trans (h.len p hp) (by decide)⟩
theorem Gd.xy (h:Gd rs):TxtXY rs:=fun p hp t ht=>by
 have:=h.itt p hp t ht
 simpa [Mine.xy] using this
noncomputable def dmRow (i:It):List Rw:=match i with | .T t=>[(dmN t,[It.T t])] | .N _=>[]
noncomputable def mixRow (p:Rw):List Rw:=if (p.2.all It.isN||decide (p.2.length≤1))=true then [p] else p.2.flatMap dmRow++[(p.1,p.2.map (dm dmN))]
noncomputable def mixR (rs:List Rw):List Rw:=rs.flatMap mixRow
noncomputable def binR (rs:List Rw):List Rw:=rs.flatMap fun p=>chain chN p.2 p.1
noncomputable def P0 (rs:List Rw):Prop:=∀ p∈rs,p.1∈old4∧p.2.length≤4∧∀ i∈p.2,i∈items5
noncomputable def isLong (p:Rw):Prop:=p.1∈old4∧p.2.length≤4∧(2≤p.2.length->∀ i∈p.2,∃ B∈v5,i=.N B)∧(p.2.length<2->∀ i∈p.2,i∈items5)
noncomputable def isDm (p:Rw):Prop:=∃ t∈xy,p=(dmN t,[.T t])
noncomputable def P1 (rs:List Rw):Prop:=∀ p∈rs,isLong p∨isDm p
noncomputable def P2 (rs:List Rw):Prop:=∀ p∈rs,p.1∈uni∧p.2.length≤2∧(2≤p.2.length->∃ B∈v5,∃ N,(N∈v5∨N∈newN)∧p.2=[.N B,.N N])∧(p.2.length<2->(∀ i∈p.2,i∈items5)∧∀ C,p.2=[.N C]->p.1∈old4)
theorem mem_mix {q:Rw}:q∈mixR rs↔∃ p∈rs,q∈mixRow p:=List.mem_flatMap
theorem P0.gd (h:P0 rs)(hne:rs≠[]):Gd rs :=
 ⟨hne,fun p hp=>old_uni (h p hp).1,fun p hp=>(h p hp).2.1,fun p hp B hB=>v5_uni (v3_v5 (items5_N.mp ((h p hp).2.2 _ hB))),fun p hp t ht=>items5_T.mp ((h p hp).2.2 _ ht),
  fun p hp B hB=>v3_v5 (items5_N.mp ((h p hp).2.2 _ (List.mem_of_mem_head? hB))),fun p hp C e=>⟨(h p hp).1,items5_N.mp ((h p hp).2.2 _ (by rw [e];exact .head _))⟩⟩
theorem isLong.it {p:Rw}(h:isLong p){i:It}(hi:i∈p.2):(∃ B∈v5,i=.N B)∨i∈items5:=by
 by_cases e:2≤p.2.length
 ·exact .inl (h.2.2.1 e i hi)
 ·exact .inr (h.2.2.2 (by lia) i hi)
theorem isLong.nv {p:Rw}(h:isLong p){B:Str}(hB:It.N B∈p.2):B∈v5:=by
 rcases h.it hB with ⟨B',hB',e⟩ | q
 ·injection e with e;rw [e];exact hB'
 ·exact v3_v5 (items5_N.mp q)
theorem isLong.tv {p:Rw}(h:isLong p){t:Str}(ht:It.T t∈p.2):t∈xy:=by
 rcases h.it ht with ⟨B',hB',e⟩ | q
 ·nomatch e
 ·exact items5_T.mp q
theorem P1.gd (h:P1 rs)(hne:rs≠[]):Gd rs:=by
 refine ⟨hne,fun p hp=>?_,fun p hp=>?_,fun p hp B hB=>?_,fun p hp t ht=>?_,fun p hp B hB=>?_,fun p hp C e=>?_⟩
 ·rcases h p hp with q | ⟨t,ht,rfl⟩
  ·exact old_uni q.1
  ·exact dm_uni ht
 ·rcases h p hp with q | ⟨t,ht,rfl⟩
  ·exact q.2.1
  ·simp
 ·rcases h p hp with q | ⟨t,ht,rfl⟩
  ·exact v5_uni (q.nv hB)
  ·exact absurd (List.mem_singleton.mp hB) (fun q=>nomatch q)
 ·rcases h p hp with q | ⟨t',ht',rfl⟩
  ·exact q.tv ht
  ·have q:=List.mem_singleton.mp ht;injection q with q;rw [q];exact ht'
 ·rcases h p hp with q | ⟨t,ht,rfl⟩
  ·exact q.nv (List.mem_of_mem_head? hB)
  ·have q:some (It.T t)=some (It.N B):=hB;injection q with q;nomatch q
 ·rcases h p hp with q | ⟨t,ht,rfl⟩
  ·exact ⟨q.1,items5_N.mp (q.2.2.2 (by rw [e];show 1<2;decide) _ (by rw [e];exact .head _))⟩
  ·have e:[It.T t]=[It.N C]:=e;injection e with e _;nomatch e
theorem P2.gd (h:P2 rs)(hne:rs≠[]):Gd rs:=by
 have it:∀ p∈rs,∀ i∈p.2,(∃ B,(B∈v5∨B∈newN)∧i=.N B)∨i∈items5:=fun p hp i hi=>by
  by_cases e:2≤p.2.length
  ·obtain ⟨B,hB,N,hN,e2⟩:=(h p hp).2.2.1 e;rw [e2] at hi
   rcases List.mem_cons.mp hi with rfl | hi
   ·exact .inl ⟨B,.inl hB,rfl⟩
   ·rw [List.mem_singleton.mp hi];exact .inl ⟨N,hN,rfl⟩
  ·exact .inr (((h p hp).2.2.2 (by lia)).1 i hi)
 refine ⟨hne,fun p hp=>(h p hp).1,fun p hp=>Nat.le_trans (h p hp).2.1 (by decide),fun p hp B hB=>?_,fun p hp t ht=>?_,fun p hp B hB=>?_,fun p hp C e=>?_⟩
 ·rcases it p hp _ hB with ⟨B',hB',e⟩ | q
  ·injection e with e;rw [e];exact hB'.elim v5_uni new_uni
  ·exact v5_uni (v3_v5 (items5_N.mp q))
 ·rcases it p hp _ ht with ⟨B',hB',e⟩ | q
  ·nomatch e
  ·exact items5_T.mp q
 ·by_cases e:2≤p.2.length
  ·obtain ⟨B',hB',N,hN,e2⟩:=(h p hp).2.2.1 e;rw [e2] at hB;have hB:some (It.N B')=some (It.N B):=hB;injection hB with q;injection q with q;exact q▸hB'
  ·exact v3_v5 (items5_N.mp (((h p hp).2.2.2 (by lia)).1 _ (List.mem_of_mem_head? hB)))
 ·have q:=(h p hp).2.2.2 (by rw [e];show 1<2;decide);exact ⟨q.2 C e,items5_N.mp (q.1 _ (by rw [e];exact .head _))⟩
end
section
open PySem PySem.Calls
noncomputable def NoSt (st:Str)(rs:List Rw):Prop:=∀ p∈rs,It.N st∉p.2
noncomputable def NoSg (rs:List Rw):Prop:=∀ p∈rs,¬ single p.2
noncomputable def Emp (rs:List Rw):Prop:=∃ p∈rs,p.2=[]
theorem N_inj {A B:Str}(h:It.N A=It.N B):A=B:=by injection h
theorem mixRow_one {p:Rw}(h:p.2.all It.isN=true∨p.2.length≤1):mixRow p=[p]:=by
 unfold mixRow;rw [if_pos]
 rcases h with h | h
 ·rw [h];rfl
 ·rw [decide_eq_true h,Bool.or_true]
theorem mixRow_two {p:Rw}(h1:¬ p.2.all It.isN=true)(h2:¬ p.2.length≤1):mixRow p=p.2.flatMap dmRow++[(p.1,p.2.map (dm dmN))]:=by
 unfold mixRow;rw [if_neg];rw [Bool.eq_false_iff.mpr h1,decide_eq_false h2];decide
inductive MixRow (p q:Rw):Prop
 | same (ho:p.2.all It.isN=true∨p.2.length≤1) (e:q=p):MixRow p q
 | word (t:Str) (ht:It.T t∈p.2) (e:q=(dmN t,[.T t])):MixRow p q
 | body (h2:2≤p.2.length) (e:q=(p.1,p.2.map (dm dmN))):MixRow p q
theorem mem_mixRow {p q:Rw}(h:q∈mixRow p):MixRow p q:=by
 by_cases h1:p.2.all It.isN=true
 ·rw [mixRow_one (.inl h1)] at h;exact .same (.inl h1) (List.mem_singleton.mp h)
 ·by_cases h2:p.2.length≤1
  ·rw [mixRow_one (.inr h2)] at h;exact .same (.inr h2) (List.mem_singleton.mp h)
  ·rw [mixRow_two h1 h2] at h;refine (List.mem_append.mp h).elim (fun q1=>el12 (List.mem_flatMap.mp q1) fun i hi hq=>?_) fun q1=>.body (Nat.lt_of_not_le h2) (List.mem_singleton.mp q1)
   cases i with
   | N B=>cases hq
   | T t=>exact .word t hi (List.mem_singleton.mp hq)
theorem dmRow_len (b:List It):(b.flatMap dmRow).length≤b.length:=by
 induction b with
 | nil=>exact Nat.le_refl _
 | cons i r ih =>
  rw [List.flatMap_cons,List.length_append,List.length_cons,Nat.add_comm]
  cases i with
  | N B=>exact Nat.le_succ_of_le ih
  | T t=>exact Nat.succ_le_succ ih
theorem mix_len1 {p:Rw}:(mixRow p).length≤p.2.length+1:=by
 unfold mixRow;split
 ·exact Nat.succ_le_succ (Nat.zero_le _)
 ·rw [List.length_append];exact Nat.succ_le_succ (dmRow_len p.2)
theorem flatMap_len {α β:Type}{f:α->List β}{l:List α}(h:∀ x∈l,(f x).length≤n):(l.flatMap f).length≤n*l.length:=by
 induction l with
 | nil=>exact Nat.zero_le _
 | cons x l ih =>
  rw [List.flatMap_cons,List.length_append,List.length_cons,Nat.mul_succ,Nat.add_comm];exact Nat.add_le_add (ih fun y hy=>h y (.tail _ hy)) (h x (.head _))
theorem mix_len (h:P0 rs):(mixR rs).length≤5*rs.length:=flatMap_len fun p hp=>Nat.le_trans mix_len1 (Nat.succ_le_succ (h p hp).2.1)
theorem dm_mem {i:It}{b:List It}(h:i∈b.map (dm dmN)):(∃ B,i=.N B∧It.N B∈b)∨∃ t,It.T t∈b∧i=.N (dmN t):=by
 obtain ⟨j,hj,rfl⟩:=List.mem_map.mp h
 cases j with
 | N B=>exact .inl ⟨B,rfl,hj⟩
 | T t=>exact .inr ⟨t,hj,rfl⟩
theorem P0.txy (h:P0 rs){p:Rw}(hp:p∈rs){t:Str}(ht:It.T t∈p.2):t∈xy:=items5_T.mp ((h p hp).2.2 _ ht)
theorem dm_v5 {t:Str}(h:t∈xy):dmN t∈v5:=(dm_facts.2.1 t h).2.2
theorem mem_mixR {q:Rw}(h:q∈mixR rs):∃ p∈rs,MixRow p q:=el12 (mem_mix.mp h) fun p hp hq=>⟨p,hp,mem_mixRow hq⟩
theorem mix_P1 (h:P0 rs):P1 (mixR rs):=fun q hq=>el12 (mem_mixR hq) fun p hp hq=>by
 have hh:=h p hp
 cases hq with
 | same ho e =>
  rw [e];refine .inl ⟨hh.1,hh.2.1,fun hl i hi=>ho.elim (fun ho=>?_) fun ho=>absurd (Nat.le_trans hl ho) (by decide),fun _=>hh.2.2⟩;have this:=List.all_eq_true.mp ho i hi
  cases i with
  | T t=>cases this
  | N B=>exact ⟨B,v3_v5 (items5_N.mp (hh.2.2 _ hi)),rfl⟩
 | word t ht e=>exact .inr ⟨t,h.txy hp ht,e⟩
 | body h2 e =>
  rw [e]
  exact .inl ⟨hh.1,by show (p.2.map _).length≤4;rw [List.length_map];exact hh.2.1,fun _ i hi=>(dm_mem hi).elim (fun q=>el12 q fun B e hB=>⟨B,v3_v5 (items5_N.mp (hh.2.2 _ hB)),e⟩) fun q=>el12 q fun t ht e=>⟨_,dm_v5 (h.txy hp ht),e⟩,
   fun hl=>absurd h2 (by rw [<-List.length_map (f:=dm dmN)];exact Nat.not_le_of_lt hl)⟩
theorem mix_lg (h:P0 rs){A:Str}(hA:A∈old4){w:List Nat}:Lg (mixR rs) A w↔Lg rs A w:=by
 have hdm:∀ t∈xy,∀ B,B∈old4->B≠dmN t:=fun t ht B hB q=>(dm_facts.2.1 t ht).1 (q▸hB);refine lg_mixed (f:=dmN) xy (fun t ht t' ht' e=>?_) (fun B b hb t ht=>⟨hdm t ht B (h _ hb).1,fun q=>(dm_facts.2.1 t ht).2.1 (items5_N.mp ((h _ hb).2.2 _ q))⟩) (fun B b hb=>?_) (fun B b hb=>el12 (mem_mixR hb) fun p hp hq=>?_) fun t ht=>hdm t ht A hA
 ·simp only [xy,List.mem_cons,List.not_mem_nil,or_false] at ht ht'
  rcases ht with rfl | rfl<;>rcases ht' with rfl | rfl
  ·rfl
  ·exact absurd e dm_facts.1
  ·exact absurd e.symm dm_facts.1
  ·rfl
 ·by_cases h1:b.all It.isN=true
  ·exact .inl (mem_mix.mpr ⟨_,hb,by rw [mixRow_one (.inl h1)];exact .head _⟩)
  ·by_cases h2:b.length≤1
   ·exact .inl (mem_mix.mpr ⟨_,hb,by rw [mixRow_one (.inr h2)];exact .head _⟩)
   ·have e:=mixRow_two (p:=(B,b)) h1 h2;refine .inr ⟨mem_mix.mpr ⟨_,hb,by rw [e];exact List.mem_append_right _ (.head _)⟩,fun t ht=>⟨h.txy hb ht,mem_mix.mpr ⟨_,hb,by rw [e];exact List.mem_append_left _ (List.mem_flatMap.mpr ⟨_,ht,.head _⟩)⟩⟩⟩
 ·cases hq with
  | same _ e=>exact .inl (e▸hp)
  | word t ht e=>have e:=Prod.mk.inj e;exact .inr (.inr ⟨t,h.txy hp ht,e.1,e.2⟩)
  | body _ e=>have e:=Prod.mk.inj e;exact .inr (.inl ⟨p.2,e.1▸hp,e.2,fun t ht=>h.txy hp ht⟩)
theorem mix_st (h:P0 rs){st:Str}(hst:st∈old4)(hn:NoSt st rs):NoSt st (mixR rs):=fun q hq hm=>el12 (mem_mixR hq) fun p hp hq=>by
 cases hq with
 | same _ e=>exact hn p hp (e▸hm)
 | word t ht e=>rw [e] at hm;have this:=List.mem_singleton.mp hm;nomatch this
 | body _ e =>
  rw [e] at hm;exact (dm_mem hm).elim (fun q=>el12 q fun B e hB=>hn p hp (N_inj e▸hB)) fun q=>el12 q fun t ht e=>(dm_facts.2.1 t (h.txy hp ht)).1 (N_inj e▸hst)
theorem word_sg {t C:Str}:[It.T t]≠[It.N C]:=fun e=>nomatch (List.cons.inj e).1
theorem mix_sg (hn:NoSg rs):NoSg (mixR rs):=fun q hq=>el12 (mem_mixR hq) fun p hp hq=>by
 cases hq with
 | same _ e=>rw [e];exact hn p hp
 | word t ht e=>rw [e];exact fun q=>q.elim fun C e=>word_sg e
 | body h2 e =>
  rw [e];refine fun q=>q.elim fun C e=>?_;have this:=congrArg List.length e;rw [List.length_map] at this;rw [this] at h2;exact absurd h2 (show ¬ 2≤1 by decide)
theorem mix_emp:Emp (mixR rs)↔Emp rs:=by
 refine ⟨fun h=>el12 h fun q hq eq=>el12 (mem_mixR hq) fun p hp hq=>?_,fun h=>el12 h fun p hp e=>⟨p,mem_mix.mpr ⟨p,hp,by rw [mixRow_one (.inr (by rw [e];exact Nat.zero_le _))];exact .head _⟩,e⟩⟩
 cases hq with
 | same _ e=>exact ⟨p,hp,e▸eq⟩
 | word t ht e=>rw [e] at eq;nomatch eq
 | body h2 e =>
  rw [e] at eq;rw [List.map_eq_nil_iff.mp eq] at h2;cases h2
theorem mix_ne (h:rs≠[]):mixR rs≠[]:=fun q=>by
 obtain ⟨p,r,rfl⟩:∃ p r,rs=p::r:=by
  cases rs with
  | nil=>exact absurd rfl h
  | cons p r=>exact ⟨p,r,rfl⟩
 unfold mixR at q;rw [List.flatMap_cons] at q;have:=(List.append_eq_nil_iff.mp q).1;unfold mixRow at this;split at this
 ·nomatch this
 ·exact absurd (List.append_eq_nil_iff.mp this).2 (fun q=>nomatch q)
theorem mem_bin {q:Rw}:q∈binR rs↔∃ p∈rs,q∈chain chN p.2 p.1:=List.mem_flatMap
theorem k_of {A:Str}(hA:A∈old4){p:List It}(h0:p≠[])(h2:p.length≤2)(hN:∀ i∈p,∃ B∈v5,i=.N B):(A,p)∈kList:=by
 cases p with
 | nil=>exact absurd rfl h0
 | cons i r =>
  refine el12 (hN i (.head _)) fun B hB ei=>?_;rw [ei]
  cases r with
  | nil=>exact List.mem_append_left _ (List.mem_flatMap.mpr ⟨A,hA,List.mem_map.mpr ⟨B,hB,rfl⟩⟩)
  | cons j r =>
   refine el12 (hN j (.tail _ (.head _))) fun B' hB' ej=>?_;rw [ej]
   cases r with
   | nil=>exact List.mem_append_right _ (List.mem_flatMap.mpr ⟨A,hA,List.mem_flatMap.mpr ⟨B,hB,List.mem_map.mpr ⟨B',hB',rfl⟩⟩⟩)
   | cons x r=>exact absurd (Nat.le_of_succ_le_succ (Nat.le_of_succ_le_succ h2)) (Nat.not_succ_le_zero _)
theorem newHd_k (h:P1 rs){N A:Str}{p s:List It}(hn:NewHd chN rs N A p s):(A,p)∈kList∧N=p.foldl chN A:=by
 have hl:(p++s).length=p.length+s.length:=List.length_append;have hp:=List.length_pos_iff.mpr hn.2.1;refine ⟨(h _ hn.1).elim (fun q=>?_) fun q=>el12 q fun t ht q=>?_,hn.2.2.2⟩
 ·have q2:(p++s).length≤4:=q.2.1;rw [hl] at q2;exact k_of q.1 hn.2.1 (Nat.le_of_add_le_add_right (Nat.le_trans (Nat.add_le_add_left hn.2.2.1 _) q2)) fun i hi=>q.2.2.1 (by show 2≤(p++s).length;rw [hl];exact Nat.le_trans hn.2.2.1 (Nat.le_add_left ..)) i (List.mem_append_left _ hi)
 ·have e:=congrArg List.length (Prod.mk.inj q).2;rw [hl] at e;exact absurd (Nat.le_trans (Nat.add_le_add hp hn.2.2.1) (Nat.le_of_eq e)) (show ¬ 3≤1 by decide)
theorem newHd_new (h:P1 rs){N A:Str}{p s:List It}(hn:NewHd chN rs N A p s):N∈newN:=by
 obtain ⟨h1,h2⟩:=newHd_k h hn;rw [h2];exact List.mem_map_of_mem (f:=fun q:Str×List It=>q.2.foldl chN q.1) h1
theorem P1.names (h:P1 rs){N:Str}(hN:N∈newN){p:Rw}(hp:p∈rs):p.1≠N∧It.N N∉p.2:=by
 obtain ⟨n1,n2,n3,n4⟩:=new_old N hN
 rcases h p hp with q | ⟨t,ht,rfl⟩
 ·exact ⟨fun e=>n1 (e▸q.1),fun e=>n2 (q.nv e)⟩
 ·refine ⟨fun e=>?_,fun e=>by have:=List.mem_singleton.mp e;nomatch this⟩;have e:dmN t=N:=e;simp only [xy,List.mem_cons,List.not_mem_nil,or_false] at ht
  rcases ht with rfl | rfl
  ·exact n3 e.symm
  ·exact n4 e.symm
theorem bin_lg (h:P1 rs){A:Str}(hA:A∈old4){w:List Nat}:Lg (binR rs) A w↔Lg rs A w:=by
 refine lg_chain (nm:=chN) (fun N A p s A₂ p₂ s₂ h1 h2=>?_) (fun N A p s hn A' b hb=>h.names (newHd_new h hn) hb) (fun A b hb p hp=>mem_bin.mpr ⟨_,hb,hp⟩) (fun A' b' hb=>?_) (fun B p s hn=>(new_old A (newHd_new h hn)).1 hA)
 ·obtain ⟨k1,e1⟩:=newHd_k h h1;obtain ⟨k2,e2⟩:=newHd_k h h2;have:=nodup_inj (f:=fun q:Str×List It=>q.2.foldl chN q.1) new_nodup k2 k1 (e2.symm.trans e1);injection this with a b;exact ⟨a,b⟩
 ·obtain ⟨p,hp,hq⟩:=mem_bin.mp hb;exact ⟨p.1,p.2,hp,hq⟩
theorem chain_len3 {nm:Str->It->Str}{b:List It}(h:b.length≤4){A:Str}:(chain nm b A).length≤3:=by
 cases b with
 | nil=>exact Nat.le_succ_of_le (Nat.le_succ _)
 | cons x r =>
  by_cases hr:2≤r.length
  ·rw [chain_long hr]
   cases r with
   | nil=>simp at hr
   | cons y r =>
    by_cases hr2:2≤r.length
    ·rw [chain_long hr2]
     cases r with
     | nil=>simp at hr2
     | cons z r =>
      have:¬ 2≤r.length:=by simp at h;lia
      rw [chain_short this];simp
    ·rw [chain_short hr2];simp
  ·rw [chain_short hr];simp
theorem bin_len (h:P1 rs):(binR rs).length≤3*rs.length:=flatMap_len fun p hp=>chain_len3 ((h.gd (List.ne_nil_of_mem hp)).len p hp)
inductive BinRow (rs:List Rw) (q:Rw):Prop
 | old (hm:q∈rs) (hl:q.2.length≤2):BinRow rs q
 | last (A:Str) (p:List It) (hn:NewHd chN rs q.1 A p q.2) (hl:q.2.length=2) (hs:∀ i∈q.2,∃ B∈v5,i=.N B):BinRow rs q
 | cut (B N:Str) (hB:B∈v5) (hN:N∈newN) (e:q.2=[.N B,.N N]) (hu:q.1∈uni) (p:Rw) (hp:p∈rs) (hi:It.N B∈p.2):BinRow rs q
theorem P1.long (h:P1 rs){p:Rw}(hp:p∈rs)(hl:3≤p.2.length):isLong p:=(h p hp).elim id fun q=>el12 q fun t _ e=>absurd hl (by rw [e];exact (by decide:¬ 3≤1))
theorem len_app {p s:List It}(hp:p≠[])(hs:n≤s.length):n+1≤(p++s).length:=by rw [List.length_append,Nat.add_comm];exact Nat.add_le_add (List.length_pos_iff.mpr hp) hs
theorem bin_row (h:P1 rs){q:Rw}(hq:q∈binR rs):BinRow rs q:=el12 (mem_bin.mp hq) fun p0 hp0 hc=>by
 have hm:(p0.1,p0.2)∈rs:=hp0;refine (chain_mem (A':=q.1) (b':=q.2) hc).casesOn (fun p e eA hl h2=>?_) fun p r x e eA hr eb=>?_
 ·by_cases hp:p=[]
  ·rw [hp] at e eA;exact .old (by rw [show q=p0 from Prod.ext eA e.symm];exact hp0) hl
  ·have hl3:3≤p0.2.length:=by rw [e];exact len_app hp (Nat.le_of_eq (h2 hp).symm)
   rw [e] at hm;exact .last p0.1 p ⟨hm,hp,Nat.le_of_eq (h2 hp).symm,eA⟩ (h2 hp) fun i hi=>(h.long hp0 hl3).2.2.1 (Nat.le_of_succ_le hl3) i (by rw [e];exact List.mem_append_right _ hi)
 ·have hx:x∈p0.2:=by rw [e];exact List.mem_append_right _ (.head _)
  have hl3:3≤p0.2.length:=by rw [e,List.length_append];exact Nat.le_trans (Nat.succ_le_succ hr) (Nat.le_add_left ..)
  have hL:=h.long hp0 hl3;refine el12 (hL.2.2.1 (Nat.le_of_succ_le hl3) x hx) fun B hB ex=>?_;rw [e] at hm;rw [ex] at hm eb hx;refine .cut B _ hB (newHd_new h (NewHd.ext hm eA hr)) eb ?_ p0 hp0 hx;by_cases hp:p=[]
  ·rw [hp] at eA;rw [show q.1=p0.1 from eA];exact old_uni hL.1
  ·exact new_uni (newHd_new h (s:=.N B::r) ⟨hm,hp,Nat.le_succ_of_le hr,eA⟩)
theorem two_N {b:List It}(hl:b.length=2)(hN:∀ i∈b,∃ B∈v5,i=.N B):∃ B∈v5,∃ B',(B'∈v5∨B'∈newN)∧b=[.N B,.N B']:=by
 cases b with
 | nil=>cases hl
 | cons i r =>
  cases r with
  | nil=>cases hl
  | cons j r =>
   have hr:r=[]:=List.eq_nil_of_length_eq_zero (Nat.succ.inj (Nat.succ.inj hl));exact el12 (hN i (.head _)) fun B hB e=>el12 (hN j (.tail _ (.head _))) fun B' hB' e'=>⟨B,hB,B',.inl hB',by rw [e,e',hr]⟩
theorem bin_P2 (h:P1 rs):P2 (binR rs):=fun q hq=>by
 cases bin_row h hq with
 | old hm hl =>
  refine ⟨(h.gd (List.ne_nil_of_mem hm)).hd q hm,hl,fun h2=>(h q hm).elim (fun w=>two_N (Nat.le_antisymm hl h2) (w.2.2.1 h2)) fun w=>el12 w fun t ht e=>absurd h2 (by rw [e];exact (by decide:¬ 2≤1)),fun h2=>(h q hm).elim (fun w=>⟨w.2.2.2 h2,fun _ _=>w.1⟩) fun w=>el12 w fun t ht e=>?_⟩;rw [e];exact ⟨fun i hi=>by rw [List.mem_singleton.mp hi];exact items5_T.mpr ht,fun C e=>absurd e word_sg⟩
 | last A p hn hl hs=>exact ⟨new_uni (newHd_new h hn),Nat.le_of_eq hl,fun _=>two_N hl hs,fun q=>absurd q (by rw [hl];decide)⟩
 | cut B N hB hN e hu =>
  rw [e];exact ⟨hu,Nat.le_refl _,fun _=>⟨B,hB,N,.inr hN,rfl⟩,fun q=>absurd q (by show ¬ 2<2;decide)⟩
end
section
open PySem PySem.Calls
theorem bin_st (h:P1 rs){st:Str}(hst:st∈old4)(hn:NoSt st rs):NoSt st (binR rs):=fun q hq hm=>by
 cases bin_row h hq with
 | old hq' _=>exact hn q hq' hm
 | last A p hN _ _=>exact hn _ hN.1 (List.mem_append_right _ hm)
 | cut B N _ hN e _ p hp hB =>
  rw [e] at hm;exact (List.mem_cons.mp hm).elim (fun q=>hn p hp (N_inj q▸hB)) fun q=>(new_old N hN).1 (N_inj (List.mem_singleton.mp q)▸hst)
theorem bin_sg (h:P1 rs)(hn:NoSg rs):NoSg (binR rs):=fun q hq=>by
 cases bin_row h hq with
 | old hq' _=>exact hn q hq'
 | last A p _ hl _=>exact fun q=>q.elim fun C e=>nomatch (e▸hl:[It.N C].length=2)
 | cut B N _ _ e=>exact fun q=>q.elim fun C e2=>nomatch (List.cons.inj (e.symm.trans e2)).2
theorem bin_emp (h:P1 rs):Emp (binR rs)↔Emp rs:=by
 refine ⟨fun q=>el12 q fun q hq e0=>?_,fun q=>el12 q fun p hp e=>⟨p,mem_bin.mpr ⟨p,hp,by rw [e];exact List.mem_singleton.mpr (by rw [<-e])⟩,e⟩⟩
 cases bin_row h hq with
 | old hq' _=>exact ⟨q,hq',e0⟩
 | last A p _ hl _=>rw [e0] at hl;nomatch hl
 | cut B N _ _ e=>rw [e0] at e;nomatch e
structure UnitR (rs R:List Rw)(P:List (Str×Str)):Prop where
 pr:∀ A B,(A,B)∈P->A∈old4∧B∈v3
 i1:∀ A b,(A,b)∈rs->¬ single b->(A,b)∈R
 i2:∀ A C,(A,[It.N C])∈rs->(A,C)∈P
 i3:∀ A B b,(A,B)∈P->(B,b)∈rs->(¬ single b->(A,b)∈R)∧∀ C,b=[It.N C]->(A,C)∈P
 i4:∀ A b,(A,b)∈R->(A,b)∈rs∨∃ B,(A,B)∈P∧(B,b)∈rs
 i5:∀ A B,(A,B)∈P->∀ w,Lg rs B w->Lg rs A w
 sg:NoSg R
 sz:R.length≤13*rs.length
section
variable {P:List (Str×Str)}
theorem UnitR.lg (h:UnitR rs R P){A:Str}{w:List Nat}:Lg R A w↔Lg rs A w:=lg_unit h.i1 h.i2 h.i3 h.i4 h.i5
theorem UnitR.p0 (h:UnitR rs R P)(q:P0 rs):P0 R:=fun p hp=>by
 rcases h.i4 p.1 p.2 hp with w | ⟨B,hB,w⟩
 ·exact q p w
 ·exact ⟨(h.pr _ _ hB).1,(q _ w).2⟩
theorem UnitR.p1 (h:UnitR rs R P)(q:P1 rs):P1 R:=fun p hp=>by
 rcases h.i4 p.1 p.2 hp with w | ⟨B,hB,w⟩
 ·exact q p w
 ·refine .inl ?_
  rcases q _ w with r | ⟨t,ht,r⟩
  ·exact ⟨(h.pr _ _ hB).1,r.2⟩
  ·injection r with r _;exact absurd ((h.pr _ _ hB).2) (r▸(dm_facts.2.1 t ht).2.1)
theorem UnitR.p2 (h:UnitR rs R P)(q:P2 rs):P2 R:=fun p hp=>by
 rcases h.i4 p.1 p.2 hp with w | ⟨B,hB,w⟩
 ·exact q p w
 ·obtain ⟨_,r2,r3,r4⟩:=q _ w;have hA:=(h.pr _ _ hB).1;exact ⟨old_uni hA,r2,r3,fun hl=>⟨(r4 hl).1,fun _ _=>hA⟩⟩
theorem UnitR.nost (h:UnitR rs R P){st:Str}(q:NoSt st rs):NoSt st R:=fun p hp=>by
 rcases h.i4 p.1 p.2 hp with w | ⟨B,hB,w⟩
 ·exact q (p.1,p.2) w
 ·exact q (B,p.2) w
theorem UnitR.emp (h:UnitR rs R P):Emp R↔Emp rs:=by
 constructor
 ·rintro ⟨p,hp,e⟩
  rcases h.i4 p.1 p.2 hp with w | ⟨B,hB,w⟩
  ·exact ⟨p,w,e⟩
  ·exact ⟨_,w,e⟩
 ·rintro ⟨p,hp,e⟩;exact ⟨p,h.i1 p.1 p.2 hp (by rw [e];rintro ⟨C,q⟩;nomatch q),e⟩
end
structure Way (rows:List Rw)(st:Str)(rs:List Rw):Prop where
 ax:(sA,[It.T sx])∈rs
 hst:st=sS∨st=s0
 no:NoSt st rs
 emp:Emp rs↔Emp rows
 kst:∀ w,Lg rs st w↔Lg rows sS w
 kh:∀ h∈v3,∀ w,Lg rs h w↔Lg rows h w
section
variable {rows:List Rw}{st:Str}{P:List (Str×Str)}
theorem Way.old (h:Way rows st rs):st∈old4:=by
 rcases h.hst with rfl | rfl<;>simp [old4]
theorem Way.ne (h:Way rows st rs):rs≠[]:=List.ne_nil_of_mem h.ax
theorem Way.mix (h:Way rows st rs)(p:P0 rs):Way rows st (mixR rs) :=
 ⟨mem_mix.mpr ⟨_,h.ax,by rw [mixRow_one (.inr (Nat.le_refl _))];exact .head _⟩,h.hst,mix_st p h.old h.no,mix_emp.trans h.emp,fun w=>(mix_lg p h.old).trans (h.kst w),fun A hA w=>(mix_lg p (v3_old hA)).trans (h.kh A hA w)⟩
theorem Way.bin (h:Way rows st rs)(p:P1 rs):Way rows st (binR rs) :=
 ⟨mem_bin.mpr ⟨_,h.ax,.head _⟩,h.hst,bin_st p h.old h.no,(bin_emp p).trans h.emp,fun w=>(bin_lg p h.old).trans (h.kst w),fun A hA w=>(bin_lg p (v3_old hA)).trans (h.kh A hA w)⟩
theorem Way.unit (h:Way rows st rs)(u:UnitR rs R P):Way rows st R :=
 ⟨u.i1 _ _ h.ax (by rintro ⟨C,q⟩;injection q with q _;nomatch q),h.hst,u.nost h.no,u.emp.trans h.emp,fun w=>u.lg.trans (h.kst w),fun A hA w=>u.lg.trans (h.kh A hA w)⟩
end
theorem way_same {rows:List Rw}(h:P0 rows)(ax:(sA,[It.T sx])∈rows)(hn:NoSt sS rows):Way rows sS rows:=⟨ax,.inl rfl,hn,Iff.rfl,fun _=>Iff.rfl,fun _ _ _=>Iff.rfl⟩
theorem P0row {rows:List Rw}(h:∀ p∈rows,RowIs p):P0 rows:=fun p hp=>⟨v3_old (by
 rcases (h p hp).1 with q | q | q<;>rw [q]<;>simp [v3]),(h p hp).2.1,(h p hp).2.2⟩
theorem way_new {rows:List Rw}(h:∀ p∈rows,RowIs p)(ax:(sA,[It.T sx])∈rows):Way rows s0 (rows++[(s0,[It.N sS])]):=by
 have hv:∀ p∈rows,p.1∈v3:=fun p hp=>by rcases (h p hp).1 with q | q | q<;>rw [q]<;>simp [v3]
 have h1:∀ b,(s0,b)∉rows:=fun b hb=>dm_facts.2.2.1 (hv _ hb);have h2:∀ A b,(A,b)∈rows->It.N s0∉b:=fun A b hb q=>dm_facts.2.2.1 (items5_N.mp ((h _ hb).2.2 _ q));have hne:sS≠s0:=fun e=>dm_facts.2.2.1 (e▸(by simp [v3]));obtain ⟨k1,k2⟩:=lg_start h1 h2 hne;refine ⟨List.mem_append_left _ ax,.inr rfl,fun p hp q=>?_,?_,k2,fun A hA w=>k1 A w fun e=>dm_facts.2.2.1 (e▸hA)⟩
 ·rcases List.mem_append.mp hp with w | w
  ·exact h2 p.1 p.2 w q
  ·rw [List.mem_singleton.mp w] at q;have:=List.mem_singleton.mp q;injection this with this;exact hne this.symm
 ·constructor
  ·rintro ⟨p,hp,e⟩
   rcases List.mem_append.mp hp with w | w
   ·exact ⟨p,w,e⟩
   ·rw [List.mem_singleton.mp w] at e;nomatch e
  ·rintro ⟨p,hp,e⟩;exact ⟨p,List.mem_append_left _ hp,e⟩
theorem P0new {rows:List Rw}(h:P0 rows):P0 (rows++[(s0,[It.N sS])]):=fun p hp=>by
 rcases List.mem_append.mp hp with w | w
 ·exact h p w
 ·rw [List.mem_singleton.mp w];exact ⟨by simp [old4],by simp,fun i hi=>by rw [List.mem_singleton.mp hi];exact .head _⟩
end
noncomputable def keyV (v:V):V:=match v with
 | .inst _ [(_,.str x)]=>.tup [.str tN,.str x]
 | v=>.tup [.str tT,v]
theorem keyV_it (i:It):keyV i.v=i.key.val:=by cases i<;>rfl
theorem tN_T:tN≠tT:=by decide +kernel
theorem eqv_key (i j:It):PyData.eqv (toD i.key.val) (toD j.key.val)=decide (i=j):=by
 cases i with
 | N x=>cases j with
  | N y =>
   refine (eqv_stup [tN,x] [tN,y]).trans (decide_eq_decide.mpr ⟨fun q=>?_,fun q=>by injection q with q;rw [q]⟩);injection q with _ q;injection q with q;rw [q]
  | T y =>
   refine (eqv_stup [tN,x] [tT,y]).trans (decide_eq_decide.mpr ⟨fun q=>?_,fun q=>nomatch q⟩);injection q with q;exact absurd q tN_T
 | T x=>cases j with
  | N y =>
   refine (eqv_stup [tT,x] [tN,y]).trans (decide_eq_decide.mpr ⟨fun q=>?_,fun q=>nomatch q⟩);injection q with q;exact absurd q.symm tN_T
  | T y =>
   refine (eqv_stup [tT,x] [tT,y]).trans (decide_eq_decide.mpr ⟨fun q=>?_,fun q=>by injection q with q;rw [q]⟩);injection q with _ q;injection q with q;rw [q]
theorem sOk_T:sOk tT=true:=by decide +kernel
theorem sh_key {i:It}(h:itOk i=true):SeqAt.shaped (toD i.key.val)=true:=by
 cases i with
 | N x =>
  refine sh_stup (x:=[tN,x]) fun y hy=>?_
  rcases List.mem_cons.mp hy with rfl | hy
  ·exact sOk_N
  ·rw [List.mem_singleton.mp hy];exact h
 | T x =>
  refine sh_stup (x:=[tT,x]) fun y hy=>?_
  rcases List.mem_cons.mp hy with rfl | hy
  ·exact sOk_T
  ·rw [List.mem_singleton.mp hy];exact h
theorem any_key {l:List It}{i:It}:((l.map fun (i:It)=>i.key.val).any fun y=>PyData.eqv (toD y) (toD i.key.val))=decide (i∈l):=by
 rw [List.any_map,show ((fun y=>PyData.eqv (toD y) (toD i.key.val))∘fun (i:It)=>i.key.val)=fun x=>decide (x=i) from funext fun x=>eqv_key x i,Bool.eq_iff_iff,List.any_eq_true,decide_eq_true_iff];exact ⟨fun ⟨x,hx,e⟩=>(of_decide_eq_true e)▸hx,fun q=>⟨i,q,by simp⟩⟩
theorem cCode.fzR {fv:Value}(h:cCode C d μ fv xs kws (fzK C k)):cCode C d μ fv xs kws k:=fun A F Z s vs kvs hA S a b =>
 codeAny_mono (h A F Z s vs kvs hA S a b) fun r s' q=>by
  cases r with
  | error e=>exact q.elim
  | ok fl=>cases fl with
   | ret v =>
    obtain ⟨x,F₁,μ₁,⟨ρ,x',μ₂,hz,hx,hk⟩,le₁,S₁,hw⟩:=q;obtain ⟨F',le,S',hv⟩:=hz F₁ Z s' S₁;exact ⟨x',F',μ₂,hk,le₁.trans le,S',hv _ _ _ hx hw⟩
   | _=>exact q.elim
@[reducible] noncomputable def eE (ra:Addr)(g:V)(b:Bool):Env1:=[("need_to_add",cond b (.v (.bool true)) (.v .none)),("result",.l ra),("start",.v (nonT sS)),("cls",.v (.glob (.ref 334))),("grammar",.v g)]
section
variable (h:C.K=Mine.hk.heap_1 C.P)(hg:C.gen=false)
include h hg
theorem elim_spec {m1 m2:Int}(hT:∀ P∈C.tabs,(P,O.tab)∈μ)(hP:P0 rs)(hne:rs≠[])(hz:rs.length≤1000)(h1:∀ dom m1 m2,GOk (rs++[(s0,[It.N sS])]) dom m1 m2->k (.v (gramV s0 (rs++[(s0,[It.N sS])]) dom m1 m2)) μ)(h2:NoSt sS rs->k (.v (gramV sS rs dom m1 m2)) μ) :
  cCode C 18 μ (.ref 317) [.v (.glob (.ref 334)),.v (gramV sS rs dom m1 m2)] [] k:=by
 have hG:=hP.gd hne;refine cCode.fzR ?_;apply cCode_enter [("cls",.v (.glob (.ref 334))),("grammar",.v (gramV sS rs dom m1 m2))];walk_at "enter"
 case hbind=>walk_at "bind2"
 walk_at "ss";refine m_Gv (f:=193) h (by kernel_rfl) (by kernel_rfl) (by kernel_rfl) (by decide) ?_;walk_at "ss";refine (start_spec h ?_).deep (by decide);walk_at "ss";refine cE_listM ?_;walk_at "ss";refine ⟨by simp,fun ra=>?_⟩;walk_at "ss";refine m_Gv (f:=199) h (by kernel_rfl) (by kernel_rfl) (by kernel_rfl) (by decide) ?_;walk_at "ss";refine (prodsV_spec h ?_).deep (by decide);refine for_is it_list ?_;refine cFor_mk (fun t ε' μ'=>∃ b,Looks (eE ra (gramV sS rs dom m1 m2) b) ε'∧μ'=(ra,O.list ((rs.take t).map fun p=>W.v p.v))::μ∧(b=true↔∃ p∈rs.take t,It.N sS∈p.2)) ⟨false,fun _ _ q=>q,rfl,by simp⟩ (fun J hJ t x ε' μ' hx hI=>?_) (fun ε' μ' hI=>?_)
 ·obtain ⟨p,rfl,hp⟩:=at_map t x hx;obtain ⟨b,hlook,rfl,hb⟩:=hI;have hpm:=List.mem_of_getElem? hp
  have htk:rs.take (t+1)=rs.take t++[p]:=by rw [List.take_add_one,hp];rfl
  have hl4:=hG.len p hpm;have hro:=(hG.row p hpm).1.2
  have fin:∀ {ε:Env1}{kf:PostF}{b':Bool},Looks (eE ra (gramV sS rs dom m1 m2) b') ε->(b'=true↔b=true∨It.N sS∈p.2)->forK J t kf .next ε ((ra,O.list ((rs.take (t+1)).map fun p=>W.v p.v))::μ):=fun {ε kf b'} q1 q2 =>
   ⟨eE ra (gramV sS rs dom m1 m2) b',_,⟨q1,List.Sublist.refl _⟩,hJ ⟨b',fun _ _ q=>q,rfl,by
    rw [q2,hb,htk];constructor
    ·rintro (⟨r,hr,e⟩ | e)
     ·exact ⟨r,List.mem_append_left _ hr,e⟩
     ·exact ⟨p,by simp,e⟩
    ·rintro ⟨r,hr,e⟩
     rcases List.mem_append.mp hr with w | w
     ·exact .inl ⟨r,w,e⟩
     ·rw [List.mem_singleton.mp w] at e;exact .inr e⟩⟩
  have hap:(ra,O.list ((rs.take t).map (fun p=>W.v p.v)++[W.v p.v]))=(ra,O.list ((rs.take (t+1)).map fun p=>W.v p.v)):=by rw [htk,List.map_append];rfl
  refine cAsg.weak hlook (List.Sublist.refl _) ?_;clear hlook;refine asg_name (by walk_at "kind") ?_;obtain ⟨l,r⟩:=p;simp only at hl4 hro;walk_at "ss";refine (key_spec (i:=.N sS) h ?_).deep (by decide);refine cE_listV rfl (by kernel_rfl) rfl (by intros;rfl) ?_;walk_at "ss";refine m_P (f:=119) h (by kernel_rfl) (by kernel_rfl) (by kernel_rfl) (by decide) ?_;walk_at "ss";refine (rhs_spec h ?_).deep (by decide);refine ⟨_,it_tup,fun items e=>⟨fun _=>true,keyV,by subst e;rw [List.length_map];lia,fun x hx=>⟨_,tgt_name (by walk_at "kind"),fun acc L=>ifs_nil ⟨rfl,rfl,fun _=>?_⟩⟩,?_⟩⟩
  ·subst e;obtain ⟨i,hi,rfl⟩:=List.mem_map.mp hx;walk_at "ss";refine (key_spec (i:=i) h ?_).deep (by decide);exact ⟨by rw [keyV_it],rfl⟩
  have e1:((items.filter fun _=>true).map keyV)=r.map fun (i:It)=>i.key.val:=by
   subst e;rw [List.filter_eq_self.mpr (fun _ _=>rfl),List.map_map];exact List.map_congr_left fun i _=>keyV_it i
  rw [e1];refine v_inL (x:=.v (.list (r.map fun (i:It)=>i.key.val))) (vs:=r.map fun (i:It)=>i.key.val) (a:=(It.N sS).key.val) rfl (cl_toDs fun i hi=>sh_key (hro i hi)) (sh_key (uni_ok sS (old_uni (by simp [old4])))) ?_;rw [any_key];walk_at "ss";refine ⟨fun hbb=>?_,fun hbb=>?_⟩
  ·have hin:It.N sS∈r:=by simpa using hbb
   walk_at "ss";refine m_list (.head _) PySem.F.slot_list_append rfl ?_;walk_at "ss";refine v_append .here (by rw [List.length_map,List.length_take];lia) ?_;rw [hap];walk_at "ss";exact fin (b':=true) (look_sub ⟨rfl,rfl,rfl,rfl,rfl,trivial⟩) ⟨fun _=>.inr hin,fun _=>rfl⟩
  ·have hno:It.N sS∉r:=by simpa using hbb
   walk_at "ss";refine m_list (.head _) PySem.F.slot_list_append rfl ?_;walk_at "ss";refine v_append .here (by rw [List.length_map,List.length_take];lia) ?_;rw [hap];walk_at "ss";exact fin (b':=b) (look_sub ⟨rfl,rfl,rfl,rfl,rfl,trivial⟩) ⟨.inl,fun q=>q.elim id fun w=>absurd w hno⟩
 ·obtain ⟨b,hlook,rfl,hb⟩:=hI;rw [List.length_map,List.take_length] at hb;rw [List.length_map,List.take_length];refine seqK_next (cS.weak hlook (List.Sublist.refl _) ?_);clear hlook
  cases b with
  | true =>
   walk_at "ss";refine cT_valK ?_ (by intros;rfl);walk_at "ss";refine truthy_bool' (both_t ?_);walk_at "ss";refine (mk_N h ?_).deep (by decide);walk_at "ss";refine m_list (.head _) PySem.F.slot_list_append rfl ?_;walk_at "ss";refine cE_listF ?_;walk_at "ss";refine m_Gv (f:=193) h (by kernel_rfl) (by kernel_rfl) (by kernel_rfl) (by decide) ?_;walk_at "ss";refine (start_spec h ?_).deep (by decide);walk_at "ss";refine ⟨_,rfl,by simp,?_⟩;walk_at "ss";refine (mk_P (l:=s0) (r:=[.N sS]) h (by simp) ?_).deep (by decide);walk_at "ss";refine v_append .here (by rw [List.length_map];lia) ?_
   have e1:(rs.map (fun p=>W.v p.v)++[W.v (prodV s0 [.N sS])])=(rs++[(s0,[It.N sS])]).map fun p=>W.v (Rw.v p):=by rw [List.map_append];rfl
   rw [e1];walk_at "s";refine seqK_next (cS.fz (fz_obj (a:=ra) (d:=.list ((rs++[(s0,[It.N sS])]).map Rw.v)) (.head _) done_map .here (FrzT.refl _)) (ε':=[("start",.v (nonT s0)),("need_to_add",.v (.bool true)),("result",.v (.list ((rs++[(s0,[It.N sS])]).map Rw.v))),("start",.v (nonT sS)),("cls",.v (.glob (.ref 334))),("grammar",.v (gramV sS rs dom m1 m2))]) (.cons (.same _) (.cons (.same _) (.cons .put (.cons (.same _) (.cons (.same _) (.cons (.same _) .nil)))))) ?_);walk_at "ss";have hG':=(P0new hP).gd (by simp);refine (mk_G h hg hT (by decide) (by decide) (hG'.ok (by rw [List.length_append,List.length_singleton];lia)) fun dom' m1' m2' hgo=>?_).deep (by decide);walk_at "ss";exact ⟨_,_,_,Fz.refl,rfl,h1 dom' m1' m2' hgo⟩
  | false =>
   walk_at "ss";refine cT_valK ?_ (by intros;rfl);walk_at "ss";refine t_none (both_f ?_);walk_at "ss";exact ⟨_,_,_,Fz.weak (List.sublist_cons_self ..),rfl,h2 fun p hp q=>by have:=hb.mpr ⟨p,hp,q⟩;nomatch this⟩
end
theorem cAll.mono {op:BoolOp}{es:List Expr}{kb':Bool->Mem->Prop}(h:cAll C d sc ε μ op es kb)(hk:∀ b m,kb b m->kb' b m):cAll C d sc ε μ op es kb':=fun A env F Z s a b c e =>
 wpBot (h A env F Z s a b c e) fun _ _ ⟨F',μ',q,r1,r2⟩=>⟨F',μ',hk _ _ q,r1,r2⟩
theorem cAll.eq {m:Mem}{op:BoolOp}{es:List Expr}{b:Bool}(h:cAll C d sc ε μ op es fun b' m'=>b'=b∧m'=m)(hk:kb b m):cAll C d sc ε μ op es kb:=h.mono fun b' m' q=>by rw [q.1,q.2];exact hk
noncomputable def KD (kvs:List (Key×W)):Prop:=(kvs.map (·.1)).Nodup∧∀ p∈kvs,∃ t∈xy,p=(Key.s t,W.v (nonT (dmN t)))
theorem KD.len (h:KD kvs):kvs.length≤2:=by
 have:=List.Nodup.length_le_of_subset h.1 (l₂:=xy.map Key.s) fun x hx=>by
  obtain ⟨p,hp,rfl⟩:=List.mem_map.mp hx;obtain ⟨t,ht,rfl⟩:=h.2 p hp;exact List.mem_map_of_mem ht
 rw [List.length_map,List.length_map] at this;exact this
theorem up_facts:∀ t∈xy,Builtin.Str.tooLong (Txt.upper t).length=false∧(Txt.upper t).length≤10:=by decide +kernel
theorem pad_len:padS.length=3:=by decide +kernel
theorem app_len (x y:Str):(x++y).length=x.length+y.length:=by rw [str_len,str_len,str_len,wd_app,List.length_append]
theorem mixR_snoc {p:Rw}:mixR (rs++[p])=mixR rs++mixRow p:=by unfold mixR;rw [List.flatMap_append];simp
@[reducible] noncomputable def mE (ra dd:Addr)(g:V):Env1:=[("dummy_nonterms",.l dd),("result",.l ra),("cls",.v (.glob (.ref 334))),("grammar",.v g),("padding",.v (.str padS))]
@[reducible] noncomputable def mE2 (nr ra dd:Addr)(g:V)(p:Rw):Env1:=("new_rhs",.l nr)::("rule",.v (Rw.v p))::mE ra dd g
@[reducible] noncomputable def mE3 (x:Str)(nr ra dd:Addr)(g:V)(p:Rw):Env1:=("item",.v (.str x))::mE2 nr ra dd g p
section
variable (h:C.K=Mine.hk.heap_1 C.P)(hg:C.gen=false)
include h hg
theorem mixed_spec {st:Str}{m1 m2:Int}(hT:∀ P∈C.tabs,(P,O.tab)∈μ)(hP:P0 rs)(hne:rs≠[])(hz:rs.length≤300)(hk:∀ dom m1 m2,GOk (mixR rs) dom m1 m2->k (.v (gramV st (mixR rs) dom m1 m2)) μ) :
  cCode C 18 μ (.ref 328) [.v (.glob (.ref 334)),.v (gramV st rs dom m1 m2)] [] k:=by
 have hG:=hP.gd hne
 have hml:∀ t,(mixR (rs.take t)).length≤5*rs.length:=fun t=>by
  have q:P0 (rs.take t):=fun p hp=>hP p (List.mem_of_mem_take hp);have:=mix_len q;rw [List.length_take] at this;have:=Nat.min_le_right t rs.length;lia
 refine cCode.fzR ?_;apply cCode_enter [("cls",.v (.glob (.ref 334))),("grammar",.v (gramV st rs dom m1 m2)),("padding",.v (.str padS))];walk_at "enter"
 case hbind =>
  intro F s vs kvs X hv hkv;refine WsAt.i2 hv fun u v h1 h2=>?_;refine KwAt.i_nil hkv ?_;refine ⟨_,BindsTo.of_defaults rfl (X _ _ (by rw [h];exact rfl)) rfl rfl rfl,?_⟩;exact .cons h1 (.cons h2 (.cons (.str _ _) .nil))
 walk_at "ss";refine cE_listM ?_;walk_at "ss";refine ⟨by simp,fun ra=>?_⟩;walk_at "ss";refine cE_dict0 fun dd=>?_;walk_at "ss";refine m_Gv (f:=199) h (by kernel_rfl) (by kernel_rfl) (by kernel_rfl) (by decide) ?_;walk_at "ss";refine (prodsV_spec h ?_).deep (by decide);refine for_is it_list ?_;refine fr101 at_map (fun t ε' μ'=>ε'=mE ra dd (gramV st rs dom m1 m2)∧∃ kvs,μ'=(dd,O.dict kvs)::(ra,O.list ((mixR (rs.take t)).map fun p=>W.v p.v))::μ∧KD kvs) (fun _ _ _=>rfl) (⟨rfl,[],rfl,by simp [KD]⟩) (fun J hJ t p kvs hp hK=>?_) (fun kvs hK=>?_)
 ·have hpm:=List.mem_of_getElem? hp
  have htk:rs.take (t+1)=rs.take t++[p]:=by rw [List.take_add_one,hp];rfl
  have hl4:=hG.len p hpm;have hmt:=hml t;have htx:∀ {t},It.T t∈p.2->t∈xy:=fun ht=>hP.txy hpm ht;have hTm:∀ P∈C.tabs,(P,O.tab)∈(dd,O.dict kvs)::(ra,O.list ((mixR (rs.take t)).map fun p=>W.v p.v))::μ:=fun P hP=>.tail _ (.tail _ (hT P hP));obtain ⟨l,r⟩:=p;simp only at hl4 htx;walk_at "ss";refine cAll.eq (b:=r.all It.isN||decide (r.length≤1)) (m:=(dd,O.dict kvs)::(ra,O.list ((mixR (rs.take t)).map fun p=>W.v p.v))::μ) ?_ ?_
  ·refine cAll_orK ?_;walk_at "ss";refine cT_valK ?_ (by intros;rfl);walk_at "ss";refine m_P (f:=140) h (by kernel_rfl) (by kernel_rfl) (by kernel_rfl) (by decide) ?_;walk_at "ss";refine (islx_spec h hg (by lia) hTm ?_).deep (by decide);refine truthy_bool' ⟨fun e=>?_,fun e=>?_⟩
   ·have e:r.all It.isN=false:=by simpa using e
    refine cAll_orK ?_;walk_at "ss";refine m_P (f:=119) h (by kernel_rfl) (by kernel_rfl) (by kernel_rfl) (by decide) ?_;walk_at "ss";refine (rhs_spec h ?_).deep (by decide);walk_at "ss";refine len_tup (by rw [List.length_map];lia) ?_;rw [List.length_map];walk_at "ss";refine ⟨fun e2=>cAll_or_nil ⟨?_,rfl⟩,fun e2=>⟨?_,rfl⟩⟩
    ·have e2:¬ ((r.length:Int)≤1):=of_decide_eq_false e2;rw [e,decide_eq_false (by lia)];rfl
    ·have e2:((r.length:Int)≤1):=of_decide_eq_true e2;rw [e,decide_eq_true (by lia)];rfl
   ·have e:r.all It.isN=true:=by simpa using e
    exact ⟨by rw [e];rfl,rfl⟩
  ·refine ⟨fun hb=>?_,fun hb=>?_⟩
   ·have hone:mixRow (l,r)=[(l,r)]:=if_pos hb;walk_at "ss";refine m_list (.tail _ (.head _)) PySem.F.slot_list_append rfl ?_;walk_at "ss";refine v_append (.there .here) (by rw [List.length_map];lia) ?_;walk_at "ss";refine forK_cont hJ (ε':=mE ra dd (gramV st rs dom m1 m2)) ⟨rfl,rfl,rfl,rfl,rfl,trivial⟩ (List.Sublist.refl _) ⟨rfl,kvs,?_,hK⟩;rw [htk,mixR_snoc,hone,List.map_append];rfl
   ·have h12:=Bool.or_eq_false_iff.mp hb;have htwo:mixRow (l,r)=r.flatMap dmRow++[(l,r.map (dm dmN))]:=mixRow_two (p:=(l,r)) (by rw [h12.1];decide) (of_decide_eq_false h12.2);walk_at "ss";refine cE_listM ?_;walk_at "ss";refine ⟨by simp,fun nr=>?_⟩;walk_at "ss";refine m_P (f:=119) h (by kernel_rfl) (by kernel_rfl) (by kernel_rfl) (by decide) ?_;walk_at "ss";refine (rhs_spec h ?_).deep (by decide);refine for_is it_tup ?_;refine fr101 at_map (fun i ε' μ'=>ε'=mE2 nr ra dd (gramV st rs dom m1 m2) (l,r)∧∃ kvs,μ'=(nr,O.list (((r.take i).map (dm dmN)).map fun i=>W.v i.v))::(dd,O.dict kvs)::(ra,O.list ((mixR (rs.take t)++(r.take i).flatMap dmRow).map fun p=>W.v p.v))::μ∧KD kvs) (fun _ _ _=>rfl) (⟨rfl,kvs,by simp,hK⟩) (fun J2 hJ2 i it kvs hi hK=>?_) (fun kvs hK=>?_)
    ·have him:=List.mem_of_getElem? hi
     have hrk:r.take (i+1)=r.take i++[it]:=by rw [List.take_add_one,hi];rfl
     have hil:i<r.length:=(List.getElem?_eq_some_iff.mp hi).1;have hfl:((r.take i).flatMap dmRow).length≤4:=Nat.le_trans (dmRow_len _) (Nat.le_trans (List.length_take_le' ..) hl4);walk_at "ss";refine cT_valK ?_ (by intros;rfl);walk_at "ss";refine (isnt_spec (i:=it) h ?_).deep (by decide);refine truthy_bool' ⟨fun e=>?_,fun e=>?_⟩
     ·cases it with
      | T x=>cases e
      | N B =>
       walk_at "ss";refine m_list (.head _) PySem.F.slot_list_append rfl ?_;walk_at "ss";refine v_append .here (by rw [List.length_map,List.length_map,List.length_take];lia) ?_;walk_at "ss";refine forK_next hJ2 (ε':=mE2 nr ra dd (gramV st rs dom m1 m2) (l,r)) ⟨rfl,rfl,rfl,rfl,rfl,rfl,rfl,trivial⟩ (List.Sublist.refl _) ⟨rfl,kvs,?_,hK⟩;rw [hrk,List.map_append,List.map_append,List.flatMap_append];simp [dm,dmRow]
     ·cases it with
      | N B=>cases e
      | T x =>
       have hx:=htx him;obtain ⟨u1,u2⟩:=up_facts x hx;have dml:(dmN x).length≤100:=uni_short _ (dm_uni hx);refine seqK_next (cS_cons (cS1.joinX (fun _:List (Key×W)=>mE3 x nr ra dd (gramV st rs dom m1 m2) (l,r)) (fun kvs=>(nr,O.list (((r.take i).map (dm dmN)).map fun i=>W.v i.v))::(dd,O.dict kvs)::(ra,O.list ((mixR (rs.take t)++(r.take i).flatMap dmRow).map fun p=>W.v p.v))::μ) (fun kvs=>KD kvs∧Key.s x∈kvs.map (·.1)) (fun K hKK=>?_) fun ε₂ kvs hlook hS=>?_))
       ·walk_at "ss";refine v_notInD (kvs:=kvs) (key:=.s x) (.tail _ (.head _)) (fun p hp=>by obtain ⟨t,_,rfl⟩:=hK.2 p hp;rfl) (by show (0:Nat)≠2;decide) ?_;walk_at "ss";refine ⟨fun hb=>?_,fun hb=>?_⟩
        ·have hno:Key.s x∉kvs.map (·.1):=by simpa using hb
         walk_at "ss";refine m_upper ?_;walk_at "ss";refine c_upper (y:=Txt.upper x) rfl u1 ?_;walk_at "ss";refine cE_joined ?_;refine cJ_val ?_;walk_at "ss";refine ⟨Txt.upper x,rfl,by rw [app_len];show 0+_≤_;lia,?_⟩;refine cJ_val ?_;walk_at "ss";refine ⟨padS,rfl,by rw [app_len,app_len,pad_len];show 0+_+_≤_;lia,?_⟩;refine cJ_val ?_;walk_at "ss";refine ⟨Txt.upper x,rfl,by rw [app_len,app_len,app_len,pad_len];show 0+_+_+_≤_;lia,?_⟩;refine cJ_nil (by show (dmN x).length≤_;lia) ?_;rw [show ((Str.empty++Txt.upper x)++padS)++Txt.upper x=dmN x from rfl];walk_at "ss";refine (mk_N h ?_).deep (by decide);walk_at "ss";refine si_dict (kvs:=kvs) (key:=.s x) (.there .here) (fun p hp=>by obtain ⟨t,_,rfl⟩:=hK.2 p hp;rfl) (by show (0:Nat)≠2;decide) (by have:=hK.len;lia) ?_;walk_at "ss";refine hKK _ (look_sub ⟨rfl,rfl,rfl,rfl,rfl,rfl,rfl,rfl,trivial⟩) ⟨⟨?_,fun p hp=>?_⟩,List.mem_map_of_mem (f:=(·.1)) (mem_kput_self hno)⟩
         ·exact kput_nodup hK.1
         ·rcases mem_kput hp with q | q
          ·exact hK.2 p q
          ·exact ⟨x,hx,q⟩
        ·have hin:Key.s x∈kvs.map (·.1):=by simpa using hb
         walk_at "ss";exact hKK kvs (look_sub ⟨rfl,rfl,rfl,rfl,rfl,rfl,rfl,rfl,trivial⟩) ⟨hK,hin⟩
       ·have hK:=hS.1;have hin:=hS.2;obtain ⟨⟨key,u⟩,hpm2,hk2⟩:=List.mem_map.mp hin;have hk2:key=Key.s x:=hk2;subst hk2;obtain ⟨t',_,hu⟩:=hK.2 _ hpm2;injection hu with hu1 hu2;injection hu1 with hu1;subst hu1;subst hu2
        have hkd:∀ p∈kvs,p.1.kind=(Key.s x).kind:=fun p hp=>by obtain ⟨t,_,rfl⟩:=hK.2 p hp;rfl
        refine seqK_next (cS.weak hlook (List.Sublist.refl _) ?_);clear hlook;walk_at "ss";refine m_list (.head _) PySem.F.slot_list_append rfl ?_;walk_at "ss";refine ⟨sub_dict (kvs:=kvs) (.tail _ (.head _)),v_itemD (kvs:=kvs) (key:=.s x) (.tail _ (.head _)) hkd (by show (0:Nat)≠2;decide) hpm2 ?_⟩;walk_at "ss";refine v_append .here (by rw [List.length_map,List.length_map,List.length_take];lia) ?_;walk_at "ss";refine m_list (.tail _ (.tail _ (.head _))) PySem.F.slot_list_append rfl ?_;walk_at "ss";refine cE_call1k (by intros;rfl) (by intros;rfl) ?_;walk_at "ss";refine ⟨sub_dict (kvs:=kvs) (.tail _ (.head _)),v_itemD (kvs:=kvs) (key:=.s x) (.tail _ (.head _)) hkd (by show (0:Nat)≠2;decide) hpm2 ?_⟩;walk_at "ss";refine cE_listF ?_;walk_at "ss";refine ⟨_,rfl,by simp,?_⟩;refine (mk_Pk (l:=dmN x) (r:=[.T x]) h (by simp) ?_).deep (by decide);walk_at "ss";refine v_append (.there (.there .here)) (by rw [List.length_map,List.length_append];lia) ?_;walk_at "ss";refine forK_next hJ2 (ε':=mE2 nr ra dd (gramV st rs dom m1 m2) (l,r)) ⟨rfl,rfl,rfl,rfl,rfl,rfl,rfl,trivial⟩ (List.Sublist.refl _) ⟨rfl,kvs,?_,hK⟩;rw [hrk];simp only [List.map_append,List.flatMap_append,<-List.append_assoc];rfl
    ·rw [List.length_map,List.take_length];refine seqK_next (cS.fz (fz_obj (a:=nr) (d:=.list ((r.map (dm dmN)).map It.v)) (.head _) done_map .here (FrzT.refl _)) (ε':=[("new_rhs",.v (.list ((r.map (dm dmN)).map It.v))),("rule",.v (Rw.v (l,r))),("dummy_nonterms",.l dd),("result",.l ra),("cls",.v (.glob (.ref 334))),("grammar",.v (gramV st rs dom m1 m2)),("padding",.v (.str padS))]) (.cons .put (relN_refl _)) ?_);have hfl:(r.flatMap dmRow).length≤4:=Nat.le_trans (dmRow_len r) hl4;walk_at "ss";refine m_list (.tail _ (.head _)) PySem.F.slot_list_append rfl ?_;walk_at "ss";refine m_P (f:=112) h (by kernel_rfl) (by kernel_rfl) (by kernel_rfl) (by decide) ?_;walk_at "ss";refine (lhs_spec h ?_).deep (by decide);walk_at "ss";refine (mk_P (l:=l) (r:=r.map (dm dmN)) h (by rw [List.length_map];lia) ?_).deep (by decide);walk_at "ss";refine v_append (.there .here) (by rw [List.length_map,List.length_append];lia) ?_;walk_at "ss";refine forK_next hJ (ε':=mE ra dd (gramV st rs dom m1 m2)) ⟨rfl,rfl,rfl,rfl,rfl,trivial⟩ (List.Sublist.refl _) ⟨rfl,kvs,?_,hK⟩;rw [htk,mixR_snoc,htwo,<-List.append_assoc,List.map_append (l₁:=mixR (rs.take t)++r.flatMap dmRow)];rfl
 ·rw [List.length_map,List.take_length];refine seqK_next (cS.fz (fz_obj (a:=ra) (d:=.list ((mixR rs).map Rw.v)) (.tail _ (.head _)) done_map (.there .here) (FrzT.refl _)) (ε':=[("dummy_nonterms",.l dd),("result",.v (.list ((mixR rs).map Rw.v))),("cls",.v (.glob (.ref 334))),("grammar",.v (gramV st rs dom m1 m2)),("padding",.v (.str padS))]) (.cons (.same _) (.cons .put (.cons (.same _) (.cons (.same _) (.cons (.same _) .nil))))) ?_);have hG':=(mix_P1 hP).gd (mix_ne hne);have hml:=mix_len hP;walk_at "ss";refine m_Gv (f:=193) h (by kernel_rfl) (by kernel_rfl) (by kernel_rfl) (by decide) ?_;walk_at "ss";refine (start_spec h ?_).deep (by decide);walk_at "ss";refine (mk_G h hg (fun P hP=>.tail _ (hT P hP)) (by decide) (by decide) (hG'.ok (by lia)) fun dom' m1' m2' hgo=>?_).deep (by decide);walk_at "ss";exact ⟨_,_,_,Fz.weak (List.sublist_cons_self ..),rfl,hk dom' m1' m2' hgo⟩
end
section
open PySem PySem.Calls
noncomputable def lft (r:List It)(l:Str)(k:Nat):Str:=(r.take k).foldl chN l
noncomputable def chp (r:List It)(l:Str)(i:Nat):List Rw:=(List.range i).map fun k=>(lft r l k,[r.getD k (.N sS),.N (lft r l (k+1))])
theorem chain_eq:∀ {r:List It}{l:Str},2≤r.length->chain chN r l=chp r l (r.length-2)++[(lft r l (r.length-2),r.drop (r.length-2))]
 | [],_,h=>by nomatch h
 | x::r,l,h=>by
  by_cases hr:2≤r.length
  ·rw [chain_long hr,chain_eq hr]
   have e:(x::r).length-2=(r.length-2)+1:=by rw [List.length_cons];exact Nat.sub_add_comm hr
   rw [e]
   have e1:chp (x::r) l ((r.length-2)+1)=(l,[x,.N (chN l x)])::chp r (chN l x) (r.length-2):=by
    unfold chp;rw [List.range_succ_eq_map,List.map_cons,List.map_map];rfl
   rw [e1];rfl
  ·have hl:r.length=1:=Nat.le_antisymm (Nat.le_of_lt_succ (Nat.lt_of_not_le hr)) (Nat.le_of_succ_le_succ h);rw [chain_short hr,List.length_cons,hl];rfl
theorem chp_succ {r:List It}{l:Str}{x:It}(h:r[i]? = some x):chp r l (i+1)=chp r l i++[(lft r l i,[x,.N (chN (lft r l i) x)])]∧lft r l (i+1)=chN (lft r l i) x:=by
 have e:lft r l (i+1)=chN (lft r l i) x:=by
  unfold lft;rw [List.take_add_one,h,List.foldl_append];rfl
 refine ⟨?_,e⟩;unfold chp;rw [List.range_succ,List.map_append,List.map_singleton,List.getD_eq_getElem?_getD,h,e];rfl
theorem binR_snoc {p:Rw}:binR (rs++[p])=binR rs++chain chN p.2 p.1:=by unfold binR;rw [List.flatMap_append];simp
theorem lft_len {r:List It}{l:Str}(hl:l.length≤100)(hr:∀ i∈r,(nmI i).length≤100)(k:Nat):(lft r l k).length≤100+103*k:=by
 induction k with
 | zero=>exact hl
 | succ k ih =>
  rw [Nat.mul_succ,<-Nat.add_assoc]
  cases e:r[k]? with
  | none =>
   have:lft r l (k+1)=lft r l k:=by unfold lft;rw [List.take_add_one,e];simp
   rw [this];exact Nat.le_trans ih (Nat.le_add_right ..)
  | some x =>
   rw [(chp_succ (l:=l) e).2];unfold chN;rw [app_len,app_len,pad_len];exact Nat.le_trans (Nat.add_le_add (Nat.add_le_add_right ih 3) (hr x (List.mem_of_getElem? e))) (Nat.le_of_eq (by rw [Nat.add_assoc]))
noncomputable def isU (p:Rw):Bool:=decide (p.2.length=1)&&p.2.all It.isN
theorem isU_iff {p:Rw}:isU p=true↔single p.2:=by
 unfold isU;rw [Bool.and_eq_true,decide_eq_true_iff];constructor
 ·rintro ⟨h1,h2⟩;obtain ⟨i,e⟩:=List.length_eq_one_iff.mp h1;rw [e] at h2
  cases i with
  | N C=>exact ⟨C,e⟩
  | T t=>simp [It.isN] at h2
 ·rintro ⟨C,e⟩;rw [e];exact ⟨rfl,rfl⟩
noncomputable def oldv:List (Str×Str):=old4.flatMap fun A=>v3.map fun B=>(A,B)
theorem mem_oldv {A B:Str}(hA:A∈old4)(hB:B∈v3):(A,B)∈oldv:=List.mem_flatMap.mpr ⟨A,hA,List.mem_map.mpr ⟨B,hB,rfl⟩⟩
structure UI (rs R Q:List Rw)(P:List (Str×Str)):Prop where
 pr:∀ A B,(A,B)∈P->A∈old4∧B∈v3
 nd:P.Nodup
 q:∀ p∈Q,∃ C,p.2=[It.N C]∧p.1∈old4∧C∈v3∧∀ w,Lg rs C w->Lg rs p.1 w
 i1:∀ A b,(A,b)∈rs->¬ single b->(A,b)∈R
 i2:∀ A C,(A,[It.N C])∈rs->(A,C)∈P∨(A,[It.N C])∈Q
 i3:∀ A B b,(A,B)∈P->(B,b)∈rs->(¬ single b->(A,b)∈R)∧∀ C,b=[It.N C]->(A,C)∈P∨(A,[It.N C])∈Q
 i4:∀ A b,(A,b)∈R->(A,b)∈rs∨∃ B,(A,B)∈P∧(B,b)∈rs
 i5:∀ A B,(A,B)∈P->∀ w,Lg rs B w->Lg rs A w
 sg:NoSg R
 sz:R.length≤rs.length+P.length*rs.length
theorem UI.plen {Q:List Rw}{P:List (Str×Str)}(h:UI rs R Q P):P.length≤12:=by
 have:=List.Nodup.length_le_of_subset h.nd (l₂:=oldv) fun x hx=>mem_oldv (h.pr x.1 x.2 hx).1 (h.pr x.1 x.2 hx).2;exact Nat.le_trans this (by decide +kernel)
theorem ui_start (hg:Gd rs):UI rs (rs.filter fun p=>!isU p) (rs.filter isU) []:=by
 refine ⟨by simp,.nil,fun p hp=>?_,fun A b hb hn=>List.mem_filter.mpr ⟨hb,?_⟩,fun A C hb=>.inr (List.mem_filter.mpr ⟨hb,isU_iff.mpr ⟨C,rfl⟩⟩),by simp,fun A b hb=>.inl (List.mem_filter.mp hb).1,by simp,fun p hp=>?_,?_⟩
 ·obtain ⟨h1,h2⟩:=List.mem_filter.mp hp;obtain ⟨C,e⟩:=isU_iff.mp h2;obtain ⟨h3,h4⟩:=hg.un p h1 C e;refine ⟨C,e,h3,h4,fun w hw=>lg_closed rs p.1 [.N C] w ?_ (sem_one.mpr hw)⟩;rw [<-e];exact h1
 ·rw [Bool.eq_false_iff.mpr fun q=>hn (isU_iff.mp q)];rfl
 ·have:=(List.mem_filter.mp hp).2
  exact fun q=>by rw [isU_iff.mpr q] at this;nomatch this
 ·have:=List.length_filter_le (fun p=>!isU p) rs;show _≤rs.length+0*rs.length;lia
theorem unit_inj {A A' C C':Str}(e:(A',[It.N C'])=(A,[It.N C])):(A',C')=(A,C):=by
 injection e with e1 e2;injection e2 with e2;injection e2 with e2;rw [e1,e2]
theorem key_in {Q:List Rw}{P:List (Str×Str)}{A A' C C':Str}(q:(A',C')∈P∨(A',[It.N C'])∈(A,[It.N C])::Q):(A',C')∈(A,C)::P∨(A',[It.N C'])∈Q :=
 q.elim (fun q=>.inl (.tail _ q)) fun q=>(List.mem_cons.mp q).elim (fun e=>.inl (unit_inj e▸.head _)) .inr
theorem UI.skip {Q:List Rw}{P:List (Str×Str)}{A C:Str}(h:UI rs R ((A,[It.N C])::Q) P)(hin:(A,C)∈P):UI rs R Q P:=by
 have key:∀ {A' C'},(A',C')∈P∨(A',[It.N C'])∈(A,[It.N C])::Q->(A',C')∈P∨(A',[It.N C'])∈Q:=fun {A' C'} q=>(key_in q).imp (fun q=>(List.mem_cons.mp q).elim (fun (e:(A',C')=(A,C))=>by rw [e];exact hin) id) id;exact ⟨h.pr,h.nd,fun p hp=>h.q p (.tail _ hp),h.i1,fun A' C' hb=>key (h.i2 A' C' hb),fun A' B b h1 h2=>⟨(h.i3 A' B b h1 h2).1,fun C' e=>key ((h.i3 A' B b h1 h2).2 C' e)⟩,h.i4,h.i5,h.sg,h.sz⟩
noncomputable def ofC (rs:List Rw)(C:Str):List Rw:=rs.filter fun p=>decide (p.1=C)
theorem mem_ofC {C:Str}{p:Rw}:p∈ofC rs C↔p∈rs∧p.1=C:=by unfold ofC;rw [List.mem_filter,decide_eq_true_iff]
noncomputable def hdA (A:Str)(p:Rw):Rw:=(A,p.2)
theorem ofC_old {C:Str}{f:Rw->Bool}{r:Rw}(hr:r∈(ofC rs C).filter f):r∈rs∧(C,r.2)∈rs∧f r=true:=by
 have h:=List.mem_filter.mp hr;have h1:=mem_ofC.mp h.1;exact ⟨h1.1,by rw [<-h1.2];exact h1.1,h.2⟩
theorem ofC_new {A C:Str}{f:Rw->Bool}{b:List It}(hb:(C,b)∈rs)(hf:f (C,b)=true):(A,b)∈((ofC rs C).filter f).map (hdA A):=List.mem_map.mpr ⟨(C,b),List.mem_filter.mpr ⟨mem_ofC.mpr ⟨hb,rfl⟩,hf⟩,rfl⟩
theorem UI.step {Q:List Rw}{P:List (Str×Str)}{A C:Str}(hg:Gd rs)(h:UI rs R ((A,[It.N C])::Q) P)(hno:(A,C)∉P) :
  UI rs (R++((ofC rs C).filter fun p=>!isU p).map (hdA A)) (Q++((ofC rs C).filter isU).map (hdA A)) ((A,C)::P):=by
 refine el14 (h.q _ (.head _)) fun C' eC hA hC hl=>?_;have eC:=congrArg Prod.snd (unit_inj (A:=A) (A':=A) (congrArg (Prod.mk A) eC));dsimp only at eC;rw [<-eC] at hC hl;have key:∀ {A' C'},(A',C')∈P∨(A',[It.N C'])∈(A,[It.N C])::Q->(A',C')∈(A,C)::P∨(A',[It.N C'])∈Q++((ofC rs C).filter isU).map (hdA A):=fun q=>(key_in q).imp id (List.mem_append_left _)
 refine ⟨fun A' B hm=>(List.mem_cons.mp hm).elim (fun e=>?_) (h.pr A' B),List.nodup_cons.mpr ⟨hno,h.nd⟩,fun p hp=>(List.mem_append.mp hp).elim (fun q=>h.q p (.tail _ q)) fun q=>el12 (List.mem_map.mp q) fun r hr e=>?_,fun A' b hb hn=>List.mem_append_left _ (h.i1 A' b hb hn),fun A' C' hb=>key (h.i2 A' C' hb),
  fun A' B b hm hb=>(List.mem_cons.mp hm).elim (fun e=>?_) fun q=>⟨fun hn=>List.mem_append_left _ ((h.i3 A' B b q hb).1 hn),fun C' e=>key ((h.i3 A' B b q hb).2 C' e)⟩,fun A' b hb=>(List.mem_append.mp hb).elim (fun q=>(h.i4 A' b q).imp id fun w=>el12 w fun B w1 w2=>⟨B,.tail _ w1,w2⟩) fun q=>el12 (List.mem_map.mp q) fun r hr e=>?_,
  fun A' B hm=>(List.mem_cons.mp hm).elim (fun e=>?_) (h.i5 A' B),fun p hp=>(List.mem_append.mp hp).elim (h.sg p) fun q=>el12 (List.mem_map.mp q) fun r hr e=>?_,?_⟩
 ·have e:=Prod.mk.inj e;rw [e.1,e.2];exact ⟨hA,hC⟩
 ·have ho:=ofC_old hr;rw [<-e];refine (isU_iff.mp ho.2.2).elim fun D eD=>⟨D,eD,hA,(hg.un r ho.1 D eD).2,fun w hw=>hl w (lg_closed rs C [.N D] w ?_ (sem_one.mpr hw))⟩;rw [<-eD];exact ho.2.1
 ·have e:=Prod.mk.inj e;rw [e.2] at hb;rw [e.1];exact ⟨fun hn=>List.mem_append_right _ (ofC_new hb (by rw [Bool.eq_false_iff.mpr fun q=>hn (isU_iff.mp q)];rfl)),fun D eD=>.inr (List.mem_append_right _ (eD▸ofC_new hb (isU_iff.mpr ⟨D,eD⟩)))⟩
 ·have e:=Prod.mk.inj e;rw [<-e.2];exact .inr ⟨C,e.1▸.head _,(ofC_old hr).2.1⟩
 ·have e:=Prod.mk.inj e;rw [e.1,e.2];exact hl
 ·rw [<-e]
  exact fun q=>by have h3:=(ofC_old hr).2.2;rw [isU_iff.mpr (show single r.2 from q)] at h3;nomatch h3
 ·rw [List.length_append,List.length_map,List.length_cons,Nat.succ_mul,<-Nat.add_assoc];exact Nat.add_le_add h.sz (Nat.le_trans (List.length_filter_le ..) (List.length_filter_le ..))
theorem UI.done {P:List (Str×Str)}(h:UI rs R [] P):UnitR rs R P:=by
 have key:∀ {A C},(A,C)∈P∨(A,[It.N C])∈([]:List Rw)->(A,C)∈P:=fun q=>q.elim id fun w=>by cases w
 refine ⟨h.pr,h.i1,fun A C hb=>key (h.i2 A C hb),fun A B b h1 h2=>⟨(h.i3 A B b h1 h2).1,fun C e=>key ((h.i3 A B b h1 h2).2 C e)⟩,h.i4,h.i5,h.sg,?_⟩;have h1:=h.sz;have h2:=Nat.mul_le_mul_right rs.length h.plen;lia
theorem UnitR.gd {P:List (Str×Str)}(h:UnitR rs R P)(g:Gd rs)(ax:(sA,[It.T sx])∈rs):Gd R:=by
 have src:∀ p∈R,∃ q∈rs,q.2=p.2∧p.1∈uni:=fun p hp=>by
  rcases h.i4 p.1 p.2 hp with w | ⟨B,hB,w⟩
  ·exact ⟨p,w,rfl,g.hd p w⟩
  ·exact ⟨_,w,rfl,old_uni (h.pr _ _ hB).1⟩
 refine ⟨List.ne_nil_of_mem (h.i1 _ _ ax (by rintro ⟨C,q⟩;injection q with q _;nomatch q)),fun p hp=>?_,fun p hp=>?_,fun p hp=>?_,fun p hp=>?_,fun p hp=>?_,fun p hp C e=>absurd ⟨C,e⟩ (h.sg p hp)⟩
 ·obtain ⟨q,_,_,hu⟩:=src p hp;exact hu
 ·obtain ⟨q,hq,e,_⟩:=src p hp;rw [<-e];exact g.len q hq
 ·obtain ⟨q,hq,e,_⟩:=src p hp;rw [<-e];exact g.itn q hq
 ·obtain ⟨q,hq,e,_⟩:=src p hp;rw [<-e];exact g.itt q hq
 ·obtain ⟨q,hq,e,_⟩:=src p hp;rw [<-e];exact g.opn q hq
end
section
open PyProof.Rows
theorem wpAny_SubSlice {w:World}{value:Expr}{lower upper:Option Expr}{p:Pos}{T id:String}{Q:Value->Shared->Prop}(hl:typeLookup (.type T) "__getitem__" = pure (some (.builtin id)))(h:wpAny (model prog w) A (eval value env) (fun o s₁=>wpAny (model prog w) A (eval (.Slice lower upper none p) env) (fun i s₂=>s₂.TypeIs o T∧wpAny (model prog w) A (getItem o i) Q E s₂) E s₁) E s) :
  wpAny (model prog w) A (eval (.Subscript value (.Slice lower upper none p) pos) env) Q E s:=by
 rw [eval_Subscript]
 refine wpAny_bind (wpAny_mono h (fun o s₁ h₁=>wpAny_bind (wpAny_holding (wpAny_mono h₁ (fun i s₂ h₂=>wpAny_bind (wpAny_standAt ?_)) fun _ _ x=>x)))
  fun _ _ x=>x)
 have fin:wpAny (model prog w) A (operate [i,o] (getItem o i)) (fun r s₃=>wpAny (model prog w) A (letTemporaryGo value o r>>=fun _=>pure r) Q E s₃) E s₂ :=
  wpAny_operating (wpAny_mono h₂.2 (fun r s₃ h₃=>wpAny_bind (wpAny_letTemporaryGo (wpAny_pure h₃))) fun _ _ x=>x)
 first
  | (refine wpAny_bind ?_
     rw [getitemInPython_of_ne h₂.1.not_modules];refine wpAny_bind (wpAny_specialOf h₂.1 hl ?_)
     first
      | exact wpAny_pure (wpAny_bind fin)
      | exact wpAny_bind (wpAny_pure (wpAny_bind fin))
      | exact wpAny_bind fin)
  | (refine wpAny_bind (wpAny_specialOf h₂.1 hl ?_)
     first
      | exact wpAny_bind (wpAny_pure (wpAny_bind fin))
      | exact wpAny_bind fin)
theorem cE_tupEnd {v:Expr}{p:Pos}(h:cE C d sc ε μ v fun w μ₁=>∃ ds:List V,w=.v (.tup ds)∧3≤ds.length∧ds.length≤1000 ∧
  cE C d sc ε μ₁ e fun u μ₂=>u=.v (.int (-2))∧k (.v (.tup (ds.drop (ds.length-2)))) μ₂):cE C d sc ε μ (.Subscript v (.Slice (some e) none none p) pos) k:=fun A env F Z s hA hs R S=>by
 refine wpAny_SubSlice (T := "tuple") PyProof.Rows.slot_tuple_getitem.lookup (wpBot (h A env F Z s hA hs R S) fun o s₁ hq=>wpAny_Slice ?_);obtain ⟨w,F₁,μ₁,⟨ds,rfl,hl,hz,h₂⟩,le₁,S₁,hv⟩:=hq;refine Val.i_tup hv fun a ws n h1 h4=>?_;show wpAny _ A (eval e env) _ _ _;refine wpBot (h₂ A env F₁ Z s₁ hA hs (R.mono le₁) S₁) fun u s₂ hq=>?_;obtain ⟨w,F₂,μ₂,⟨rfl,hk⟩,le₂,S₂,hu⟩:=hq;refine Val.i_int hu fun tk=>?_;have en:evalPart (none:Option Expr) env=pure .none:=rfl;rw [en];refine wpAny_pure (wpAny_pure ?_)
 have hsz:ws.size=ds.length:=by rw [<-Array.length_toList,h4.toList]
 have S₃:=S₂.ext (h':=s₂.heap.push { cls:=.type "slice",data:=.fields #[.int (-2) tk,.none,.none] }) (fun _ _ e=>Heap.get?_push_of_some _ e) s₂.toks;have hT:IsTup (s₂.heap.push { cls:=.type "slice",data:=.fields #[.int (-2) tk,.none,.none] }) a ws:=⟨_,S₃.fz _ _ (le₂ _ _ h1),rfl,n,rfl⟩;refine ⟨⟨_,S₃.fz _ _ (le₂ _ _ h1),rfl⟩,getItem_last hT (Heap.IsSliceOf.new ..) (by rw [hsz];exact hl) ?_ (by rw [hsz];unfold sizeLine;lia)⟩;refine el13 (Sim.pushF S₃ (o:={ cls:=.type "tuple",data:=.seq (ws.toList.drop (ws.size-2)).toArray }) rfl) fun F' le e S₄=>?_;refine ⟨_,F',μ₂,hk,(le₁.trans le₂).trans le,S₄,.tup e ?_⟩;rw [hsz];exact Vals.drop (Vals.mono (le₂.trans le) h4)
end
@[reducible] noncomputable def bE (ra:Addr)(g:V):Env1:=[("result",.l ra),("cls",.v (.glob (.ref 334))),("grammar",.v g),("padding",.v (.str padS))]
@[reducible] noncomputable def bE2 (ra:Addr)(g:V)(p:Rw)(l:Str):Env1:=("left_side",.v (nonT l))::("rule",.v (Rw.v p))::bE ra g
section
variable (h:C.K=Mine.hk.heap_1 C.P)(hg:C.gen=false)
include h hg
theorem bin_spec {st:Str}{m1 m2:Int}(hT:∀ P∈C.tabs,(P,O.tab)∈μ)(hP:P1 rs)(hne:rs≠[])(hb:(binR rs)≠[])(hz:rs.length≤600)(hk:∀ dom m1 m2,GOk (binR rs) dom m1 m2->k (.v (gramV st (binR rs) dom m1 m2)) μ) :
  cCode C 18 μ (.ref 309) [.v (.glob (.ref 334)),.v (gramV st rs dom m1 m2)] [] k:=by
 have hG:=hP.gd hne
 have hml:∀ t,(binR (rs.take t)).length≤3*rs.length:=fun t=>by
  have q:P1 (rs.take t):=fun p hp=>hP p (List.mem_of_mem_take hp);have:=bin_len q;rw [List.length_take] at this;have:=Nat.min_le_right t rs.length;lia
 apply cCode_enter [("cls",.v (.glob (.ref 334))),("grammar",.v (gramV st rs dom m1 m2)),("padding",.v (.str padS))];walk_at "enter"
 case hbind =>
  intro F s vs kvs X hv hkv;refine WsAt.i2 hv fun u v h1 h2=>?_;refine KwAt.i_nil hkv ?_;refine ⟨_,BindsTo.of_defaults rfl (X _ _ (by rw [h];exact rfl)) rfl rfl rfl,?_⟩;exact .cons h1 (.cons h2 (.cons (.str _ _) .nil))
 walk_at "ss";refine cE_listM ?_;walk_at "ss";refine ⟨by simp,fun ra=>?_⟩;walk_at "ss";refine m_Gv (f:=199) h (by kernel_rfl) (by kernel_rfl) (by kernel_rfl) (by decide) ?_;walk_at "ss";refine (prodsV_spec h ?_).deep (by decide);refine for_is it_list ?_;refine fr000 at_map (fun t ε' μ'=>ε'=bE ra (gramV st rs dom m1 m2)∧μ'=(ra,O.list ((binR (rs.take t)).map fun p=>W.v p.v))::μ) (fun _ _ _=>rfl) (⟨rfl,rfl⟩) (fun J hJ t p hp=>?_) ?_
 ·have hpm:=List.mem_of_getElem? hp
  have htk:rs.take (t+1)=rs.take t++[p]:=by rw [List.take_add_one,hp];rfl
  have hl4:=hG.len p hpm;have hmt:=hml t;have hPp:=hP p hpm;have hl100:=uni_short _ (hG.hd p hpm);have hi100:∀ B,It.N B∈p.2->B.length≤100:=fun B hB=>uni_short _ (hG.itn p hpm B hB)
  have ht100:∀ i∈p.2,(nmI i).length≤100:=fun i hi=>by
   cases i with
   | N B=>exact hi100 B hi
   | T t =>
    have:=hG.itt p hpm t hi;simp only [xy,List.mem_cons,List.not_mem_nil,or_false] at this
    rcases this with rfl | rfl<;>decide +kernel
  obtain ⟨l,r⟩:=p;simp only at hl4 hl100 ht100 hi100;walk_at "ss";refine m_P (f:=119) h (by kernel_rfl) (by kernel_rfl) (by kernel_rfl) (by decide) ?_;walk_at "ss";refine (rhs_spec h ?_).deep (by decide);walk_at "ss";refine len_tup (by rw [List.length_map];lia) ?_;rw [List.length_map];walk_at "ss";refine ⟨fun e=>?_,fun e=>?_⟩
  ·have hr3:3≤r.length:=by have:=of_decide_eq_true e;lia
   have hL:isLong (l,r):=by
    rcases hPp with q | ⟨t,_,q⟩
    ·exact q
    ·injection q with _ q;rw [q] at hr3;simp at hr3
   have hN:∀ i∈r,∃ B∈v5,i=.N B:=hL.2.2.1 (by show 2≤r.length;lia);walk_at "ss";refine m_P (f:=112) h (by kernel_rfl) (by kernel_rfl) (by kernel_rfl) (by decide) ?_;walk_at "ss";refine (lhs_spec h ?_).deep (by decide);walk_at "ss";refine m_P (f:=119) h (by kernel_rfl) (by kernel_rfl) (by kernel_rfl) (by decide) ?_;walk_at "ss";refine (rhs_spec h ?_).deep (by decide);walk_at "ss";refine len_tup (by rw [List.length_map];lia) ?_;rw [List.length_map];walk_at "ss";rw [show (r.length:Int)-2=((r.length-2:Nat):Int) from (Int.ofNat_sub (Nat.le_of_succ_le hr3)).symm];refine for_is (it_rng (by decide) (by decide) (ni_neg _) (ni_big (Nat.lt_of_le_of_lt (Nat.sub_le ..) (Nat.lt_succ_of_le hl4)))) ?_;refine cFor_mk (fun i ε' μ'=>Looks (bE2 ra (gramV st rs dom m1 m2) (l,r) (lft r l i)) ε'∧μ'=(ra,O.list ((binR (rs.take t)++chp r l i).map fun p=>W.v p.v))::μ) ⟨fun _ _ q=>q,by simp [chp]⟩ (fun J2 hJ2 i x ε' μ' hx hI=>?_) (fun ε' μ' hI=>?_)
   ·obtain ⟨_,rfl,hi⟩:=at_rng (n:=r.length-2) i x hx;obtain ⟨hlook,rfl⟩:=hI;have hil:i<r.length:=Nat.lt_of_lt_of_le hi (Nat.sub_le ..);obtain ⟨B,hB5,hB⟩:=hN r[i] (List.getElem_mem hil)
    have hri:r[i]? = some (.N B):=by rw [List.getElem?_eq_getElem hil,hB]
    have hBr:It.N B∈r:=List.mem_of_getElem? hri;obtain ⟨c1,c2⟩:=chp_succ (l:=l) hri;have hll:=lft_len hl100 ht100 i;have hBl:=hi100 B hBr
    have hcl:(chp r l i).length≤4:=by unfold chp;rw [List.length_map,List.length_range];lia
    refine cAsg.weak hlook (List.Sublist.refl _) ?_;clear hlook;refine asg_name (by walk_at "kind") ?_;walk_at "ss";refine m_P (f:=119) h (by kernel_rfl) (by kernel_rfl) (by kernel_rfl) (by decide) ?_;walk_at "ss";refine (rhs_spec h ?_).deep (by decide);walk_at "ss";refine ⟨sub_tup,v_item_tup (x:=nonT B) (by lia) (by lia) (by rw [List.getElem?_map,show ((i:Int)).toNat=i from rfl,hri];rfl) ?_⟩;walk_at "ss";refine m_N h ?_;walk_at "ss";refine (sym_spec h ?_).deep (by decide);walk_at "ss";refine v_addS (by rw [pad_len];lia) ?_;walk_at "ss";refine m_N h ?_;walk_at "ss";refine (sym_spec h ?_).deep (by decide);walk_at "ss";refine v_addS (by rw [app_len,pad_len];lia) ?_;walk_at "ss";refine (mk_N h ?_).deep (by decide);rw [show (lft r l i++padS)++B=chN (lft r l i) (.N B) from rfl];walk_at "ss";refine cE_tuple ?_;walk_at "ss";refine ⟨_,rfl,by simp,?_⟩;walk_at "ss";refine (mk_Pt (l:=lft r l i) (r:=[.N B,.N (chN (lft r l i) (.N B))]) h ?_).deep (by decide);walk_at "ss";refine m_list (.head _) PySem.F.slot_list_append rfl ?_;walk_at "ss";refine v_append .here (by rw [List.length_map,List.length_append];lia) ?_;walk_at "ss";refine ⟨bE2 ra (gramV st rs dom m1 m2) (l,r) (lft r l (i+1)),_,⟨look_sub ⟨by rw [c2];rfl,rfl,rfl,rfl,rfl,rfl,trivial⟩,List.Sublist.refl _⟩,hJ2 ⟨fun _ _ q=>q,?_⟩⟩;rw [c1,<-List.append_assoc,List.map_append (l₁:=binR (rs.take t)++chp r l i)];rfl
   ·obtain ⟨hlook,rfl⟩:=hI
    have erl:(rngV 0 ((r.length-2:Nat):Int)).length=r.length-2:=by unfold rngV;rw [List.length_map,List.length_range];lia
    rw [erl] at hlook ⊢
    have hcl:(chp r l (r.length-2)).length≤4:=by unfold chp;rw [List.length_map,List.length_range];lia
    refine seqK_next (cS.weak hlook (List.Sublist.refl _) ?_);clear hlook;walk_at "ss";refine cE_tupEnd ?_;walk_at "ss";refine m_P (f:=119) h (by kernel_rfl) (by kernel_rfl) (by kernel_rfl) (by decide) ?_;walk_at "ss";refine (rhs_spec h ?_).deep (by decide);refine ⟨_,rfl,by rw [List.length_map];exact hr3,by rw [List.length_map];lia,cE_neg ⟨rfl,?_⟩⟩;rw [List.length_map,<-List.map_drop];walk_at "ss";refine (mk_Pt (l:=lft r l (r.length-2)) (r:=r.drop (r.length-2)) h ?_).deep (by decide);walk_at "ss";refine m_list (.head _) PySem.F.slot_list_append rfl ?_;walk_at "ss";refine v_append .here (by rw [List.length_map,List.length_append];lia) ?_;walk_at "ss";refine forK_next hJ (ε':=bE ra (gramV st rs dom m1 m2)) ⟨rfl,rfl,rfl,rfl,trivial⟩ (List.Sublist.refl _) ⟨rfl,?_⟩;rw [htk,binR_snoc,chain_eq (by show 2≤r.length;lia),<-List.append_assoc,List.map_append (l₁:=binR (rs.take t)++chp r l (r.length-2))];rfl
  ·have hr2:¬ 2<r.length:=by have:=of_decide_eq_false e;lia
   have hone:chain chN r l=[(l,r)]:=by
    cases r with
    | nil=>rfl
    | cons x r=>exact chain_short (by rw [List.length_cons] at hr2;lia)
   walk_at "ss";refine m_list (.head _) PySem.F.slot_list_append rfl ?_;walk_at "ss";refine v_append .here (by rw [List.length_map];lia) ?_;walk_at "ss";refine forK_next hJ (ε':=bE ra (gramV st rs dom m1 m2)) ⟨rfl,rfl,rfl,rfl,trivial⟩ (List.Sublist.refl _) ⟨rfl,?_⟩;rw [htk,binR_snoc,hone,List.map_append];rfl
 ·rw [List.length_map,List.take_length];refine seqK_next (cS.fz (fz_obj (a:=ra) (d:=.list ((binR rs).map Rw.v)) (.head _) done_map .here (FrzT.refl _)) (ε':=[("result",.v (.list ((binR rs).map Rw.v))),("cls",.v (.glob (.ref 334))),("grammar",.v (gramV st rs dom m1 m2)),("padding",.v (.str padS))]) (.cons .put (relN_refl _)) ?_);have hG':=(bin_P2 hP).gd hb;have hml:=bin_len hP;walk_at "ss";refine m_Gv (f:=193) h (by kernel_rfl) (by kernel_rfl) (by kernel_rfl) (by decide) ?_;walk_at "ss";refine (start_spec h ?_).deep (by decide);walk_at "ss";refine (mk_G h hg hT (by decide) (by decide) (hG'.ok (by lia)) fun dom' m1' m2' hgo=>?_).deep (by decide);walk_at "ss";exact hk dom' m1' m2' hgo
end
noncomputable def pkK (q:Str×Str):Key:=.p [tN,q.1] [tN,q.2]
theorem pkK_inj {p q:Str×Str}(h:pkK p=pkK q):p=q:=by
 unfold pkK at h;injection h with h1 h2;injection h1 with _ h1;injection h1 with h1;injection h2 with _ h2;injection h2 with h2;exact Prod.ext h1 h2
theorem whK_cont {Inv J:Nat->Env1->Mem->Prop}(hJ:∀ {i ε μ},Inv i ε μ->J i ε μ)(hmn:m<n)(hk:looks ε' ε (ε'.map (·.1)))(hm:μ'.Sublist μ)(h:Inv m ε' μ'):whK J n kf .cont ε μ:=⟨m,ε',μ',hmn,⟨look_sub hk,hm⟩,hJ h⟩
theorem c_setaddQ {key:Key}(hm:(a,O.set ks)∈μ)(hkd:∀ k'∈ks,k'.kind=key.kind)(hz:ks.length+1<400)(hin:key∈ks->k (.v .none) μ)(hout:key∉ks->∀ ks',ks'.Perm (key::ks)->∃ μ',UpdAt a (.set ks) (.set ks') μ μ'∧k (.v .none) μ'):cCall C d μ (.builtin "set.add") [.l a,.v key.val] [] k:=fun A F Z s vs kvs hA S hv hkv =>
 c_setaddP (k:=k) hm hkd hz hin (fun hn ks' μ' hp' hU=>by
  refine el12 (hout hn ks' hp') fun μ'' hU' hk=>?_
  rw [hU.uniq hU' S.nod.1];exact hk) A F Z s vs kvs hA S hv hkv
@[reducible] noncomputable def uE (ua ra:Addr)(g:V):Env1:=[("unitary",.l ua),("result",.l ra),("cls",.v (.glob (.ref 334))),("grammar",.v g)]
@[reducible] noncomputable def uE2 (sa ua ra:Addr)(g:V):Env1:=("seen",.l sa)::uE ua ra g
@[reducible] noncomputable def uE4 (q:Rw)(c:Str×Str)(sa ua ra:Addr)(g:V):Env1:=("key",.v (pkK c).val)::("rule",.v (Rw.v q))::uE2 sa ua ra g
noncomputable def pW (l:List Rw):List W:=l.map fun p=>.v (Rw.v p)
theorem pred_ok {a x N:Nat}(h:a+1+x≤n)(hn:n≤N):n-1<n∧a+x≤n-1∧n-1≤N :=
 have h1:a+x+1≤n:=by rw [Nat.add_right_comm];exact h
 ⟨sub_one_lt (Nat.lt_of_lt_of_le (Nat.succ_pos _) h1),Nat.le_sub_of_add_le h1,Nat.le_trans (Nat.sub_le ..) hn⟩
theorem pred_add {x q r:Nat}(hx:x≤r)(hn:n+1≤12):q+x+(12-(n+1))*(r+1)+1≤q+1+(12-n)*(r+1):=by
 rw [show 12-n=(12-(n+1))+1 by rw [Nat.sub_succ];exact (Nat.succ_pred_eq_of_pos (Nat.sub_pos_of_lt hn)).symm,Nat.succ_mul];generalize (12-(n+1))*(r+1)=d;rw [Nat.add_assoc q,Nat.add_assoc q,Nat.add_assoc q];refine Nat.add_le_add_left ?_ q;rw [Nat.add_comm x,Nat.add_comm 1,Nat.add_assoc,Nat.add_assoc];exact Nat.add_le_add_left (Nat.le_succ_of_le (Nat.succ_le_succ hx)) d
theorem len_one:((n:Int) == 1)=decide (n=1):=by rw [Bool.eq_iff_iff,beq_iff_eq,decide_eq_true_iff];exact Int.ofNat_inj
theorem pW_app (l m:List Rw):pW (l++m)=pW l++pW m:=List.map_append
section
variable (h:C.K=Mine.hk.heap_1 C.P)(hg:C.gen=false)
include h hg
theorem unit_spec {st:Str}{m1 m2:Int}(hT:∀ P∈C.tabs,(P,O.tab)∈μ)(hG:Gd rs)(hD:DomOk rs dom)(ax:(sA,[It.T sx])∈rs)(hz:rs.length≤150)(hk:∀ R P dom m1 m2,UnitR rs R P->GOk R dom m1 m2->k (.v (gramV st R dom m1 m2)) μ) :
  cCode C 18 μ (.ref 298) [.v (.glob (.ref 334)),.v (gramV st rs dom m1 m2)] [] k:=by
 refine cCode.fzR ?_;apply cCode_enter [("cls",.v (.glob (.ref 334))),("grammar",.v (gramV st rs dom m1 m2))];walk_at "enter"
 case hbind=>walk_at "bind2"
 walk_at "ss";refine cE_listM ?_;walk_at "ss";refine ⟨by simp,fun ra=>?_⟩;walk_at "ss";refine cE_listM ?_;walk_at "ss";refine ⟨by simp,fun ua=>?_⟩;walk_at "ss";refine m_Gv (f:=199) h (by kernel_rfl) (by kernel_rfl) (by kernel_rfl) (by decide) ?_;walk_at "ss";refine (prodsV_spec h ?_).deep (by decide);refine for_is it_list ?_;refine fr000 at_map (fun t ε' μ'=>ε'=uE ua ra (gramV st rs dom m1 m2)∧μ'=(ua,O.list (pW ((rs.take t).filter isU)))::(ra,O.list (pW ((rs.take t).filter fun p=>!isU p)))::μ) (fun _ _ _=>rfl) (⟨rfl,rfl⟩) (fun J hJ t p hp=>?_) ?_
 ·have hpm:=List.mem_of_getElem? hp
  have htk:rs.take (t+1)=rs.take t++[p]:=by rw [List.take_add_one,hp];rfl
  have hl4:=hG.len p hpm
  have hf:∀ q:Rw->Bool,(pW ((rs.take t).filter q)).length≤150:=fun q=>by
   unfold pW;rw [List.length_map];exact Nat.le_trans (List.length_filter_le ..) (Nat.le_trans (List.length_take_le' ..) hz)
  have hTm:∀ P∈C.tabs,(P,O.tab)∈(ua,O.list (pW ((rs.take t).filter isU)))::(ra,O.list (pW ((rs.take t).filter fun p=>!isU p)))::μ:=fun P hP=>.tail _ (.tail _ (hT P hP));obtain ⟨l,r⟩:=p;simp only at hl4;have hiu:isU (l,r)=(decide (r.length=1)&&r.all It.isN):=rfl;walk_at "ss";refine cAll.eq (b:=isU (l,r)) (m:=(ua,O.list (pW ((rs.take t).filter isU)))::(ra,O.list (pW ((rs.take t).filter fun p=>!isU p)))::μ) ?_ ?_
  ·refine cAll_andK ?_;walk_at "ss";refine (len_P h (by lia) ?_).deep (by decide);walk_at "ss";rw [len_one];refine ⟨fun e=>?_,fun e=>⟨by rw [hiu,e];rfl,rfl⟩⟩;refine cAll_andK ?_;refine cT_valK ?_ (by intros;rfl);walk_at "ss";refine m_P (f:=133) h (by kernel_rfl) (by kernel_rfl) (by kernel_rfl) (by decide) ?_;walk_at "ss";refine (isnl_spec h hg (by lia) hTm ?_).deep (by decide);refine truthy_bool' ⟨fun e2=>cAll_and_nil ⟨by rw [hiu,e,e2];rfl,rfl⟩,fun e2=>⟨by rw [hiu,e,e2];rfl,rfl⟩⟩
  ·refine ⟨fun hb=>?_,fun hb=>?_⟩
   ·walk_at "ss";refine m_list (.head _) PySem.F.slot_list_append rfl ?_;walk_at "ss";refine v_append .here (ok_of (hf isU)) ?_;walk_at "ss";refine forK_next hJ (ε':=uE ua ra (gramV st rs dom m1 m2)) ⟨rfl,rfl,rfl,rfl,trivial⟩ (List.Sublist.refl _) ⟨rfl,?_⟩;rw [htk,List.filter_append,List.filter_append,pW_app,pW_app];simp [hb,pW]
   ·walk_at "ss";refine m_list (.tail _ (.head _)) PySem.F.slot_list_append rfl ?_;walk_at "ss";refine v_append (.there .here) (ok_of (hf fun p=>!isU p)) ?_;walk_at "ss";refine forK_next hJ (ε':=uE ua ra (gramV st rs dom m1 m2)) ⟨rfl,rfl,rfl,rfl,trivial⟩ (List.Sublist.refl _) ⟨rfl,?_⟩;rw [htk,List.filter_append,List.filter_append,pW_app,pW_app];simp [hb,pW]
 ·rw [List.length_map,List.take_length];walk_at "ss";refine c_set0 fun sa=>?_;walk_at "ss";have hU0:=ui_start hG;refine cS1_whileJ (fun n ε' μ'=>ε'=uE2 sa ua ra (gramV st rs dom m1 m2)∧∃ R Q P ks,μ'=(sa,O.set ks)::(ua,O.list (pW Q))::(ra,O.list (pW R))::μ∧UI rs R Q P∧ks.Perm (P.map pkK)∧Q.length+(12-P.length)*(rs.length+1)≤n∧n≤13*(rs.length+1)) (rs.length+12*(rs.length+1)) ⟨rfl,_,_,[],[],rfl,hU0,.refl _,?_,?_⟩ fun Jw hJw n ε' μ' hI=>?_
  ·have:=List.length_filter_le isU rs;show _+12*_≤_;lia
  ·lia
  obtain ⟨rfl,R,Q,P,ks,rfl,hI,hp,hm,hn⟩:=hI;have hQl:Q.length≤13*(rs.length+1):=Nat.le_trans (Nat.le_add_right ..) (Nat.le_trans hm hn);have hbig:13*(rs.length+1)≤2000:=Nat.le_trans (Nat.mul_le_mul_left 13 (Nat.succ_le_succ hz)) (by decide);refine cT_valK ?_ (by intros;rfl);walk_at "ss";refine t_listM (.tail _ (.head _)) (by unfold pW;rw [List.length_map];exact ok_of (Nat.le_trans hQl hbig)) ⟨fun hb=>?_,fun hb=>?_⟩
  ·obtain ⟨q,Q',rfl⟩:∃ q Q',Q=q::Q':=by
    cases Q with
    | nil=>nomatch hb
    | cons q Q'=>exact ⟨q,Q',rfl⟩
   obtain ⟨C',eC,hA,hC,hl⟩:=hI.q q (.head _);obtain ⟨A,b⟩:=q;simp only at eC hA;subst eC;rw [List.length_cons] at hm hQl;have hpw:pW ((A,[It.N C'])::Q')=W.v (prodV A [.N C'])::pW Q':=rfl;rw [hpw];walk_at "ss";refine m_list (.tail _ (.head _)) PySem.F.slot_list_pop rfl ?_;walk_at "ss";refine v_pop0 (.there .here) (by unfold pW;rw [List.length_map];exact ok_of (Nat.le_trans (Nat.le_of_succ_le hQl) hbig)) ?_;walk_at "ss";refine cE_tuple ?_;walk_at "ss";refine m_P (f:=112) h (by kernel_rfl) (by kernel_rfl) (by kernel_rfl) (by decide) ?_;walk_at "ss";refine (lhs_spec h ?_).deep (by decide);walk_at "ss";refine (key_spec (i:=.N A) h ?_).deep (by decide);walk_at "ss";refine m_P (f:=119) h (by kernel_rfl) (by kernel_rfl) (by kernel_rfl) (by decide) ?_;walk_at "ss";refine (rhs_spec h ?_).deep (by decide);walk_at "ss";refine ⟨sub_tup,v_item_tup (x:=nonT C') (by decide) (by decide) rfl ?_⟩;walk_at "ss";refine (key_spec (i:=.N C') h ?_).deep (by decide);walk_at "ss";refine ⟨_,rfl,by simp,?_⟩
   have hkd:∀ k'∈ks,k'.kind=(pkK (A,C')).kind:=fun k' hk'=>by
    obtain ⟨x,_,rfl⟩:=List.mem_map.mp (hp.subset hk');rfl
   have hmem:pkK (A,C')∈ks↔(A,C')∈P:=by
    rw [hp.mem_iff,List.mem_map];exact ⟨fun ⟨x,hx,e⟩=>pkK_inj e▸hx,fun q=>⟨_,q,rfl⟩⟩
   have hkl:ks.length≤12:=by rw [hp.length_eq,List.length_map];exact hI.plen
   walk_at "ss";refine v_inSP (ks:=ks) (key:=pkK (A,C')) (x:=.l sa) (.head _) hkd ?_;walk_at "ss";refine ⟨fun hb=>?_,fun hb=>?_⟩
   ·have hin:(A,C')∈P:=hmem.mp (by simpa using hb);walk_at "ss";exact whK_cont hJw (m:=n-1) (ε':=uE2 sa ua ra (gramV st rs dom m1 m2)) (pred_ok hm hn).1 ⟨rfl,rfl,rfl,rfl,rfl,trivial⟩ (List.Sublist.refl _) ⟨rfl,R,Q',P,ks,rfl,hI.skip hin,hp,(pred_ok hm hn).2⟩
   ·have hno:(A,C')∉P:=fun q=>by rw [decide_eq_true (hmem.mpr q)] at hb;nomatch hb
    walk_at "ss";refine m_set (ks:=ks) (.head _) PySem.F.slot_set_add rfl ?_;walk_at "ss";refine c_setaddQ (ks:=ks) (key:=pkK (A,C')) (.head _) hkd (Nat.lt_of_le_of_lt (Nat.succ_le_succ hkl) (by decide)) (fun q=>absurd (hmem.mp q) hno) fun _ ks' hp'=>⟨_,.here,?_⟩;walk_at "ss";refine cE_mcall1k (by intros;rfl) (by intros;rfl) rfl (by intros;rfl) ?_;walk_at "ss";refine m_Gv (f:=199) h (by kernel_rfl) (by kernel_rfl) (by kernel_rfl) (by decide) ?_;walk_at "ss";refine m_P (f:=119) h (by kernel_rfl) (by kernel_rfl) (by kernel_rfl) (by decide) ?_;walk_at "ss";refine (rhs_spec h ?_).deep (by decide);walk_at "ss";refine ⟨sub_tup,v_item_tup (x:=nonT C') (by decide) (by decide) rfl ?_⟩;refine (prodsL_spec h hD ?_).deep (by decide);rw [show lhsOf rs C'=(ofC rs C').map Rw.v from rfl];refine for_is it_list ?_;have hof:(ofC rs C').length≤rs.length:=List.length_filter_le _ _
    have hRl:R.length≤13*rs.length:=by
     refine Nat.le_trans hI.sz (Nat.le_trans (Nat.add_le_add_left (Nat.mul_le_mul_right rs.length hI.plen) _) (Nat.le_of_eq ?_));rw [Nat.add_comm,<-Nat.succ_mul]
    refine fr000 at_map (fun j ε' μ'=>ε'=uE4 (A,[.N C']) (A,C') sa ua ra (gramV st rs dom m1 m2)∧μ'=(sa,O.set ks')::(ua,O.list (pW (Q'++(((ofC rs C').take j).filter isU).map (hdA A))))::(ra,O.list (pW (R++(((ofC rs C').take j).filter fun p=>!isU p).map (hdA A))))::μ) (fun _ _ _=>rfl) (⟨rfl,by simp⟩) (fun J hJ j p hpj=>?_) ?_
    ·have hpm:=(mem_ofC.mp (List.mem_of_getElem? hpj)).1
     have htk:(ofC rs C').take (j+1)=(ofC rs C').take j++[p]:=by rw [List.take_add_one,hpj];rfl
     have hl4:=hG.len p hpm
     have hf:∀ q:Rw->Bool,((((ofC rs C').take j).filter q).map (hdA A)).length≤150:=fun q=>by
      rw [List.length_map];exact Nat.le_trans (List.length_filter_le ..) (Nat.le_trans (List.length_take_le' ..) (Nat.le_trans hof hz))
     have hTm:∀ P∈C.tabs,(P,O.tab)∈(sa,O.set ks')::(ua,O.list (pW (Q'++(((ofC rs C').take j).filter isU).map (hdA A))))::(ra,O.list (pW (R++(((ofC rs C').take j).filter fun p=>!isU p).map (hdA A))))::μ:=fun P hP=>.tail _ (.tail _ (.tail _ (hT P hP)));obtain ⟨l,r⟩:=p;simp only at hl4;have hiu:isU (l,r)=(decide (r.length=1)&&r.all It.isN):=rfl;walk_at "ss";refine m_P (f:=112) h (by kernel_rfl) (by kernel_rfl) (by kernel_rfl) (by decide) ?_;walk_at "ss";refine (lhs_spec h ?_).deep (by decide);walk_at "ss";refine m_P (f:=119) h (by kernel_rfl) (by kernel_rfl) (by kernel_rfl) (by decide) ?_;walk_at "ss";refine (rhs_spec h ?_).deep (by decide);walk_at "ss";refine (mk_Pt (l:=A) (r:=r) h ?_).deep (by decide);walk_at "ss";refine cAll.eq (b:=!isU (l,r)) (m:=(sa,O.set ks')::(ua,O.list (pW (Q'++(((ofC rs C').take j).filter isU).map (hdA A))))::(ra,O.list (pW (R++(((ofC rs C').take j).filter fun p=>!isU p).map (hdA A))))::μ) ?_ ?_
     ·refine cAll_orK ?_;walk_at "ss";refine (len_P h (by lia) ?_).deep (by decide);walk_at "ss";rw [show ((r.length:Int) != 1) = !decide (r.length=1) from congrArg _ len_one];refine ⟨fun e=>?_,fun e=>⟨by rw [hiu];rw [Bool.not_eq_true'] at e;rw [e];rfl,rfl⟩⟩
      have e:decide (r.length=1)=true:=by simpa using e
      refine cAll_orK ?_;refine cT_valK ?_ (by intros;rfl);walk_at "ss";refine m_P (f:=140) h (by kernel_rfl) (by kernel_rfl) (by kernel_rfl) (by decide) ?_;walk_at "ss";refine (islx_spec h hg (by lia) hTm ?_).deep (by decide);refine truthy_bool' ⟨fun e2=>cAll_or_nil ⟨by rw [hiu,e];rw [Bool.not_eq_false'] at e2;rw [e2];rfl,rfl⟩,fun e2=>⟨by rw [hiu,e];rw [Bool.not_eq_true'] at e2;rw [e2];rfl,rfl⟩⟩
     ·refine ⟨fun hb=>?_,fun hb=>?_⟩
      ·have hb':isU (l,r)=false:=by simpa using hb
       walk_at "ss";refine m_list (.tail _ (.tail _ (.head _))) PySem.F.slot_list_append rfl ?_;walk_at "ss";refine v_append (.there (.there .here)) (by unfold pW;rw [List.length_map,List.length_append];exact Nat.le_trans (Nat.add_le_add (Nat.le_trans hRl (Nat.mul_le_mul_left 13 hz)) (hf fun p=>!isU p)) (by decide)) ?_;walk_at "ss";refine forK_next hJ (ε':=uE4 (A,[.N C']) (A,C') sa ua ra (gramV st rs dom m1 m2)) ⟨rfl,rfl,rfl,rfl,rfl,rfl,rfl,trivial⟩ (List.Sublist.refl _) ⟨rfl,?_⟩;rw [htk,List.filter_append,List.filter_append,List.map_append,List.map_append,<-List.append_assoc,<-List.append_assoc,pW_app (Q'++_),pW_app (R++_)];simp [hb',pW,hdA,Rw.v]
      ·have hb':isU (l,r)=true:=by simpa using hb
       walk_at "ss";refine m_list (.tail _ (.head _)) PySem.F.slot_list_append rfl ?_;walk_at "ss";refine v_append (.there .here) (by unfold pW;rw [List.length_map,List.length_append];exact Nat.le_trans (Nat.add_le_add (Nat.le_trans (Nat.le_of_succ_le hQl) hbig) (hf isU)) (by decide)) ?_;walk_at "ss";refine forK_next hJ (ε':=uE4 (A,[.N C']) (A,C') sa ua ra (gramV st rs dom m1 m2)) ⟨rfl,rfl,rfl,rfl,rfl,rfl,rfl,trivial⟩ (List.Sublist.refl _) ⟨rfl,?_⟩;rw [htk,List.filter_append,List.filter_append,List.map_append,List.map_append,<-List.append_assoc,<-List.append_assoc,pW_app (Q'++_),pW_app (R++_)];simp [hb',pW,hdA,Rw.v]
    ·rw [List.length_map,List.take_length];walk_at "ss";have hI':=hI.step hG hno;have hp12:=hI'.plen;rw [List.length_cons] at hp12
     have hql:(((ofC rs C').filter isU).map (hdA A)).length≤rs.length:=by
      rw [List.length_map];exact Nat.le_trans (List.length_filter_le _ _) hof
     have hmeas:(Q'++((ofC rs C').filter isU).map (hdA A)).length+(12-(P.length+1))*(rs.length+1)+1≤Q'.length+1+(12-P.length)*(rs.length+1):=by
      rw [List.length_append];exact pred_add hql hp12
     refine whK_next hJw (m:=(Q'++((ofC rs C').filter isU).map (hdA A)).length+(12-(P.length+1))*(rs.length+1)) (ε':=uE2 sa ua ra (gramV st rs dom m1 m2)) (Nat.lt_of_lt_of_le (Nat.lt_of_succ_le hmeas) hm) ⟨rfl,rfl,rfl,rfl,rfl,trivial⟩ (List.Sublist.refl _) ⟨rfl,_,_,(A,C')::P,ks',rfl,hI',?_,Nat.le_refl _,Nat.le_trans (Nat.le_of_lt (Nat.lt_of_succ_le hmeas)) (Nat.le_trans hm hn)⟩;exact hp'.trans (hp.cons _)
  ·have hQ:Q=[]:=by
    cases Q with
    | nil=>rfl
    | cons q r=>nomatch hb
   subst hQ;have hU:=hI.done;refine seqK_next (cS.fz (fz_obj (a:=ra) (d:=.list (R.map Rw.v)) (.tail _ (.tail _ (.head _))) done_map (.there (.there .here)) (FrzT.refl _)) (ε':=[("seen",.l sa),("unitary",.l ua),("result",.v (.list (R.map Rw.v))),("cls",.v (.glob (.ref 334))),("grammar",.v (gramV st rs dom m1 m2))]) (.cons (.same _) (.cons (.same _) (.cons .put (.cons (.same _) (.cons (.same _) .nil))))) ?_);have hG':=hU.gd hG ax;have hsz:=hU.sz;walk_at "ss";refine m_Gv (f:=193) h (by kernel_rfl) (by kernel_rfl) (by kernel_rfl) (by decide) ?_;walk_at "ss";refine (start_spec h ?_).deep (by decide);walk_at "ss";refine (mk_G h hg (fun P hP=>.tail _ (.tail _ (hT P hP))) (by decide) (by decide) (hG'.ok (by lia)) fun dom' m1' m2' hgo=>?_).deep (by decide);walk_at "ss";exact ⟨_,_,_,Fz.weak ((List.sublist_cons_self ..).trans (List.sublist_cons_self ..)),rfl,hk R P dom' m1' m2' hU hgo⟩
end
theorem cAll.monoT {op:BoolOp}{es:List Expr}(h:cAll C d sc ε μ op es fun b m=>b=false∧m=μ)(hk:kb false μ):cAll C d sc ε μ op es kb :=
 cAll.mono h fun b m ⟨e1,e2⟩=>by subst e1;subst e2;exact hk
theorem eqvAll_refl {α:Type}{f:α->PyData}:∀ {l:List α},(∀ x∈l,PyData.eqv (f x) (f x)=true)->PyData.eqvAll (l.map f) (l.map f)=true
 | [],_=>by simp [PyData.eqvAll]
 | x::l,h=>by
  simp only [List.map_cons,PyData.eqvAll,h x (.head _),eqvAll_refl fun y hy=>h y (.tail _ hy),Bool.and_self]
theorem eqv_listR {l:List V}(h:∀ x∈l,PyData.eqv (toD x) (toD x)=true):PyData.eqv (toD (.list l)) (toD (.list l))=true:=by
 rw [toD_list];simp only [PyData.eqv];exact eqvAll_refl h
theorem eqv_fourR (H:Nat->List Str):PyData.eqv (toD (fourV H)) (toD (fourV H))=true:=eqv_listR fun x hx=>by
 obtain ⟨a,_,rfl⟩:=List.mem_map.mp hx;rw [eqv_strs];simp
noncomputable def langOk (L:Nat->List Str):Prop:=∀ a,a<4->∀ x∈L a,x∈allW a
theorem lang_ok {A:Str}:langOk (lang rs A):=fun a _ x hx=>(mem_lang.mp hx).1
theorem four_dp {H:Nat->List Str}:(toD (fourV H)).depth≤2:=by
 unfold fourV;rw [toD_list,List.map_map]
 have:=depthAll_map (f:=toD∘fun a=>V.list ((H a).map .str)) (n:=1) (List.range 4) fun a _=>by
  show (toD (.list ((H a).map .str))).depth≤1;rw [toD_list,map_toD_str]
  have:=depthAll_map (f:=PyData.str) (n:=0) (H a) fun x _=>by simp [PyData.depth]
  simp only [PyData.depth];lia
 simp only [PyData.depth];lia
theorem four_cl {H:Nat->List Str}(h:langOk H):(toD (fourV H)).canLay0=true:=by
 unfold fourV;rw [toD_list,List.map_map];simp only [PyData.canLay0];refine canLayAll_map _ fun a ha=>?_;exact SeqAt.canLay_of_shaped (sh_words (List.mem_range.mp ha) (h a (List.mem_range.mp ha)))
theorem sh_four {H:Nat->List Str}(h:langOk H):SeqAt.shaped (toD (fourV H))=true:=by
 unfold SeqAt.shaped;rw [Bool.and_eq_true_iff];exact ⟨four_cl h,decide_eq_true (Nat.le_trans four_dp (by decide))⟩
theorem sh_fours {l:List (Nat->List Str)}(h:∀ H∈l,langOk H):SeqAt.shaped (toD (.list (l.map fourV)))=true:=by
 unfold SeqAt.shaped;rw [Bool.and_eq_true_iff,toD_list,List.map_map];refine ⟨by simp only [PyData.canLay0];exact canLayAll_map l fun H hH=>four_cl (h H hH),decide_eq_true ?_⟩;have:=depthAll_map (f:=toD∘fourV) (n:=2) l fun H _=>four_dp;simp only [PyData.depth];lia
theorem told_has {L:Str->Nat->List Str}{m:Mem}:Has m (.v (toldV hs L)) (.dict (hs.map fun A=>(Key.s A,W.v (fourV (L A))))):=by
 show O.dict _=O.dict _;rw [List.map_map];rfl
theorem told_kind {L:Str->Nat->List Str}:∀ p∈hs.map fun A=>(Key.s A,W.v (fourV (L A))),p.1.kind=0:=fun p hp=>by obtain ⟨A,_,rfl⟩:=List.mem_map.mp hp;rfl
section
theorem told_get {L:Str->Nat->List Str}{A:Str}(h0:A∉hs->∀ a,a<4->L A a=[])(h:k (.v (fourV (L A))) μ):cCall C d μ (.builtin "dict.get") [.v (toldV hs L),.v (.str A),.v (.list [.list [],.list [],.list [],.list []])] [] k:=by
 refine c_getD (key:=.s A) told_has told_kind (by show (0:Nat)≠2;decide) (fun hn=>?_) fun u hu=>?_
 ·have:A∉hs:=fun q=>hn (List.mem_map_of_mem (f:=(·.1)) (List.mem_map_of_mem (f:=fun A=>(Key.s A,W.v (fourV (L A)))) q));have e:fourV (L A)=.list [.list [],.list [],.list [],.list []]:=(fourV_eq (H':=fun _=>[]) (h0 this)).trans rfl;rw [e] at h;exact h
 ·obtain ⟨B,hB,e⟩:=List.mem_map.mp hu;injection e with e1 e2;injection e1 with e1;subst e1;subst e2;exact h
theorem told_item {L:Str->Nat->List Str}{A:Str}(hA:A∈hs)(h:k (.v (fourV (L A))) μ):SubOk C μ (.v (toldV hs L))∧cV2 C d μ (.v (toldV hs L)) (.v (.str A)) getItem k :=
 ⟨sub_dict told_has,v_itemD (key:=.s A) told_has told_kind (by show (0:Nat)≠2;decide) (List.mem_map_of_mem (f:=fun A=>(Key.s A,W.v (fourV (L A)))) hA) h⟩
end
theorem any_itR {l:List It}{i:It}:((l.map itR).any fun y=>PyData.eqv (toD y) (toD (itR i)))=decide (i∈l):=by
 rw [List.any_map,show ((fun y=>PyData.eqv (toD y) (toD (itR i)))∘itR)=fun x=>decide (x=i) from funext fun x=>eqv_itR x i,Bool.eq_iff_iff,List.any_eq_true,decide_eq_true_iff];exact ⟨fun ⟨x,hx,e⟩=>(of_decide_eq_true e)▸hx,fun q=>⟨i,q,by simp⟩⟩
@[reducible] noncomputable def sMix:Str := "mixed"
@[reducible] noncomputable def sBin:Str := "binary"
@[reducible] noncomputable def sSgl:Str := "single"
theorem flags_ok:sOk sMix=true∧sOk sBin=true∧sOk sSgl=true:=by decide +kernel
structure Told (ds:List Str)(rs:List Rw):Prop where
 m:sMix∈ds->∀ p∈rs,2≤p.2.length->p.2.all It.isN=true
 b:sBin∈ds->∀ p∈rs,p.2.length≤2
 s:sSgl∈ds->NoSg rs
noncomputable def unP1 (v:V):Bool:=match v with
 | .tup [.bool b,_]=>!b
 | _=>false
noncomputable def langV (rs:List Rw)(v:V):V:=match v with
 | .str x=>fourV (lang rs x)
 | v=>v
theorem sab_signs:signsV (Str.ofString "SAB")=[V.str sS,.str sA,.str sB]:=by
 have e:(Str.ofString "SAB").cps.toList=[83,65,66]:=by decide +kernel
 unfold signsV;rw [e];show [V.str ⟨#[83]⟩,.str ⟨#[65]⟩,.str ⟨#[66]⟩]=_;rw [show (⟨#[83]⟩:Str)=sS from by decide +kernel,show (⟨#[65]⟩:Str)=sA from by decide +kernel,show (⟨#[66]⟩:Str)=sB from by decide +kernel]
theorem no_heads (hD:DomOk rs hs){A:Str}(h:A∉hs)(a:Nat):lang rs A a=[]:=by
 have:∀ w,¬ Lg rs A w:=fun w q=>by
  obtain ⟨b,hb,_⟩:=lg_inv q;exact h ((hD.dm A).mpr ⟨_,hb,rfl⟩)
 rw [List.eq_nil_iff_forall_not_mem];exact fun w hw=>this _ (mem_lang.mp hw).2
section
variable (h:C.K=Mine.hk.heap_1 C.P)
include h
theorem kept_spec {da:Addr}{ds:List Str}{st:Str}{rows:List Rw}{hs0:List Str}{m1 m2:Int}(hW:Way rows st rs)(hG:Gd rs)(hz:rs.length≤2000)(hgo:GOk rs dom m1 m2)(hT:Told ds rs)(hS:sS∈hs0)(hA:sA∈hs0)(hB:sB∈hs0)(hd:(da,O.list (sW ds))∈μ)(hds:∀ x∈ds,sOk x=true)(hk:k (.v (.bool true)) μ) :
  cCall C 12 μ (.ref 384) [.v (gramV st rs dom m1 m2),.v (toldV hs0 (lang rows)),.l da] [] k:=by
 have hrow:=hG.row;have hdd:∀ p∈ddup rs,p∈rs:=fun p hp=>mem_ddup.mp hp;have hll:∀ A a,lang (ddup rs) A a=lang rs A a:=fun A a=>lang_same (fun w=>lg_same fun p=>mem_ddup) a
 have hls:fourV (lang (ddup rs) st)=fourV (lang rows sS):=fourV_eq fun a _=>by rw [hll];exact lang_same hW.kst a
 have hlh:∀ A∈v3,fourV (lang (ddup rs) A)=fourV (lang rows A):=fun A hA=>fourV_eq fun a _=>by rw [hll];exact lang_same (hW.kh A hA) a
 have hdl:=ddup_len rs;apply cCall_enter [("now",.v (gramV st rs dom m1 m2)),("due",.v (toldV hs0 (lang rows))),("done",.l da)];walk_at "enter"
 case hbind =>
  intro F s vs kvs X hv hkv;refine WsAt.i3 hv fun u v w h1 h2 h3=>?_;refine KwAt.i_nil hkv ?_;refine ⟨_,BindsTo.of_eq rfl,?_⟩;exact .cons h1 (.cons h2 (.cons h3 .nil))
 walk_at "ss";refine (rows_spec h hrow hz ?_).deep (by decide);walk_at "ss";refine m_Gv (f:=193) h (by kernel_rfl) (by kernel_rfl) (by kernel_rfl) (by decide) ?_;walk_at "ss";refine (start_spec h ?_).deep (by decide);refine m_N h ?_;walk_at "ss";refine (sym_spec h ?_).deep (by decide);walk_at "ss";refine (words_spec (Un:=uni) h (fun p hp=>hG.xy p (hdd p hp)) (by lia) (fun p hp=>(hrow p (hdd p hp)).2) (fun p hp=>hG.hd p (hdd p hp)) uni_len fun hs hD=>?_).deep (by decide);walk_at "ss";refine cE_listF ?_;walk_at "ss";refine cE_listF ?_;walk_at "ss";refine ⟨_,rfl,by simp,?_⟩;walk_at "ss";refine cE_listF ?_;walk_at "ss";refine ⟨_,rfl,by simp,?_⟩;walk_at "ss";refine cE_listF ?_;walk_at "ss";refine ⟨_,rfl,by simp,?_⟩;walk_at "ss";refine cE_listF ?_;walk_at "ss";refine ⟨_,rfl,by simp,?_⟩;walk_at "ss";refine ⟨_,rfl,by simp,?_⟩;walk_at "ss"
 have hv3:∀ A,A=sS∨A=sA∨A=sB->A∈hs0∧A∈v3:=fun A q=>by
  rcases q with rfl | rfl | rfl
  ·exact ⟨hS,by simp [v3]⟩
  ·exact ⟨hA,by simp [v3]⟩
  ·exact ⟨hB,by simp [v3]⟩
 refine cAll.monoT ?_ ?_
 ·refine cAll_orK ?_;walk_at "ss";refine m_dict told_has PySem.F.slot_dict_get rfl ?_;walk_at "ss";refine told_get (fun q a _=>no_heads hD q a) ?_;walk_at "ss";refine told_item hS ?_;rw [hls];refine v_neD (sh_four lang_ok) (sh_four lang_ok) ?_;rw [eqv_fourR];walk_at "ss";refine ⟨fun _=>?_,fun e=>nomatch e⟩;refine cAll_orK ?_;walk_at "s";refine cE_listV rfl (by kernel_rfl) rfl (by intros;rfl) ?_;walk_at "ss";refine ⟨_,it_str (by decide +kernel),fun items e=>⟨fun _=>true,langV (ddup rs),by rw [e,sab_signs];decide,fun x hx=>?_,?_⟩⟩
  ·rw [e,sab_signs] at hx
   have:∃ y,x=.str y:=by
    simp only [List.mem_cons,List.not_mem_nil,or_false] at hx
    rcases hx with rfl | rfl | rfl<;>exact ⟨_,rfl⟩
   obtain ⟨y,rfl⟩:=this;refine ⟨_,tgt_name (by walk_at "kind"),fun acc L=>ifs_nil ⟨rfl,rfl,fun _=>?_⟩⟩;walk_at "ss";refine m_dict told_has PySem.F.slot_dict_get rfl ?_;walk_at "ss";refine told_get (fun q a _=>no_heads hD q a) ?_;exact ⟨rfl,rfl⟩
  have e1:(items.filter fun _=>true).map (langV (ddup rs))=[fourV (lang rows sS),fourV (lang rows sA),fourV (lang rows sB)]:=by
   rw [e,sab_signs,List.filter_eq_self.mpr (fun _ _=>rfl)];show [fourV (lang (ddup rs) sS),fourV (lang (ddup rs) sA),fourV (lang (ddup rs) sB)]=_;rw [hlh sS (hv3 _ (.inl rfl)).2,hlh sA (hv3 _ (.inr (.inl rfl))).2,hlh sB (hv3 _ (.inr (.inr rfl))).2]
  rw [e1];clear e1 e;refine cE_listV rfl (by kernel_rfl) rfl (by intros;rfl) ?_;walk_at "ss";refine ⟨_,it_str (by decide +kernel),fun items e=>⟨fun _=>true,langV rows,by rw [e,sab_signs];decide,fun x hx=>?_,?_⟩⟩
  ·rw [e,sab_signs] at hx
   have:∃ y,x=.str y∧y∈hs0:=by
    simp only [List.mem_cons,List.not_mem_nil,or_false] at hx
    rcases hx with rfl | rfl | rfl
    ·exact ⟨_,rfl,hS⟩
    ·exact ⟨_,rfl,hA⟩
    ·exact ⟨_,rfl,hB⟩
   obtain ⟨y,rfl,hy⟩:=this;refine ⟨_,tgt_name (by walk_at "kind"),fun acc L=>ifs_nil ⟨rfl,rfl,fun _=>?_⟩⟩;walk_at "ss";refine told_item hy ?_;exact ⟨rfl,rfl⟩
  have e1:(items.filter fun _=>true).map (langV rows)=[fourV (lang rows sS),fourV (lang rows sA),fourV (lang rows sB)]:=by
   rw [e,sab_signs,List.filter_eq_self.mpr (fun _ _=>rfl)];rfl
  rw [e1];clear e1 e
  have hsh:SeqAt.shaped (toD (.list [fourV (lang rows sS),fourV (lang rows sA),fourV (lang rows sB)]))=true:=sh_fours (l:=[lang rows sS,lang rows sA,lang rows sB]) fun H hH=>by
   simp only [List.mem_cons,List.not_mem_nil,or_false] at hH
   rcases hH with rfl | rfl | rfl<;>exact lang_ok
  refine v_neD hsh hsh ?_
  rw [eqv_listR (l:=[fourV (lang rows sS),fourV (lang rows sA),fourV (lang rows sB)]) fun x hx=>by
   simp only [List.mem_cons,List.not_mem_nil,or_false] at hx
   rcases hx with rfl | rfl | rfl<;>exact eqv_fourR _]
  walk_at "ss";exact ⟨fun _=>cAll_or_nil ⟨rfl,rfl⟩,fun e=>nomatch e⟩
 refine both_f ?_
 have hin:∀ {d':Nat}{m:Mem}{kk:PostW}{x:Str},(da,O.list (sW ds))∈m->sOk x=true->kk (.v (.bool (decide (x∈ds)))) m->cV2 C (d'+4) m (.v (.str x)) (.l da) (compareOp .In) kk:=fun {d' m kk x} hm hx hq =>
  v_inL (x:=.l da) (vs:=ds.map .str) (a:=.str x) (by rw [<-sW_is];exact hm) (cl_toDs fun y hy=>sh_str (hds y hy)) (sh_str hx) (by rw [any_str];exact hq)
 walk_at "ss";refine for_is it_list ?_;refine fr000 at_map (fun t ε' μ'=>ε'=([("none",.v (.list [.list [],.list [],.list [],.list []])),("told",.v (toldV hs (lang (ddup rs)))),("start",.v (.str st)),("rows",.v (.list ((ddup rs).map rwV))),("now",.v (gramV st rs dom m1 m2)),("due",.v (toldV hs0 (lang rows))),("done",.l da)]:List (Str×W))∧μ'=μ) (fun _ _ _=>rfl) (⟨rfl,rfl⟩) (fun J hJ t p hpt=>?_) ?_
 ·have hpm:=hdd p (List.mem_of_getElem? hpt);have hro:=(hrow p hpm).1;have hl4:=hG.len p hpm;have hno:=hW.no p hpm;have hm:=fun q=>hT.m q p hpm;have hb:=fun q=>hT.b q p hpm;have hs':=fun q=>hT.s q p hpm;obtain ⟨l,r⟩:=p;simp only at hl4 hno hm hb hs';refine asg_tup2 (by walk_at "kind") (by walk_at "kind") ?_;walk_at "ss";refine cE_tuple ?_;walk_at "ss";refine ⟨_,rfl,by simp,?_⟩;walk_at "ss";refine v_inL (x:=.v (.list (r.map itR))) (vs:=r.map itR) (a:=itR (.N st)) rfl (cl_toDs fun i hi=>sh_itR (hro.2 i hi)) (sh_itR (i:=.N st) (uni_ok st (old_uni hW.old))) ?_;rw [any_itR,decide_eq_false hno];walk_at "ss";refine both_f ?_;walk_at "ss";refine cAll.monoT ?_ (both_f ?_)
  ·refine cAll_andK ?_;walk_at "ss";refine hin hd flags_ok.1 ?_;walk_at "ss";refine ⟨fun e=>?_,fun e=>⟨rfl,rfl⟩⟩;have hmx:=hm (of_decide_eq_true e);refine cAll_andK ?_;walk_at "ss";refine len_list (by rw [List.length_map];lia) ?_;rw [List.length_map];walk_at "ss";refine ⟨fun e2=>?_,fun e2=>⟨rfl,rfl⟩⟩;have hall:=hmx (by have:=of_decide_eq_true e2;lia);refine cAll_andK ?_;walk_at "s";refine cE_listV rfl (by kernel_rfl) rfl (by intros;rfl) ?_;walk_at "ss";refine ⟨_,it_list,fun items e3=>⟨unP1,fun v=>v,by rw [e3,List.length_map];lia,fun x hx=>?_,?_⟩⟩
   ·rw [e3] at hx;obtain ⟨i,hi,rfl⟩:=List.mem_map.mp hx;refine ⟨_,tgt_name (by walk_at "kind"),fun acc L=>ifs_one ?_⟩
    cases i with
    | N y =>
     walk_at "ss";refine cT_valK ?_ (by intros;rfl);walk_at "ss";refine ⟨sub_tup,v_item_tup (x:=.bool true) (by decide) (by decide) rfl ?_⟩;refine truthy_bool' ?_;exact ⟨rfl,rfl,fun q=>nomatch q⟩
    | T y =>
     have:=List.all_eq_true.mp hall _ hi;nomatch this
   ·have e4:items.filter unP1=[]:=by
     rw [e3,List.filter_eq_nil_iff];intro x hx;obtain ⟨i,hi,rfl⟩:=List.mem_map.mp hx;have:=List.all_eq_true.mp hall _ hi
     cases i with
     | N y=>exact Bool.false_ne_true
     | T y=>nomatch this
    rw [e4];refine cE_listF ?_;walk_at "ss";refine ⟨[],rfl,by simp,?_⟩;refine v_neD (a:=.list []) (b:=.list []) rfl rfl ?_;rw [eqv_listR (l:=[]) (by simp)];walk_at "ss";exact ⟨(fun q=>nomatch q),fun _=>⟨rfl,rfl⟩⟩
  walk_at "ss";refine cAll.monoT ?_ (both_f ?_)
  ·refine cAll_andK ?_;walk_at "ss";refine hin hd flags_ok.2.1 ?_;walk_at "ss";refine ⟨fun e=>?_,fun e=>⟨rfl,rfl⟩⟩;have hbx:=hb (of_decide_eq_true e);refine cAll_andK ?_;walk_at "ss";refine len_list (by rw [List.length_map];lia) ?_;rw [List.length_map];walk_at "ss";refine ⟨fun e2=>?_,fun e2=>⟨rfl,rfl⟩⟩;have:=of_decide_eq_true e2;exact absurd this (by lia)
  walk_at "ss";refine cAll.monoT ?_ (both_f ?_)
  ·refine cAll_andK ?_;walk_at "ss";refine hin hd flags_ok.2.2 ?_;walk_at "ss";refine ⟨fun e=>?_,fun e=>⟨rfl,rfl⟩⟩;have hsx:=hs' (of_decide_eq_true e);refine cAll_andK ?_;walk_at "ss";refine len_list (by rw [List.length_map];lia) ?_;rw [List.length_map];walk_at "ss";refine ⟨fun e2=>?_,fun e2=>⟨rfl,rfl⟩⟩
   have e2:r.length=1:=by have:=eq_of_beq e2;lia
   obtain ⟨i,rfl⟩:=List.length_eq_one_iff.mp e2
   cases i with
   | N y=>exact absurd ⟨y,rfl⟩ hsx
   | T y =>
    refine cAll_andK ?_;refine cT_valK ?_ (by intros;rfl);walk_at "ss";refine ⟨sub_list,v_item_list (x:=itR (.T y)) (by decide) (by decide) rfl ?_⟩;walk_at "ss";refine ⟨sub_tup,v_item_tup (x:=.bool false) (by decide) (by decide) rfl ?_⟩;refine truthy_bool' ?_;exact ⟨(fun q=>nomatch q),fun _=>⟨rfl,rfl⟩⟩
  walk_at "ss";exact forK_next hJ (ε':=[("none",.v (.list [.list [],.list [],.list [],.list []])),("told",.v (toldV hs (lang (ddup rs)))),("start",.v (.str st)),("rows",.v (.list ((ddup rs).map rwV))),("now",.v (gramV st rs dom m1 m2)),("due",.v (toldV hs0 (lang rows))),("done",.l da)]) ⟨rfl,rfl,rfl,rfl,rfl,rfl,rfl,trivial⟩ (List.Sublist.refl _) ⟨rfl,rfl⟩
 ·walk_at "ss";refine cAll.monoT ?_ (both_f ?_)
  ·refine cAll_andK ?_;walk_at "ss";refine hin hd flags_ok.1 ?_;walk_at "ss";refine ⟨fun e=>?_,fun e=>⟨rfl,rfl⟩⟩;have hmx:=hT.m (of_decide_eq_true e)
   have hnl:nonLex rs=true:=by
    unfold nonLex;refine List.all_eq_true.mpr fun p hp=>?_;by_cases e1:p.2.length≤1
    ·by_cases e0:p.2.length=1
     ·rw [decide_eq_false (fun q=>q e0)];rfl
     ·have:p.2=[]:=List.eq_nil_of_length_eq_zero (by lia);rw [this];rfl
    ·rw [hmx p hp (by lia),Bool.or_true]
   refine cAll_andK ?_;walk_at "ss";refine cT_valK ?_ (by intros;rfl);walk_at "ss";refine m_Gv (f:=241) h (by kernel_rfl) (by kernel_rfl) (by kernel_rfl) (by decide) ?_;walk_at "ss";refine (isnlG_spec h ?_).deep (by decide);rw [hnl];refine truthy_bool' ?_;exact ⟨(fun q=>nomatch q),fun _=>⟨rfl,rfl⟩⟩
  walk_at "ss";refine v_notInL (x:=.l da) (vs:=ds.map .str) (a:=.str sBin) (by rw [<-sW_is];exact hd) (cl_toDs fun y hy=>sh_str (hds y hy)) (sh_str flags_ok.2.1) ?_;rw [any_str];refine kTst_b ⟨fun e=>?_,fun e=>?_⟩
  ·have hbx:=hT.b (by simpa using e)
   have hm2:m2≤2:=by
    obtain ⟨p,hp,e⟩:=List.mem_map.mp hgo.mx.1;have:=hbx p hp;lia
   walk_at "ss";refine m_Gv (f:=269) h (by kernel_rfl) (by kernel_rfl) (by kernel_rfl) (by decide) ?_;walk_at "ss";refine (isbiG_spec h ?_).deep (by decide);rw [decide_eq_true hm2];walk_at "ss";exact hk
  ·walk_at "ss";exact hk
end
noncomputable def ordOf (m:Nat):List Str:=[[sMix,sBin,sSgl],[sMix,sSgl,sBin],[sSgl,sMix,sBin]].getD m []
theorem ord_len:∀ m,m<3->(ordOf m).length=3:=by decide +kernel
theorem ord_ok:∀ m,m<3->∀ t,t<4->∀ x∈(ordOf m).take t,sOk x=true:=by decide +kernel
noncomputable def stepAt (m t:Nat):Str:=(ordOf m).getD t sMix
theorem ord_facts:∀ m,m<3->∀ t,t<3->(stepAt m t=sMix∧sMix∉(ordOf m).take t∧sBin∉(ordOf m).take t)∨(stepAt m t=sBin∧sMix∈(ordOf m).take t∧sBin∉(ordOf m).take t)∨(stepAt m t=sSgl∧sSgl∉(ordOf m).take t):=fun m hm t ht=>by
 have hm:m=0∨m=1∨m=2:=by lia
 have ht:t=0∨t=1∨t=2:=by lia
 rcases hm with rfl | rfl | rfl<;>rcases ht with rfl | rfl | rfl
 ·exact .inl (by decide +kernel)
 ·exact .inr (.inl (by decide +kernel))
 ·exact .inr (.inr (by decide +kernel))
 ·exact .inl (by decide +kernel)
 ·exact .inr (.inr (by decide +kernel))
 ·exact .inr (.inl (by decide +kernel))
 ·exact .inr (.inr (by decide +kernel))
 ·exact .inl (by decide +kernel)
 ·exact .inr (.inl (by decide +kernel))
theorem ord_all:∀ m,m<3->sMix∈ordOf m∧sBin∈ordOf m∧sSgl∈ordOf m:=by decide +kernel
theorem steps_ne:sBin≠sMix∧sSgl≠sMix∧sSgl≠sBin:=by decide +kernel
theorem ord_get {t:Nat}{s:Str}(h:(ordOf m)[t]? = some s):s=stepAt m t:=by
 unfold stepAt;rw [List.getD_eq_getElem?_getD,h];rfl
noncomputable def bnd (ds:List Str):Nat:=6*(if sMix∈ds then 5 else 1)*(if sBin∈ds then 3 else 1)*(if sSgl∈ds then 13 else 1)
structure Md (ds:List Str)(rs:List Rw):Prop where
 p0:sMix∉ds->P0 rs
 p1:sMix∈ds->sBin∉ds->P1 rs
 p2:sBin∈ds->P2 rs
 sz:rs.length≤bnd ds
 sg:sSgl∈ds->NoSg rs
theorem bnd_le (ds:List Str):bnd ds≤1170:=by
 unfold bnd
 split<;>split<;>split<;>decide
theorem Md.gd {ds:List Str}(h:Md ds rs)(hne:rs≠[]):Gd rs:=by
 by_cases e1:sBin∈ds
 ·exact (h.p2 e1).gd hne
 ·by_cases e2:sMix∈ds
  ·exact (h.p1 e2 e1).gd hne
  ·exact (h.p0 e2).gd hne
theorem P2.allN (h:P2 rs){p:Rw}(hp:p∈rs)(hl:2≤p.2.length):p.2.all It.isN=true:=by
 obtain ⟨B,_,N,_,e⟩:=(h p hp).2.2.1 hl;rw [e];rfl
theorem P1.allN (h:P1 rs){p:Rw}(hp:p∈rs)(hl:2≤p.2.length):p.2.all It.isN=true:=by
 rcases h p hp with q | ⟨t,_,q⟩
 ·refine List.all_eq_true.mpr fun i hi=>?_;obtain ⟨B,_,rfl⟩:=q.2.2.1 hl i hi;rfl
 ·rw [q] at hl;simp at hl
theorem Md.told {ds:List Str}(h:Md ds rs):Told ds rs:=by
 refine ⟨fun e p hp hl=>?_,fun e p hp=>(h.p2 e p hp).2.1,h.sg⟩;by_cases e1:sBin∈ds
 ·exact (h.p2 e1).allN hp hl
 ·exact (h.p1 e e1).allN hp hl
theorem mem_snoc {ds:List Str}{s:Str}:x∈ds++[s]↔x∈ds∨x=s:=by rw [List.mem_append,List.mem_singleton]
theorem Md.mix {ds:List Str}(h:Md ds rs)(h1:sMix∉ds)(h2:sBin∉ds):Md (ds++[sMix]) (mixR rs):=by
 have hb:sBin∉ds++[sMix]:=fun q=>(mem_snoc.mp q).elim h2 steps_ne.1;have hs:sSgl∈ds++[sMix]↔sSgl∈ds:=mem_snoc.trans ⟨fun q=>q.elim id fun e=>absurd e steps_ne.2.1,.inl⟩;refine ⟨fun q=>absurd (mem_snoc.mpr (.inr rfl)) q,fun _ _=>mix_P1 (h.p0 h1),fun q=>absurd q hb,?_,fun q=>mix_sg (h.sg (hs.mp q))⟩;have hm:=mix_len (h.p0 h1);have hz:=h.sz;unfold bnd at hz ⊢;rw [if_pos (mem_snoc.mpr (.inr rfl)),if_neg hb];rw [if_neg h1,if_neg h2] at hz;by_cases e:sSgl∈ds
 ·rw [if_pos e] at hz;rw [if_pos (hs.mpr e)];lia
 ·rw [if_neg e] at hz;rw [if_neg fun q=>e (hs.mp q)];lia
theorem Md.bin {ds:List Str}(h:Md ds rs)(h1:sMix∈ds)(h2:sBin∉ds):Md (ds++[sBin]) (binR rs):=by
 have hm:sMix∈ds++[sBin]:=mem_snoc.mpr (.inl h1);have hs:sSgl∈ds++[sBin]↔sSgl∈ds:=mem_snoc.trans ⟨fun q=>q.elim id fun e=>absurd e steps_ne.2.2,.inl⟩;have hP:=h.p1 h1 h2;refine ⟨fun q=>absurd hm q,fun _ q=>absurd (mem_snoc.mpr (.inr rfl)) q,fun _=>bin_P2 hP,?_,fun q=>bin_sg hP (h.sg (hs.mp q))⟩;have hl:=bin_len hP;have hz:=h.sz;unfold bnd at hz ⊢;rw [if_pos hm,if_pos (mem_snoc.mpr (.inr rfl))];rw [if_pos h1,if_neg h2] at hz;by_cases e:sSgl∈ds
 ·rw [if_pos e] at hz;rw [if_pos (hs.mpr e)];lia
 ·rw [if_neg e] at hz;rw [if_neg fun q=>e (hs.mp q)];lia
theorem Md.unit {ds:List Str}{P:List (Str×Str)}(h:Md ds rs)(h1:sSgl∉ds)(u:UnitR rs R P):Md (ds++[sSgl]) R:=by
 have hm:sMix∈ds++[sSgl]↔sMix∈ds:=mem_snoc.trans ⟨fun q=>q.elim id fun e=>absurd e.symm steps_ne.2.1,.inl⟩;have hb:sBin∈ds++[sSgl]↔sBin∈ds:=mem_snoc.trans ⟨fun q=>q.elim id fun e=>absurd e.symm steps_ne.2.2,.inl⟩;refine ⟨fun q=>u.p0 (h.p0 fun e=>q (hm.mpr e)),fun q1 q2=>u.p1 (h.p1 (hm.mp q1) fun e=>q2 (hb.mpr e)),fun q=>u.p2 (h.p2 (hb.mp q)),?_,fun _=>u.sg⟩;have hl:=u.sz;have hz:=h.sz;unfold bnd at hz ⊢;rw [if_neg h1] at hz;rw [if_pos (mem_snoc.mpr (.inr rfl))]
 have e1:(if sMix∈ds++[sSgl] then 5 else 1)=(if sMix∈ds then 5 else 1):=by
  by_cases e:sMix∈ds
  ·rw [if_pos e,if_pos (hm.mpr e)]
  ·rw [if_neg e,if_neg fun q=>e (hm.mp q)]
 have e2:(if sBin∈ds++[sSgl] then 3 else 1)=(if sBin∈ds then 3 else 1):=by
  by_cases e:sBin∈ds
  ·rw [if_pos e,if_pos (hb.mpr e)]
  ·rw [if_neg e,if_neg fun q=>e (hb.mp q)]
 rw [e1,e2];lia
theorem Md.b1 {ds:List Str}(h:Md ds rs)(h1:sMix∉ds)(h2:sBin∉ds):rs.length≤300:=by
 have hz:=h.sz;unfold bnd at hz;rw [if_neg h1,if_neg h2] at hz
 split at hz<;>lia
theorem Md.b2 {ds:List Str}(h:Md ds rs)(h2:sBin∉ds):rs.length≤600:=by
 have hz:=h.sz;unfold bnd at hz;rw [if_neg h2] at hz
 split at hz<;>split at hz<;>lia
theorem Md.b3 {ds:List Str}(h:Md ds rs)(h1:sSgl∉ds):rs.length≤150:=by
 have hz:=h.sz;unfold bnd at hz;rw [if_neg h1] at hz
 split at hz<;>split at hz<;>lia
theorem any_emp:((rs.map fun p=>V.list (p.2.map itR)).any fun y=>PyData.eqv (toD y) (toD (.list [])))=true↔Emp rs:=by
 rw [List.any_map,List.any_eq_true];have q:∀ b:List It,PyData.eqv (toD (.list (b.map itR))) (toD (.list []))=decide (b=[]):=fun b=>eqv_body b [];exact ⟨fun ⟨p,hp,e⟩=>⟨p,hp,of_decide_eq_true ((q p.2).symm.trans e)⟩,fun ⟨p,hp,e⟩=>⟨p,hp,(q p.2).trans (decide_eq_true e)⟩⟩
theorem not_emp {m1:Int}(h:Utmost (· ≥ ·) (lensOf rs) m1):0<m1↔¬ Emp rs:=by
 obtain ⟨p,hp,e⟩:=List.mem_map.mp h.1;constructor
 ·rintro hm ⟨q,hq,eq⟩;have:=h.2 _ (List.mem_map_of_mem (f:=fun p:Rw=>(p.2.length:Int)) hq);rw [eq] at this;have:m1≤0:=this;lia
 ·intro hn;have:p.2.length≠0:=fun q=>hn ⟨p,hp,List.eq_nil_of_length_eq_zero q⟩;lia
section
variable (h:C.K=Mine.hk.heap_1 C.P)(hg:C.gen=false)
include h
theorem cm_elim:ClsmOk C 334 "eliminate_start" 317:=⟨by rw [h];kernel_rfl,⟨.type "type",319,[.bool false],by rw [h];kernel_rfl,by rw [h];kernel_rfl,by rw [h];kernel_rfl⟩,by rw [h];kernel_rfl⟩
theorem cm_mix:ClsmOk C 334 "remove_mixed_rules" 328:=⟨by rw [h];kernel_rfl,⟨.type "type",330,[.bool false],by rw [h];kernel_rfl,by rw [h];kernel_rfl,by rw [h];kernel_rfl⟩,by rw [h];kernel_rfl⟩
theorem cm_bin:ClsmOk C 334 "binarize" 309:=⟨by rw [h];kernel_rfl,⟨.type "type",311,[.bool false],by rw [h];kernel_rfl,by rw [h];kernel_rfl,by rw [h];kernel_rfl⟩,by rw [h];kernel_rfl⟩
theorem cm_unit:ClsmOk C 334 "remove_unitary_rules" 298:=⟨by rw [h];kernel_rfl,⟨.type "type",300,[.bool false],by rw [h];kernel_rfl,by rw [h];kernel_rfl,by rw [h];kernel_rfl⟩,by rw [h];kernel_rfl⟩
end
noncomputable def ordsV:V:=.list [.list [.str sMix,.str sBin,.str sSgl],.list [.str sMix,.str sSgl,.str sBin],.list [.str sSgl,.str sMix,.str sBin]]
theorem i_ord (hm:m<3)(h:k (.v (.list ((ordOf m).map .str))) μ):SubOk C μ (.v ordsV)∧cV2 C d μ (.v ordsV) (.v (.int m)) getItem k:=by
 have:m=0∨m=1∨m=2:=by lia
 rcases this with rfl | rfl | rfl
 ·exact ⟨sub_list,v_item_list (x:=.list ((ordOf 0).map .str)) (by decide) (by decide) rfl h⟩
 ·exact ⟨sub_list,v_item_list (x:=.list ((ordOf 1).map .str)) (by decide) (by decide) rfl h⟩
 ·exact ⟨sub_list,v_item_list (x:=.list ((ordOf 2).map .str)) (by decide) (by decide) rfl h⟩
@[reducible] noncomputable def lE (da hd a:Addr)(m:Nat)(due g0:V)(rows:List Rw)(g:V):Env1 :=
 [("done",.l da),("now",.v g),("order",.v (.list ((ordOf m).map .str))),("orders",.v ordsV),("due",.v due),("grammar",.v g0),("rows",.v (.list (rows.map rwV))),("hand",.l hd),("script",.v (.glob (.ref a)))]
@[reducible] noncomputable def lE2 (s:Str)(da hd a:Addr)(m:Nat)(due g0:V)(rows:List Rw)(g:V):Env1:=("step",.v (.str s))::lE da hd a m due g0 rows g
theorem sW_snoc (l:List Str)(s:Str):sW l++[W.v (.str s)]=sW (l++[s]):=by unfold sW;rw [List.map_append];rfl
noncomputable def bodyV (v:V):V:=match v with
 | .tup [_,b]=>b
 | v=>v
section
variable (h:C.K=Mine.hk.heap_1 C.P)(hg:C.gen=false)
include h hg
theorem elim_all {rows:List Rw}{m1 m2:Int}(hT:∀ P∈C.tabs,(P,O.tab)∈μ)(hD:Drawn 3 rows)(hgo:GOk rows dom m1 m2)(hk:∀ st rs dom m1 m2,GOk rs dom m1 m2->Md [] rs->Way rows st rs->k (.v (gramV st rs dom m1 m2)) μ) :
  cCode C 18 μ (.ref 317) [.v (.glob (.ref 334)),.v (gramV sS rows dom m1 m2)] [] k:=by
 have hP:=P0row hD.row;have md:∀ rs,P0 rs->rs.length≤6->Md [] rs:=fun rs h1 h2=>⟨fun _=>h1,(fun q=>by cases q),(fun q=>by cases q),by unfold bnd;rw [if_neg (by simp),if_neg (by simp),if_neg (by simp)];lia,(fun q=>by cases q)⟩;have hz:=hD.sz;refine elim_spec h hg hT hP (List.ne_nil_of_mem hD.a) (by lia) (fun dom' m1' m2' hgo'=>hk _ _ _ _ _ hgo' (md _ (P0new hP) (by rw [List.length_append,List.length_singleton];lia)) (way_new hD.row hD.a)) fun hn=>hk _ _ _ _ _ hgo (md _ hP (by lia)) (way_same hP hD.a hn)
theorem law_spec {items:Array Value}{ns₀:List Int}(hl:C.B.IsList a items)(hv:Vals C.P (fun _=>none) (ns₀.map .int) items.toList)(hz:ns₀.length≤63)(hT:∀ P∈C.tabs,(P,O.tab)∈μ)(hk:∀ μ',(∀ P∈C.tabs,(P,O.tab)∈μ')->k (.v (.bool true)) μ'):cCall C 24 μ (.ref 389) [.v (.glob (.ref a))] [] k:=by
 apply cCall_enter [("script",.v (.glob (.ref a)))];walk_at "enter"
 case hbind=>walk_at "bind1"
 walk_at "ss";refine cE_listM ?_;walk_at "ss";refine ⟨a,items,ns₀.map .int,rfl,hl,hv,by have:=hv.toList;rw [Array.length_toList,List.length_map] at this;lia,?_⟩;walk_at "ss";refine ⟨30,rfl,?_⟩;walk_at "ss";refine ⟨by simp,fun hd=>?_⟩;refine gen (ns₀.take 30) fun ns hns=>?_
 have hns30:ns.length≤100:=by rw [hns,List.length_take];lia
 rw [<-List.map_take,<-hns,show O.list [W.v (V.list (ns.map .int)),W.v (V.int 0)]=hand ns 0 from rfl]
 try clear hns hl hv
 walk_at "ss";refine (drawn_spec h hns30 fun rows kk hD hk0 hk1=>?_).deep (by decide);have hP:=P0row hD.row;have hG:=hP.gd (List.ne_nil_of_mem hD.a);have hrz:=hD.sz;have hTm:∀ kk,∀ P∈C.tabs,(P,O.tab)∈(hd,hand ns kk)::μ:=fun kk P hP=>.tail _ (hT P hP);walk_at "ss";refine (made_spec h hg (hTm kk) (by decide) (by decide) (hG.ok (by lia)) fun dom0 n1 n2 hgo0=>?_).deep (by decide);walk_at "ss";refine (words_spec (Un:=uni) h hG.xy (by lia) (fun p hp=>(hG.row p hp).2) hG.hd uni_len fun hs0 hDm=>?_).deep (by decide);walk_at "ss";refine cE_listF ?_;walk_at "ss";refine cE_listF ?_;walk_at "ss";refine ⟨_,rfl,by simp,?_⟩;walk_at "ss";refine cE_listF ?_;walk_at "ss";refine ⟨_,rfl,by simp,?_⟩;walk_at "ss";refine cE_listF ?_;walk_at "ss";refine ⟨_,rfl,by simp,?_⟩;walk_at "ss";refine ⟨_,rfl,by simp,?_⟩;walk_at "ss";refine (next_at (many:=3) (ns:=ns) (kk:=kk) h hk0 (by lia) (by decide) hns30 .here fun m hm _=>?_).deep (by decide);refine i_ord hm ?_;refine seqK_next ?_;walk_at "cons";walk_at "s";refine cE_clsm (by intros;rfl) (by intros;rfl) rfl (by intros;rfl) (cm_elim h) ?_;walk_at "ss";refine ⟨rfl,?_⟩;walk_at "ss";refine (elim_all h hg (hTm (kk+1)) hD hgo0 fun st rs dom m1 m2 hgo hmd hW=>?_).deep (by decide);walk_at "ss";refine cE_listM ?_;walk_at "ss";refine ⟨by simp,fun da=>?_⟩;walk_at "ss";refine cT_valK ?_ (by intros;rfl);walk_at "ss";have hS0:sS∈hs0:=(hDm.dm _).mpr (by obtain ⟨b,hb⟩:=hD.s (by decide);exact ⟨_,hb,rfl⟩);have hA0:sA∈hs0:=(hDm.dm _).mpr ⟨_,hD.a,rfl⟩;have hB0:sB∈hs0:=(hDm.dm _).mpr ⟨_,hD.b,rfl⟩;refine (kept_spec (ds:=[]) h hW (hmd.gd hW.ne) (Nat.le_trans hmd.sz (by have:=bnd_le [];lia)) hgo hmd.told hS0 hA0 hB0 (.head _) (by simp) ?_).deep (by decide);refine truthy_bool' (both_f ?_);walk_at "ss";refine for_is it_list ?_;refine cFor_mk (fun t ε' μ'=>∃ st rs dom m1 m2,Looks (lE da hd a m (toldV hs0 (lang rows)) (gramV sS rows dom0 n1 n2) rows (gramV st rs dom m1 m2)) ε'∧μ'=(da,O.list (sW ((ordOf m).take t)))::(hd,hand ns (kk+1))::μ∧GOk rs dom m1 m2∧Md ((ordOf m).take t) rs∧Way rows st rs) ⟨st,rs,dom,m1,m2,fun _ _ q=>q,rfl,hgo,hmd,hW⟩ (fun J hJ t x ε' μ' hx hI=>?_) (fun ε' μ' hI=>?_)
 ·obtain ⟨s,rfl,hs⟩:=at_map t x hx;clear hgo hmd hW dom m1 m2 rs;obtain ⟨st,rs,dom,m1,m2,hlook,rfl,hgo,hmd,hW⟩:=hI
  have ht3:t<3:=by have:=(List.getElem?_eq_some_iff.mp hs).1;rw [ord_len m hm] at this;exact this
  have htk:(ordOf m).take (t+1)=(ordOf m).take t++[s]:=by rw [List.take_add_one,hs];rfl
  have hst:=ord_get hs;have hTd:∀ P∈C.tabs,(P,O.tab)∈(da,O.list (sW ((ordOf m).take t)))::(hd,hand ns (kk+1))::μ:=fun P hP=>.tail _ (.tail _ (hT P hP));refine cAsg.weak hlook (List.Sublist.refl _) ?_;clear hlook;refine asg_name (by walk_at "kind") ?_;refine cS_cons (cS1.joinX (fun g:List Rw×List Str×Int×Int=>lE2 s da hd a m (toldV hs0 (lang rows)) (gramV sS rows dom0 n1 n2) rows (gramV st g.1 g.2.1 g.2.2.1 g.2.2.2)) (fun _=>(da,O.list (sW ((ordOf m).take t)))::(hd,hand ns (kk+1))::μ) (fun g=>GOk g.1 g.2.1 g.2.2.1 g.2.2.2∧Md ((ordOf m).take t++[s]) g.1∧Way rows st g.1) (fun K hKK=>?_) ?_)
  ·rcases ord_facts m hm t ht3 with ⟨e,q1,q2⟩ | ⟨e,q1,q2⟩ | ⟨e,q1⟩
   ·rw [<-hst] at e;subst e;walk_at "ss";refine v_eqs ?_;walk_at "ss";refine ⟨fun _=>?_,fun q=>absurd q (by simp)⟩;walk_at "cons";walk_at "s";refine cE_clsm (by intros;rfl) (by intros;rfl) rfl (by intros;rfl) (cm_mix h) ?_;walk_at "ss";refine ⟨rfl,?_⟩;walk_at "ss";refine (mixed_spec h hg hTd (hmd.p0 q1) hW.ne (hmd.b1 q1 q2) fun dom' m1' m2' hgo'=>?_).deep (by decide);walk_at "ss";exact hKK (_,dom',m1',m2') (look_sub ⟨rfl,rfl,rfl,rfl,rfl,rfl,rfl,rfl,rfl,rfl,trivial⟩) ⟨hgo',hmd.mix q1 q2,hW.mix (hmd.p0 q1)⟩
   ·rw [<-hst] at e;subst e;walk_at "ss";refine v_eqs ?_;walk_at "ss";refine ⟨fun q=>absurd (eq_of_beq q) steps_ne.1,fun _=>?_⟩;walk_at "ss";refine v_eqs ?_;walk_at "ss";refine ⟨fun _=>?_,fun q=>absurd q (by simp)⟩;walk_at "cons";walk_at "s";refine cE_clsm (by intros;rfl) (by intros;rfl) rfl (by intros;rfl) (cm_bin h) ?_;walk_at "ss";refine ⟨rfl,?_⟩;walk_at "ss";have hW':=hW.bin (hmd.p1 q1 q2);refine (bin_spec h hg hTd (hmd.p1 q1 q2) hW.ne hW'.ne (hmd.b2 q2) fun dom' m1' m2' hgo'=>?_).deep (by decide);walk_at "ss";exact hKK (_,dom',m1',m2') (look_sub ⟨rfl,rfl,rfl,rfl,rfl,rfl,rfl,rfl,rfl,rfl,trivial⟩) ⟨hgo',hmd.bin q1 q2,hW'⟩
   ·rw [<-hst] at e;subst e;walk_at "ss";refine v_eqs ?_;walk_at "ss";refine ⟨fun q=>absurd (eq_of_beq q) steps_ne.2.1,fun _=>?_⟩;walk_at "ss";refine v_eqs ?_;walk_at "ss";refine ⟨fun q=>absurd (eq_of_beq q) steps_ne.2.2,fun _=>?_⟩;walk_at "cons";walk_at "s";refine cE_clsm (by intros;rfl) (by intros;rfl) rfl (by intros;rfl) (cm_unit h) ?_;walk_at "ss";refine ⟨rfl,?_⟩;walk_at "ss";refine (unit_spec h hg hTd (hmd.gd hW.ne) hgo.dm hW.ax (hmd.b3 q1) fun R P dom' m1' m2' hU hgo'=>?_).deep (by decide);walk_at "ss";exact hKK (_,dom',m1',m2') (look_sub ⟨rfl,rfl,rfl,rfl,rfl,rfl,rfl,rfl,rfl,rfl,trivial⟩) ⟨hgo',hmd.unit q1 hU,hW.unit hU⟩
  ·clear hgo hmd hW dom m1 m2 rs;intro ε₂ g hlook hS;obtain ⟨rs,dom,m1,m2⟩:=g;have hgo:GOk rs dom m1 m2:=hS.1;have hmd:Md ((ordOf m).take t++[s]) rs:=hS.2.1;have hW:Way rows st rs:=hS.2.2;refine seqK_next (cS.weak (ε':=lE2 s da hd a m (toldV hs0 (lang rows)) (gramV sS rows dom0 n1 n2) rows (gramV st rs dom m1 m2)) hlook (List.Sublist.refl _) ?_);clear hlook hS;rw [<-htk] at hmd;walk_at "ss";refine m_list (.head _) PySem.F.slot_list_append rfl ?_;walk_at "ss";refine v_append .here (by unfold sW;rw [List.length_map,List.length_take];have:=ord_len m hm;lia) ?_;rw [sW_snoc,<-htk];walk_at "ss";refine cT_valK ?_ (by intros;rfl);walk_at "ss";refine (kept_spec (ds:=(ordOf m).take (t+1)) h hW (hmd.gd hW.ne) (Nat.le_trans hmd.sz (by have:=bnd_le ((ordOf m).take (t+1));lia)) hgo hmd.told hS0 hA0 hB0 (.head _) (ord_ok m hm (t+1) (by lia)) ?_).deep (by decide);refine truthy_bool' (both_f ?_);walk_at "ss";exact ⟨lE da hd a m (toldV hs0 (lang rows)) (gramV sS rows dom0 n1 n2) rows (gramV st rs dom m1 m2),_,⟨look_sub ⟨rfl,rfl,rfl,rfl,rfl,rfl,rfl,rfl,rfl,trivial⟩,List.Sublist.refl _⟩,hJ ⟨st,rs,dom,m1,m2,fun _ _ q=>q,rfl,hgo,hmd,hW⟩⟩
 ·clear hgo hmd hW dom m1 m2 rs;obtain ⟨st,rs,dom,m1,m2,hlook,rfl,hgo,hmd,hW⟩:=hI;rw [List.length_map,List.take_length] at hmd;rw [List.length_map,List.take_length];refine seqK_next (cS.weak hlook (List.Sublist.refl _) ?_);clear hlook;obtain ⟨om,ob,os⟩:=ord_all m hm;have hP2:=hmd.p2 ob;have hsg:=hmd.sg os
  have hnl:nonLex rs=true:=by
   unfold nonLex;refine List.all_eq_true.mpr fun p hp=>?_;by_cases e1:p.2.length≤1
   ·by_cases e0:p.2.length=1
    ·rw [decide_eq_false (fun q=>q e0)];rfl
    ·have:p.2=[]:=List.eq_nil_of_length_eq_zero (by lia);rw [this];rfl
   ·rw [hP2.allN hp (by lia),Bool.or_true]
  have hul:unaryLex rs=true:=by
   unfold unaryLex;refine List.all_eq_true.mpr fun p hp=>?_;have:isU p=false:=Bool.eq_false_iff.mpr fun q=>hsg p hp (isU_iff.mp q);unfold isU at this
   rcases Bool.and_eq_false_iff.mp this with q | q
   ·rw [q];rfl
   ·rw [q,Bool.not_false,Bool.or_true]
  have hm2:m2≤2:=by
   obtain ⟨p,hp,e⟩:=List.mem_map.mp hgo.mx.1;have:=(hP2 p hp).2.1;lia
  walk_at "ss";refine cE_listF ?_;walk_at "ss";refine ⟨[],rfl,by simp,?_⟩;refine cE_listV rfl (by kernel_rfl) rfl (by intros;rfl) ?_;walk_at "ss";refine ⟨_,it_list,fun items e=>⟨fun _=>true,bodyV,by rw [e,List.length_map];lia,fun x hx=>?_,?_⟩⟩
  ·rw [e] at hx;obtain ⟨p,hp,rfl⟩:=List.mem_map.mp hx;refine ⟨_,tgt_tup2 (by walk_at "kind") (by walk_at "kind"),fun acc L=>ifs_nil ⟨rfl,rfl,fun _=>?_⟩⟩;walk_at "ss";exact ⟨rfl,rfl⟩
  have e1:((items.filter fun _=>true).map bodyV)=rows.map fun (p:Rw)=>V.list (p.2.map itR):=by
   rw [e,List.filter_eq_self.mpr (fun _ _=>rfl),List.map_map];rfl
  rw [e1];clear e1 e;refine v_notInL (x:=.v (.list (rows.map fun (p:Rw)=>V.list (p.2.map itR)))) (vs:=rows.map fun (p:Rw)=>V.list (p.2.map itR)) (a:=.list []) rfl (cl_toDs fun p hp=>sh_body (hG.row p hp).1.2) rfl ?_
  have hfin:(((decide (0<m1)&&(nonLex rs&&decide (m2≤2)))&&unaryLex rs) == !((rows.map fun (p:Rw)=>V.list (p.2.map itR)).any fun y=>PyData.eqv (toD y) (toD (.list []))))=true:=by
   rw [hnl,hul,decide_eq_true hm2];have h1:=not_emp hgo.mn;have h2:=any_emp (rs:=rows)
   cases e:((rows.map fun (p:Rw)=>V.list (p.2.map itR)).any fun y=>PyData.eqv (toD y) (toD (.list []))) with
   | true =>
    rw [decide_eq_false (fun q=>h1.mp q (hW.emp.mpr (h2.mp e)))];rfl
   | false =>
    rw [decide_eq_true (h1.mpr fun q=>by rw [h2.mpr (hW.emp.mp q)] at e;nomatch e)];rfl
  refine gen (α:=Bool) (!((rows.map fun (p:Rw)=>V.list (p.2.map itR)).any fun y=>PyData.eqv (toD y) (toD (.list [])))) fun fb hfb=>?_;rw [<-hfb] at hfin ⊢;clear hfb;walk_at "ss";refine m_Gv (f:=283) h (by kernel_rfl) (by kernel_rfl) (by kernel_rfl) (by decide) ?_;walk_at "ss";refine (ischG_spec h ?_).deep (by decide);walk_at "ss";rw [hfin];refine both_t ?_;walk_at "ss";refine (rows_spec h hG.row (by lia) ?_).deep (by decide);rw [ddup_nodup hD.nd];walk_at "ss";have hsr:=sh_rows (l:=rows) fun p hp=>(hG.row p hp).1;refine v_eqD hsr hsr ?_;rw [eqv_rows];walk_at "ss";have:=hk ((da,O.list (sW (ordOf m)))::(hd,hand ns (kk+1))::μ) fun P hP=>.tail _ (.tail _ (hT P hP))
  simpa using this
end
end
section
open PySem PySem.Calls PySem.W PyProof.Rows
noncomputable def codesIn (K:Frag):List (Addr×Addr):=K.filterMap fun p=>(codeP K (.ref p.1)).map fun P=>(p.1,P)
theorem codesIn_mem {K:Frag}{c P:Addr}(h:codeP K (.ref c)=some P):(c,P)∈codesIn K:=by
 unfold codesIn;rw [List.mem_filterMap]
 have:∃ o,K.lookup c=some o:=by
  have h:codePo (K.lookup c)=some P:=h
  cases e:K.lookup c with
  | none=>rw [e] at h;exact nomatch (show none=some P from h)
  | some o=>exact ⟨o,rfl⟩
 obtain ⟨o,ho⟩:=this;exact ⟨(c,o),mem_of_lookupK ho,by rw [h];rfl⟩
section
variable {h₁:Heap}{tabs:List (Addr×Addr)}{K:Frag}{p:Program}{loose:List Str}{mean:ExcName->Option Value}{mg mb:Str->Option Value}
theorem ghost_codeAt (hT:TabsAt tabs h₁){c P:Addr}(hm:(c,P)∈tabs):CodeAt (ghostOf h₁ tabs) c P:=fun h' ps hk hP ht=>by
 obtain ⟨o,vs,file,tf,flags,tg,inF,text,tt,e,r1,r2,r3,r4,r5,r6,r7,r8,r9⟩:=(hT (c,P) hm).1;have e':=hk _ _ (ghost_get hT e fun q=>by rw [q] at r1;cases r1);have hc:CodeHd h' c P:=⟨o,vs,file,tf,flags,tg,inF,text,tt,e',r1,r2,r3,r4,r5,r6,r7,r8,r9⟩;exact ⟨hc.code hP ht,hc.tab hP⟩
theorem vals_ints {P:Params}{F:PMap}{vs:List Value}{ns:List Int}(h:IntsAre vs ns):Vals P F (ns.map .int) vs:=by
 induction h with
 | nil=>exact .nil
 | cons n t _ ih=>exact .cons (.int n t) ih
end
theorem top_call {prog:Program}{w:World}{s₁:Shared}{a f:Addr}{vs:List Value}{ns:List Int}{tabs:List (Addr×Addr)}{K:Params->Frag}{p:Program}{loose:List Str}{mean:ExcName->Option Value}{mg mb:Str->Option Value}{E:Value->Shared->Prop}(hT:TabsAt tabs s₁.heap)(KX:(K w.params).In s₁.heap)(hK:noTabs (K w.params)=true)(T:Top p loose mean mg mb s₁.heap)(hall:∀ q∈codesIn (K w.params),q∈tabs)(hn:(tabs.map (·.2)).Nodup)(h3:∀ q∈tabs,mainGlobals<q.2)(hL:s₁.heap.IsList a vs.toArray)(hI:IntsAre vs ns)(hz:ns.length≤63)(hg:s₁.gens=#[])(law:∀ (C:Cx) (items:Array Value) (μ:Mem) (k:PostW),C.K=K C.P->C.gen=false->C.B.IsList a items->Vals C.P (fun _=>none) (ns.map .int) items.toList->(∀ P∈C.tabs,(P,O.tab)∈μ)->
   (∀ μ',(∀ P∈C.tabs,(P,O.tab)∈μ')->k (.v (.bool true)) μ')->cCall C 24 μ (.ref f) [.v (.glob (.ref a))] [] k) :
  wpAny (model prog w) callerA (call (.ref f) [.ref a]) (fun v s'=>v=.bool true∧OldK s₁.heap s'.heap∧s'.os=s₁.os∧AllBare s'.gens) E s₁:=by
 have gT:=ghost_top hT T;have bm:=bmod_of_top gT
 let C:Cx:={
  prog:=prog,w:=w,B:=ghostOf s₁.heap tabs,os:=s₁.os,K:=K w.params,kin:=ghost_K hT KX hK,lim:=gT.nolimit,mg:=mg,mb:=mb,gg:=gT.g,gb:=gT.b,bb:=gT.builtins,
  bmod:=bm,tabs:=tabs.map (·.2),code:=fun c P e=>⟨ghost_codeAt hT (hall _ (codesIn_mem e)),List.mem_map_of_mem (f:=(·.2)) (hall _ (codesIn_mem e))⟩,gen:=false,gs:=[] }
 have S:Sim C (fun b=>(ghostOf s₁.heap tabs).get? b) (fun _=>none) (tabs.map fun q=>(q.2,O.tab)) s₁:=by
  refine ⟨fun _ _ e=>e,fun b o e=>of_hideAll _ e,fun b o e=>(by cases e),fun b o e=>(by cases e),fun b o hm=>?_,⟨?_,fun b hb=>?_⟩,rfl,⟨hg▸AllBare.empty,fun q hq=>(by cases hq)⟩⟩
  ·obtain ⟨q,hq,e⟩:=List.mem_map.mp hm
   cases e
   exact ⟨hideAll_none _ (List.mem_map_of_mem (f:=(·.2)) hq),rfl,_,(hT q hq).2,#[],rfl,trivial⟩
  ·rw [List.map_map];exact hn
  ·rw [List.map_map] at hb;obtain ⟨q,hq,e⟩:=List.mem_map.mp hb;exact e▸h3 q hq
 have hlaw:=law C vs.toArray (tabs.map fun q=>(q.2,O.tab)) (fun x μ'=>x=.v (.bool true)∧∀ P∈C.tabs,(P,O.tab)∈μ') rfl rfl (ghost_list hT hL) (vals_ints hI) (fun P hP=>by
  obtain ⟨q,hq,e⟩:=List.mem_map.mp hP
  exact e▸List.mem_map_of_mem (f:=fun q:Addr×Addr=>(q.2,O.tab)) hq) (fun μ' hm=>⟨rfl,hm⟩)
 have hA:Rm callerA 24:=⟨rfl,by decide +kernel,by decide +kernel⟩;refine wpBot (hlaw callerA _ _ s₁ [.ref a] [] hA S (.cons (.glob _ rfl) .nil) .nil) fun v s' ⟨x,F',μ',⟨hx,hm⟩,le,S',hv⟩=>?_;subst hx
 cases hv
 have old:∀ b o,s₁.heap.get? b=some o->(s'.heap.get? b=some o)∨(isCodeTable s₁.heap b∧o=tabObj #[]∧∃ ps,s'.heap.get? b=some (tabObj ps)):=fun b o e=>by
  by_cases hb:b∈tabs.map (·.2)
  ·obtain ⟨q,hq,rfl⟩:=List.mem_map.mp hb;have e2:=(hT q hq).2;rw [e] at e2;obtain ⟨_,_,ob,g,ps,e3,_⟩:=S'.own _ _ (hm q.2 hb);exact .inr ⟨((hT q hq).1.tab (hT q hq).2).isCodeTable,Option.some.inj e2,ps,by rw [g,e3]⟩
  ·exact .inl (S'.fz b o (le b o (ghost_ne e hb)))
 refine ⟨rfl,⟨fun b o e=>?_,fun b o e=>?_⟩,S'.os,S'.gens.1⟩
 ·rcases old b o e with q | ⟨q1,rfl,ps,q2⟩
  ·exact .inl q
  ·exact .inr (.inl ⟨q1,rfl,#[],ps,rfl,by rw [Array.empty_append];exact q2⟩)
 ·rcases old b o e with q | ⟨q1,rfl,ps,q2⟩
  ·exact ⟨_,q⟩
  ·exact ⟨_,q2⟩
end
section
open PySem PySem.W PyProof.Rows
theorem codes_hd (P : Params) : ((codesIn (Mine.hk.heap_1 P)).all fun q => codeHdIn (Mine.hk.heap_1 P) q.1 q.2) = true := by kernel_rfl
theorem codes_in (P : Params) : ((codesIn (Mine.hk.heap_1 P)).all fun q => tabsL.contains q.2) = true := by kernel_rfl
theorem codes_gt (P : Params) : ((codesIn (Mine.hk.heap_1 P)).all fun q => decide (mainGlobals < q.2)) = true := by kernel_rfl
theorem codes_nd (P : Params) : decide (((codesIn (Mine.hk.heap_1 P)).map (·.2)).Nodup) = true := by kernel_rfl
theorem no_tabs (P : Params) : noTabs (Mine.hk.heap_1 P) = true := by kernel_rfl
theorem tabs_at {P : Params} {h : Heap} (KX : (Mine.hk.heap_1 P).In h) (KT : ∀ P ∈ tabsL, h.get? P = some (tabObj #[])) : TabsAt (codesIn (Mine.hk.heap_1 P)) h := fun q hq =>
  ⟨codeHd_of_K KX (List.all_eq_true.mp (codes_hd P) q hq), KT _ (by simpa using List.all_eq_true.mp (codes_in P) q hq)⟩
end
end Mine
section
open PySem PySem.W PyProof.Rows
theorem PySem.Challenge.cw_be0028_01_holds : PySem.Challenge.rw_be0028_01.Holds :=
  Mine.hk (by
  refine holds_open (q := Mine.qL) (loose := Mine.looseL) (Xt := fun _ => true) (XP := fun _ _ => True) (Yf := Mine.hookL.obs) (Ya := Mine.hookL.val) (YP := Mine.hookL.says) (N := 5164) Mine.leftL (Hook.of _) (Hook.keeps _) (fun _ _ => trivial) (fun _ _ _ _ _ => trivial) (by rfl) (by rfl) (by rfl) (fun s _ => recFacts_nil (by rfl)) (by rfl) (row_said Mine.saidL) (by decide +kernel) ⟨rfl, rfl, rfl, rfl, rfl, by decide +kernel⟩ ?hw ?hc
  case hw => w_witness2
  intro w s₀ s₁ mg mb G Y fa o pm cd doc dV kV ho hd hcd hD hmg hg args vals as hpre hlay hrd hwl hlo
  have KX := km_in_of Y
  have KT := km_tabs_of Y
  clear hd hD hcd
  refine Ground.open G ?_
  intro T B D TE TW
  clear TE TW B Y D
  have e389 : mg "law" = some (.ref 389) := mg_of KX T.g (by kernel_rfl)
  have efa : fa = 389 := by
    have q := hmg.symm.trans e389
    injection q with q
    injection q
  subst efa
  clear hmg e389 ho
  wrow_args hpre hlay hrd hwl hlo
  rename Heap.IsList _ _ _ => hL
  rename IntsAre _ _ => hI
  rename ¬ (63 : Int) < _ => hz
  refine wpAny_mono (Mine.top_call (E := fun _ _ => False) (K := Mine.hk.heap_1) (Mine.tabs_at KX KT) KX (Mine.no_tabs _) T (fun q h => h) (of_decide_eq_true (Mine.codes_nd _)) (fun q hq => of_decide_eq_true (List.all_eq_true.mp (Mine.codes_gt _) q hq)) hL hI (by omega) hg ?_) ?_ ?_
  · exact fun C items μ k hK hg hl hv hT hk => Mine.law_spec hK hg hl hv (by omega) hT hk
  · rintro v s' ⟨rfl, h1, h2, h3⟩
    refine ⟨.inl ⟨.bool true, .bool true, [], rfl, fun _ => rfl, .bool _, ?_, fun _ => ⟨.nil, fun _ q => by cases q⟩⟩, h1, h2, h3⟩
    kernel_rfl
  · exact fun _ _ e => e.elim)
end

import PyProof.Rows.All
import PyProof.ConsumeS
import PyProof.DictTruth
import PyProof.DictWalks
import PyProof.WalksMore
import PyProof.RangeFor
import PyProof.SetNew
import KE.KEqDict
import KE.KNestM
import KE.KSortTup
import Wide.FinOn
import OpenK.AllK
import Wide.All
import PySem.Challenge.RW_be0028_02
set_option autoImplicit false
set_option linter.all false
set_option maxRecDepth 100000
set_option maxHeartbeats 8000000
set_option Elab.async false
set_option genInjectivity false
set_option genSizeOf false
set_option tactic.hygienic false
section
namespace Mine
open PySem PySem.W PyProof.Rows PySem.W.Fast
theorem left_boot {p q : Program} {loose : List Str} {Xt : Shared → Bool} {α : Type} {Yf : Shared → α} {Ya : World → α} {N : Nat} {g0 : Bool}
    (e : opening p = plainProg p.main.scope.names) (hN : Nat.ble 600 N = true) (f : ∀ s, fenceModules? p s = some s)
    (ns : ∀ w : World, ((boot_heap w.params).isNs mainGlobals && (Array.mk [] : Array GenState).size == 0) = true)
    (run : ∀ w : World, (fun os => (tw14082659384304107361 tw14364793385576792824 p w (boot_heap w.params).objs.size ((boot_heap w.params).nsMap mainGlobals "__annotations__") N ⟨boot_heap w.params, Array.mk [], boot_drawn, boot_toks, os⟩ (topStub p)).map fun s =>
      (staticsOk (importedModules p.main.body) (boot_heap w.params) s.heap && namesBound p s.heap && gensDone s && laidKept (boot_heap w.params) s.heap, tw4187177175401517315 q loose (importedModules p.main.body) Xt g0 s, Yf s)) = fun _ => some (true, openGood q loose, Ya w)) :
    LeftO p q loose Xt Yf Ya N g0 := fun w => by
  obtain ⟨⟨h, gs, d, k, os⟩, a, b⟩ := Option.map_eq_some_iff.mp (boot_open e hN f w)
  obtain ⟨rfl, rfl, rfl, rfl⟩ : h = boot_heap w.params ∧ gs = Array.mk [] ∧ d = boot_drawn ∧ k = boot_toks := by simpa only [Prod.mk.injEq] using b
  have r := congrFun (run w) os
  rw [← te14082659384304107361, ← te14364793385576792824, ← te4187177175401517315] at r
  obtain ⟨s, c, g⟩ := Option.map_eq_some_iff.mp r
  obtain ⟨l1, l2, l3⟩ : _ ∧ _ ∧ _ := by simpa only [Prod.mk.injEq] using g
  have t : topFrom treeTable p w N ⟨boot_heap w.params, Array.mk [], boot_drawn, boot_toks, os⟩ = some s := by
    unfold topFrom
    dsimp only
    rw [ns w, c]
    show (match staticsOk (importedModules p.main.body) (boot_heap w.params) s.heap && namesBound p s.heap && gensDone s && laidKept (boot_heap w.params) s.heap with | true => _ | false => _) = _
    rw [l1]
  unfold openEnds
  rw [a]
  show (topFrom treeTable p w N _).map _ = _
  rw [t]
  show some (_, _) = some (_, _)
  rw [l2, l3]
theorem saidL : OpenLaw.wellSaid PySem.Challenge.rw_be0028_02 = true := (congrFun te9446332074065402090 _).trans (by kernel_rfl)
noncomputable def tabsL : List Addr := [16, 30, 37, 44, 51, 58, 72, 79, 86, 100, 107, 114, 121, 128, 135, 142, 147, 169, 176, 183, 188, 196, 201, 208, 215, 222, 229, 236, 243, 250, 257, 264, 271, 278, 286, 293, 304, 314, 325, 342, 349, 356, 361, 366]
noncomputable def qL : Program := view PySem.Challenge.pw_be0028_02 [9, 13]
noncomputable def looseL : List Str := ["_wall", "Nonterminal", "is_nonterminal", "is_terminal", "_key", "Production", "CFG", "transitive_closure", "_law_next", "_law_behind", "_law_told"]
section
local macro_rules | `(tactic| o_law) => `(tactic| refine holds_law saidL fun said => ?_)
local macro_rules | `(tactic| o_head (kHook $k $a $e)) => `(tactic| refine (fun (_ : True) h => h) ?hw ?hc)
local macro_rules | `(tactic| w_witness2) => `(tactic| trivial)
open_top hk for PySem.Challenge.rw_be0028_02
end
noncomputable def asL : List Addr := [2, 3, 15, 17, 18, 20, 21, 29, 31, 32, 34, 35, 36, 38, 39, 41, 42, 43, 45, 46, 48, 49, 50, 52, 53, 55, 56, 57, 59, 60, 62, 63, 64, 65, 66, 67, 68, 71, 73, 74, 76, 77, 78, 80, 81, 83, 84, 85, 87, 88, 90, 91, 99, 101, 102, 104, 105, 106, 108, 109, 111, 112, 113, 115, 116, 118, 119, 120, 122, 123, 125, 126, 127, 129, 130, 132, 133, 134, 136, 137, 139, 140, 141, 144, 145, 146, 148, 149, 151, 152, 153, 154, 155, 156, 157, 167, 168, 170, 171, 173, 174, 175, 177, 178, 180, 181, 182, 185, 186, 187, 189, 190, 192, 193, 194, 195, 198, 199, 200, 202, 203, 205, 206, 207, 209, 210, 212, 213, 214, 216, 217, 219, 220, 221, 223, 224, 226, 227, 228, 230, 231, 233, 234, 235, 237, 238, 240, 241, 242, 244, 245, 247, 248, 249, 251, 252, 254, 255, 256, 258, 259, 261, 262, 263, 265, 266, 268, 269, 270, 272, 273, 275, 276, 277, 279, 280, 282, 283, 284, 285, 287, 288, 290, 291, 292, 294, 295, 297, 298, 299, 300, 301, 302, 303, 305, 306, 308, 309, 310, 311, 312, 313, 315, 316, 318, 319, 320, 321, 322, 323, 324, 326, 327, 329, 330, 331, 332, 333, 334, 335, 336, 337, 338, 341, 343, 344, 346, 347, 348, 350, 351, 353, 354, 355, 358, 359, 360, 363, 364, 365, 368, 369]
theorem asL_eq (P : Params) : asL = (hk.heap_1 P).map (·.1) := by kernel_rfl
noncomputable abbrev hookL : Hook := kmHook hk.heap_1 asL asL_eq tabsL
theorem leftL : LeftO PySem.Challenge.pw_be0028_02 qL looseL (fun _ => true) hookL.obs hookL.val 5164 :=
  left_boot (by kernel_rfl) (by decide +kernel) (fun s => by kernel_rfl) (fun w => by kernel_rfl) fun w => by kernel_rfl
end Mine
end
namespace Mine
section
open PySem PySem.Calls
theorem el15 {α0 : Sort _} {p0 p1 p2 p3 p4 : α0 → Prop} {G : Prop} (h : ∃ x0, p0 x0 ∧ p1 x0 ∧ p2 x0 ∧ p3 x0 ∧ p4 x0) (k : ∀ x0, p0 x0 → p1 x0 → p2 x0 → p3 x0 → p4 x0 → G) : G := h.elim fun x0 h => k x0 h.1 h.2.1 h.2.2.1 h.2.2.2.1 h.2.2.2.2
theorem el21 {α0 : Sort _} {α1 : Sort _} {p0 : α0 → α1 → Prop} {G : Prop} (h : ∃ x0 x1, p0 x0 x1) (k : ∀ x0 x1, p0 x0 x1 → G) : G := h.elim fun x0 h => h.elim fun x1 h => k x0 x1 h
theorem el12 {α0 : Sort _} {p0 p1 : α0 → Prop} {G : Prop} (h : ∃ x0, p0 x0 ∧ p1 x0) (k : ∀ x0, p0 x0 → p1 x0 → G) : G := h.elim fun x0 h => k x0 h.1 h.2
theorem e2 {p q G : Prop} (h : p ∧ q) (k : p → q → G) : G := k h.1 h.2
theorem el03  {p0 p1 p2 : Prop} {G : Prop} (h : p0 ∧ p1 ∧ p2) (k : p0 → p1 → p2 → G) : G := k  h.1 h.2.1 h.2.2
theorem el22 {α0 : Sort _} {α1 : Sort _} {p0 p1 : α0 → α1 → Prop} {G : Prop} (h : ∃ x0 x1, p0 x0 x1 ∧ p1 x0 x1) (k : ∀ x0 x1, p0 x0 x1 → p1 x0 x1 → G) : G := h.elim fun x0 h => h.elim fun x1 h => k x0 x1 h.1 h.2
theorem el13 {α0 : Sort _} {p0 p1 p2 : α0 → Prop} {G : Prop} (h : ∃ x0, p0 x0 ∧ p1 x0 ∧ p2 x0) (k : ∀ x0, p0 x0 → p1 x0 → p2 x0 → G) : G := h.elim fun x0 h => k x0 h.1 h.2.1 h.2.2
theorem el32 {α0 : Sort _} {α1 : Sort _} {α2 : Sort _} {p0 p1 : α0 → α1 → α2 → Prop} {G : Prop} (h : ∃ x0 x1 x2, p0 x0 x1 x2 ∧ p1 x0 x1 x2) (k : ∀ x0 x1 x2, p0 x0 x1 x2 → p1 x0 x1 x2 → G) : G := h.elim fun x0 h => h.elim fun x1 h => h.elim fun x2 h => k x0 x1 x2 h.1 h.2
theorem el23 {α0 : Sort _} {α1 : Sort _} {p0 p1 p2 : α0 → α1 → Prop} {G : Prop} (h : ∃ x0 x1, p0 x0 x1 ∧ p1 x0 x1 ∧ p2 x0 x1) (k : ∀ x0 x1, p0 x0 x1 → p1 x0 x1 → p2 x0 x1 → G) : G := h.elim fun x0 h => h.elim fun x1 h => k x0 x1 h.1 h.2.1 h.2.2
theorem el14 {α0 : Sort _} {p0 p1 p2 p3 : α0 → Prop} {G : Prop} (h : ∃ x0, p0 x0 ∧ p1 x0 ∧ p2 x0 ∧ p3 x0) (k : ∀ x0, p0 x0 → p1 x0 → p2 x0 → p3 x0 → G) : G := h.elim fun x0 h => k x0 h.1 h.2.1 h.2.2.1 h.2.2.2
theorem el05  {p0 p1 p2 p3 p4 : Prop} {G : Prop} (h : p0 ∧ p1 ∧ p2 ∧ p3 ∧ p4) (k : p0 → p1 → p2 → p3 → p4 → G) : G := k  h.1 h.2.1 h.2.2.1 h.2.2.2.1 h.2.2.2.2
theorem el33 {α0 : Sort _} {α1 : Sort _} {α2 : Sort _} {p0 p1 p2 : α0 → α1 → α2 → Prop} {G : Prop} (h : ∃ x0 x1 x2, p0 x0 x1 x2 ∧ p1 x0 x1 x2 ∧ p2 x0 x1 x2) (k : ∀ x0 x1 x2, p0 x0 x1 x2 → p1 x0 x1 x2 → p2 x0 x1 x2 → G) : G := h.elim fun x0 h => h.elim fun x1 h => h.elim fun x2 h => k x0 x1 x2 h.1 h.2.1 h.2.2
theorem el24 {α0 : Sort _} {α1 : Sort _} {p0 p1 p2 p3 : α0 → α1 → Prop} {G : Prop} (h : ∃ x0 x1, p0 x0 x1 ∧ p1 x0 x1 ∧ p2 x0 x1 ∧ p3 x0 x1) (k : ∀ x0 x1, p0 x0 x1 → p1 x0 x1 → p2 x0 x1 → p3 x0 x1 → G) : G := h.elim fun x0 h => h.elim fun x1 h => k x0 x1 h.1 h.2.1 h.2.2.1 h.2.2.2
theorem el52 {α0 : Sort _} {α1 : Sort _} {α2 : Sort _} {α3 : Sort _} {α4 : Sort _} {p0 p1 : α0 → α1 → α2 → α3 → α4 → Prop} {G : Prop} (h : ∃ x0 x1 x2 x3 x4, p0 x0 x1 x2 x3 x4 ∧ p1 x0 x1 x2 x3 x4) (k : ∀ x0 x1 x2 x3 x4, p0 x0 x1 x2 x3 x4 → p1 x0 x1 x2 x3 x4 → G) : G := h.elim fun x0 h => h.elim fun x1 h => h.elim fun x2 h => h.elim fun x3 h => h.elim fun x4 h => k x0 x1 x2 x3 x4 h.1 h.2
theorem el43 {α0 : Sort _} {α1 : Sort _} {α2 : Sort _} {α3 : Sort _} {p0 p1 p2 : α0 → α1 → α2 → α3 → Prop} {G : Prop} (h : ∃ x0 x1 x2 x3, p0 x0 x1 x2 x3 ∧ p1 x0 x1 x2 x3 ∧ p2 x0 x1 x2 x3) (k : ∀ x0 x1 x2 x3, p0 x0 x1 x2 x3 → p1 x0 x1 x2 x3 → p2 x0 x1 x2 x3 → G) : G := h.elim fun x0 h => h.elim fun x1 h => h.elim fun x2 h => h.elim fun x3 h => k x0 x1 x2 x3 h.1 h.2.1 h.2.2
theorem el34 {α0 : Sort _} {α1 : Sort _} {α2 : Sort _} {p0 p1 p2 p3 : α0 → α1 → α2 → Prop} {G : Prop} (h : ∃ x0 x1 x2, p0 x0 x1 x2 ∧ p1 x0 x1 x2 ∧ p2 x0 x1 x2 ∧ p3 x0 x1 x2) (k : ∀ x0 x1 x2, p0 x0 x1 x2 → p1 x0 x1 x2 → p2 x0 x1 x2 → p3 x0 x1 x2 → G) : G := h.elim fun x0 h => h.elim fun x1 h => h.elim fun x2 h => k x0 x1 x2 h.1 h.2.1 h.2.2.1 h.2.2.2
theorem el25 {α0 : Sort _} {α1 : Sort _} {p0 p1 p2 p3 p4 : α0 → α1 → Prop} {G : Prop} (h : ∃ x0 x1, p0 x0 x1 ∧ p1 x0 x1 ∧ p2 x0 x1 ∧ p3 x0 x1 ∧ p4 x0 x1) (k : ∀ x0 x1, p0 x0 x1 → p1 x0 x1 → p2 x0 x1 → p3 x0 x1 → p4 x0 x1 → G) : G := h.elim fun x0 h => h.elim fun x1 h => k x0 x1 h.1 h.2.1 h.2.2.1 h.2.2.2.1 h.2.2.2.2
theorem el53 {α0 : Sort _} {α1 : Sort _} {α2 : Sort _} {α3 : Sort _} {α4 : Sort _} {p0 p1 p2 : α0 → α1 → α2 → α3 → α4 → Prop} {G : Prop} (h : ∃ x0 x1 x2 x3 x4, p0 x0 x1 x2 x3 x4 ∧ p1 x0 x1 x2 x3 x4 ∧ p2 x0 x1 x2 x3 x4) (k : ∀ x0 x1 x2 x3 x4, p0 x0 x1 x2 x3 x4 → p1 x0 x1 x2 x3 x4 → p2 x0 x1 x2 x3 x4 → G) : G := h.elim fun x0 h => h.elim fun x1 h => h.elim fun x2 h => h.elim fun x3 h => h.elim fun x4 h => k x0 x1 x2 x3 x4 h.1 h.2.1 h.2.2
theorem el44 {α0 : Sort _} {α1 : Sort _} {α2 : Sort _} {α3 : Sort _} {p0 p1 p2 p3 : α0 → α1 → α2 → α3 → Prop} {G : Prop} (h : ∃ x0 x1 x2 x3, p0 x0 x1 x2 x3 ∧ p1 x0 x1 x2 x3 ∧ p2 x0 x1 x2 x3 ∧ p3 x0 x1 x2 x3) (k : ∀ x0 x1 x2 x3, p0 x0 x1 x2 x3 → p1 x0 x1 x2 x3 → p2 x0 x1 x2 x3 → p3 x0 x1 x2 x3 → G) : G := h.elim fun x0 h => h.elim fun x1 h => h.elim fun x2 h => h.elim fun x3 h => k x0 x1 x2 x3 h.1 h.2.1 h.2.2.1 h.2.2.2
theorem el26 {α0 : Sort _} {α1 : Sort _} {p0 p1 p2 p3 p4 p5 : α0 → α1 → Prop} {G : Prop} (h : ∃ x0 x1, p0 x0 x1 ∧ p1 x0 x1 ∧ p2 x0 x1 ∧ p3 x0 x1 ∧ p4 x0 x1 ∧ p5 x0 x1) (k : ∀ x0 x1, p0 x0 x1 → p1 x0 x1 → p2 x0 x1 → p3 x0 x1 → p4 x0 x1 → p5 x0 x1 → G) : G := h.elim fun x0 h => h.elim fun x1 h => k x0 x1 h.1 h.2.1 h.2.2.1 h.2.2.2.1 h.2.2.2.2.1 h.2.2.2.2.2
theorem el45 {α0 : Sort _} {α1 : Sort _} {α2 : Sort _} {α3 : Sort _} {p0 p1 p2 p3 p4 : α0 → α1 → α2 → α3 → Prop} {G : Prop} (h : ∃ x0 x1 x2 x3, p0 x0 x1 x2 x3 ∧ p1 x0 x1 x2 x3 ∧ p2 x0 x1 x2 x3 ∧ p3 x0 x1 x2 x3 ∧ p4 x0 x1 x2 x3) (k : ∀ x0 x1 x2 x3, p0 x0 x1 x2 x3 → p1 x0 x1 x2 x3 → p2 x0 x1 x2 x3 → p3 x0 x1 x2 x3 → p4 x0 x1 x2 x3 → G) : G := h.elim fun x0 h => h.elim fun x1 h => h.elim fun x2 h => h.elim fun x3 h => k x0 x1 x2 x3 h.1 h.2.1 h.2.2.1 h.2.2.2.1 h.2.2.2.2
theorem el36 {α0 : Sort _} {α1 : Sort _} {α2 : Sort _} {p0 p1 p2 p3 p4 p5 : α0 → α1 → α2 → Prop} {G : Prop} (h : ∃ x0 x1 x2, p0 x0 x1 x2 ∧ p1 x0 x1 x2 ∧ p2 x0 x1 x2 ∧ p3 x0 x1 x2 ∧ p4 x0 x1 x2 ∧ p5 x0 x1 x2) (k : ∀ x0 x1 x2, p0 x0 x1 x2 → p1 x0 x1 x2 → p2 x0 x1 x2 → p3 x0 x1 x2 → p4 x0 x1 x2 → p5 x0 x1 x2 → G) : G := h.elim fun x0 h => h.elim fun x1 h => h.elim fun x2 h => k x0 x1 x2 h.1 h.2.1 h.2.2.1 h.2.2.2.1 h.2.2.2.2.1 h.2.2.2.2.2
theorem el37 {α0 : Sort _} {α1 : Sort _} {α2 : Sort _} {p0 p1 p2 p3 p4 p5 p6 : α0 → α1 → α2 → Prop} {G : Prop} (h : ∃ x0 x1 x2, p0 x0 x1 x2 ∧ p1 x0 x1 x2 ∧ p2 x0 x1 x2 ∧ p3 x0 x1 x2 ∧ p4 x0 x1 x2 ∧ p5 x0 x1 x2 ∧ p6 x0 x1 x2) (k : ∀ x0 x1 x2, p0 x0 x1 x2 → p1 x0 x1 x2 → p2 x0 x1 x2 → p3 x0 x1 x2 → p4 x0 x1 x2 → p5 x0 x1 x2 → p6 x0 x1 x2 → G) : G := h.elim fun x0 h => h.elim fun x1 h => h.elim fun x2 h => k x0 x1 x2 h.1 h.2.1 h.2.2.1 h.2.2.2.1 h.2.2.2.2.1 h.2.2.2.2.2.1 h.2.2.2.2.2.2
theorem el57 {α0 : Sort _} {α1 : Sort _} {α2 : Sort _} {α3 : Sort _} {α4 : Sort _} {p0 p1 p2 p3 p4 p5 p6 : α0 → α1 → α2 → α3 → α4 → Prop} {G : Prop} (h : ∃ x0 x1 x2 x3 x4, p0 x0 x1 x2 x3 x4 ∧ p1 x0 x1 x2 x3 x4 ∧ p2 x0 x1 x2 x3 x4 ∧ p3 x0 x1 x2 x3 x4 ∧ p4 x0 x1 x2 x3 x4 ∧ p5 x0 x1 x2 x3 x4 ∧ p6 x0 x1 x2 x3 x4) (k : ∀ x0 x1 x2 x3 x4, p0 x0 x1 x2 x3 x4 → p1 x0 x1 x2 x3 x4 → p2 x0 x1 x2 x3 x4 → p3 x0 x1 x2 x3 x4 → p4 x0 x1 x2 x3 x4 → p5 x0 x1 x2 x3 x4 → p6 x0 x1 x2 x3 x4 → G) : G := h.elim fun x0 h => h.elim fun x1 h => h.elim fun x2 h => h.elim fun x3 h => h.elim fun x4 h => k x0 x1 x2 x3 x4 h.1 h.2.1 h.2.2.1 h.2.2.2.1 h.2.2.2.2.1 h.2.2.2.2.2.1 h.2.2.2.2.2.2
inductive Key where
  | s (x : Str)
  | t (xs : List Str)
  | p (xs ys : List Str)
  deriving DecidableEq
inductive V where
  | none
  | bool (b : Bool)
  | int (i : Int)
  | str (x : Str)
  | glob (v : Value)
  | tup (vs : List V)
  | list (vs : List V)
  | dict (kvs : List (Key × V))
  | set (ks : List Key)
  | inst (c : Addr) (fs : List (Str × V))
  | rng (a b : Int)
inductive W where
  | v (d : V)
  | l (a : Addr)
abbrev PMap := Addr → Option Obj
noncomputable def PLe (F F' : PMap) : Prop := ∀ a o, F a = some o → F' a = some o
noncomputable def PIn (F : PMap) (h : Heap) : Prop := ∀ a o, F a = some o → h.get? a = some o
noncomputable def PDis (F Z : PMap) : Prop := ∀ a o, Z a = some o → F a = none
noncomputable def PUn (Z S : PMap) : PMap := fun a => (Z a).or (S a)
theorem PLe.refl (F : PMap) : PLe F F := fun _ _ e => e
theorem PLe.trans {F G H : PMap} (x : PLe F G) (y : PLe G H) : PLe F H := fun a o e => y a o (x a o e)
noncomputable def hashStr (P : Params) (x : Str) : Int := if x.cps.isEmpty = true then 0 else reduceHash (P.strHash x.cps)
noncomputable def hashTup (hs : List Int) : Int := reduceHash (Builtin.Tuple.tupleHashOf hs)
noncomputable def Key.hash (P : Params) : Key → Int
  | .s x => hashStr P x
  | .t xs => hashTup (xs.map (hashStr P))
  | .p xs ys => hashTup [hashTup (xs.map (hashStr P)), hashTup (ys.map (hashStr P))]
noncomputable def Key.val : Key → V
  | .s x => .str x
  | .t xs => .tup (xs.map V.str)
  | .p xs ys => .tup [V.tup (xs.map V.str), V.tup (ys.map V.str)]
inductive StrsAt : List Str → List Value → Prop
  | nil : StrsAt [] []
  | cons {x : Str} {t : Tok} {xs : List Str} {vs : List Value} : StrsAt xs vs → StrsAt (x :: xs) (.str x t :: vs)
noncomputable def StrTup (F : PMap) (xs : List Str) (v : Value) : Prop :=
  ∃ (a : Addr) (ws : Array Value) (n : Nat), v = .ref a ∧ F a = some { cls := .type "tuple", data := .seq ws n } ∧ StrsAt xs ws.toList
noncomputable def KeyAt (F : PMap) : Key → Value → Prop
  | .s x, v => ∃ t : Tok, v = Value.str x t
  | .t xs, v => StrTup F xs v
  | .p xs ys, v => ∃ a u w n, v = .ref a ∧ F a = some { cls := .type "tuple", data := .seq #[u, w] n } ∧ StrTup F xs u ∧ StrTup F ys w
noncomputable def FN : List Str := ["_symbol", "_lhs", "_rhs", "_start", "_productions", "_categories", "_lhs_index", "_rhs_index", "_empty_index", "_lexical_index", "_immediate_leftcorner_categories", "_immediate_leftcorner_words",
  "_leftcorners", "_leftcorner_words", "_is_lexical", "_is_nonlexical", "_min_len", "_max_len", "_all_unary_are_lexical"]
noncomputable def FKeys (es : Array DictEntry) : Prop := ∀ e ∈ es, ∃ n t, e.key = .str n t ∧ n ∈ FN
noncomputable def Key.kind : Key → Nat
  | .s _ => 0
  | .t _ => 1
  | .p _ _ => 2
noncomputable def prb (t : SetTable) (h : Int) : Nat → SetTable.Probe
  | 0 => t.probeStart h
  | n + 1 => t.advance (prb t h n)
structure TabOk (hs : List Int) (t : SetTable) : Prop where
  dum : t.dummies = #[]
  mask : ∃ k, 3 ≤ k ∧ t.mask + 1 = 2 ^ k
  cap : t.mask < 5000
  size : t.place.size = hs.length
  room : t.place.size * 5 < t.mask * 3
  asc : t.place.toList.Pairwise (· < ·)
  le : ∀ j ∈ t.place.toList, j ≤ t.mask
  path : ∀ (i : Nat) (h : Int) (j : Nat), hs[i]? = some h → t.place.toList[i]? = some j → ∃ n, n < 10 * SetTable.turns t.mask ∧ (prb t h n).j = j ∧ ∀ m, m < n → (prb t h m).j ∈ t.place.toList
structure SetOk (P : Params) (ks : List Key) (t : SetTable) : Prop where
  nodup : ks.Nodup
  fits : t.fits ks.length = true
  small : ks.length < scanBound
  led : P.followText "set-order" = false → t.led = true
  tab : TabOk (ks.map (Key.hash P)) t
  one : ∀ k ∈ ks, ∀ k' ∈ ks, k.kind = k'.kind
mutual
inductive Val (P : Params) (F : PMap) : V → Value → Prop
  | none : Val P F .none .none
  | bool (b : Bool) : Val P F (.bool b) (.bool b)
  | int (i : Int) (t : Tok) : Val P F (.int i) (.int i t)
  | str (x : Str) (t : Tok) : Val P F (.str x) (.str x t)
  | glob (v : Value) : PySem.W.handedIn v = true → Val P F (.glob v) v
  | tup {vs : List V} {a : Addr} {ws : Array Value} {n : Nat} : F a = some { cls := .type "tuple", data := .seq ws n } → Vals P F vs ws.toList → Val P F (.tup vs) (.ref a)
  | list {vs : List V} {a : Addr} {ws : Array Value} {n : Nat} : F a = some { cls := .type "list", data := .seq ws n } → Vals P F vs ws.toList → Val P F (.list vs) (.ref a)
  | dict {kvs : List (Key × V)} {a : Addr} {o : Obj} {es : Array DictEntry} {n : Nat} : (a == sysModules) = false → F a = some o → o.ExactDict → o.data = .dict es n → Ents P F kvs es.toList → (kvs.map (·.1)).Nodup → Val P F (.dict kvs) (.ref a)
  | set {ks : List Key} {a : Addr} {o : Obj} {es : Array (Int × Value)} {n : Nat} {t : SetTable} : F a = some o → o.ExactSet → o.data = .set es n t → es.toList.length = ks.length →
      (∀ (i : Nat) (k : Key), ks[i]? = some k → ∃ v, es.toList[i]? = some (k.hash P, v) ∧ KeyAt F k v) → SetOk P ks t → Val P F (.set ks) (.ref a)
  | inst {c : Addr} {fs : List (Str × V)} {a d : Addr} {o : Obj} {es : Array DictEntry} {n : Nat} : F a = some { cls := .ref c, dict := some d, data := .plain } → F d = some o → o.data = .dict es n → FKeys es → Flds P F es fs → Val P F (.inst c fs) (.ref a)
  | rng {a b : Int} {r : Addr} {t u x : Tok} : F r = some { cls := .type "range", data := .fields #[.int a t, .int b u, .int 1 x] } → Val P F (.rng a b) (.ref r)
inductive Vals (P : Params) (F : PMap) : List V → List Value → Prop
  | nil : Vals P F [] []
  | cons {v : V} {w : Value} {vs : List V} {ws : List Value} : Val P F v w → Vals P F vs ws → Vals P F (v :: vs) (w :: ws)
inductive Ents (P : Params) (F : PMap) : List (Key × V) → List DictEntry → Prop
  | nil : Ents P F [] []
  | cons {k : Key} {v : V} {e : DictEntry} {kvs : List (Key × V)} {es : List DictEntry} : KeyAt F k e.key → e.hash = k.hash P → Val P F v e.val → Ents P F kvs es → Ents P F ((k, v) :: kvs) (e :: es)
inductive Flds (P : Params) (F : PMap) : Array DictEntry → List (Str × V) → Prop
  | nil {es : Array DictEntry} : Flds P F es []
  | cons {es : Array DictEntry} {x : Str} {v : V} {w : Value} {fs : List (Str × V)} : nsFind es x = some w → Val P F v w → Flds P F es fs → Flds P F es ((x, v) :: fs)
end
theorem StrTup.mono {F F' : PMap} (h : PLe F F') {xs : List Str} {v : Value} : StrTup F xs v → StrTup F' xs v
  | ⟨a, ws, n, e, h1, r⟩ => ⟨a, ws, n, e, h a _ h1, r⟩
theorem KeyAt.mono {F F' : PMap} (h : PLe F F') {k : Key} {v : Value} (q : KeyAt F k v) : KeyAt F' k v := by
  cases k with
  | s _ => exact q
  | t _ => exact StrTup.mono h q
  | p _ _ => exact q.elim fun a q => el34 q fun u w n e h1 x y => ⟨a, u, w, n, e, h a _ h1, StrTup.mono h x, StrTup.mono h y⟩
section
variable {P : Params} {F F' : PMap}
theorem Val.mono (h : PLe F F') {d : V} {v : Value} (x : Val P F d v) : Val P F' d v :=
  Val.rec (motive_1 := fun d v _ => Val P F' d v) (motive_2 := fun d v _ => Vals P F' d v) (motive_3 := fun d v _ => Ents P F' d v) (motive_4 := fun es d _ => Flds P F' es d)
    .none .bool .int .str .glob (fun h1 _ q => .tup (h _ _ h1) q) (fun h1 _ q => .list (h _ _ h1) q) (fun h0 h1 h2 h3 _ h5 q => .dict h0 (h _ _ h1) h2 h3 q h5)
    (fun h1 h2 h3 h4 h5 h6 => .set (h _ _ h1) h2 h3 h4 (fun i k e => el12 (h5 i k e) fun v a b => ⟨v, a, b.mono h⟩) h6) (fun h1 h2 h4 h5 _ q => .inst (h _ _ h1) (h _ _ h2) h4 h5 q) (fun h1 => .rng (h _ _ h1))
    .nil (fun _ _ a b => .cons a b) .nil (fun a b _ _ c d => .cons (a.mono h) b c d) .nil (fun a _ _ b c => .cons a b c) x
theorem Vals.mono (h : PLe F F') {d : List V} {v : List Value} (x : Vals P F d v) : Vals P F' d v :=
  Vals.rec (motive_1 := fun d v _ => Val P F' d v) (motive_2 := fun d v _ => Vals P F' d v) (motive_3 := fun d v _ => Ents P F' d v) (motive_4 := fun es d _ => Flds P F' es d)
    .none .bool .int .str .glob (fun h1 _ q => .tup (h _ _ h1) q) (fun h1 _ q => .list (h _ _ h1) q) (fun h0 h1 h2 h3 _ h5 q => .dict h0 (h _ _ h1) h2 h3 q h5)
    (fun h1 h2 h3 h4 h5 h6 => .set (h _ _ h1) h2 h3 h4 (fun i k e => el12 (h5 i k e) fun v a b => ⟨v, a, b.mono h⟩) h6) (fun h1 h2 h4 h5 _ q => .inst (h _ _ h1) (h _ _ h2) h4 h5 q) (fun h1 => .rng (h _ _ h1))
    .nil (fun _ _ a b => .cons a b) .nil (fun a b _ _ c d => .cons (a.mono h) b c d) .nil (fun a _ _ b c => .cons a b c) x
end
noncomputable def WAt (P : Params) (F : PMap) : W → Value → Prop
  | .v d, v => Val P F d v
  | .l a, v => v = .ref a
theorem WAt.mono {P : Params} {F F' : PMap} (h : PLe F F') : ∀ {x : W} {v : Value}, WAt P F x v → WAt P F' x v
  | .v _, _, y => Val.mono h y
  | .l _, _, y => y
inductive WsAt (P : Params) (F : PMap) : List W → List Value → Prop
  | nil : WsAt P F [] []
  | cons {x : W} {v : Value} {xs : List W} {vs : List Value} : WAt P F x v → WsAt P F xs vs → WsAt P F (x :: xs) (v :: vs)
theorem WsAt.mono {P : Params} {F F' : PMap} (h : PLe F F') {xs : List W} {vs : List Value} (x : WsAt P F xs vs) : WsAt P F' xs vs := by
  induction x with
  | nil => exact .nil
  | cons a _ ih => exact .cons (a.mono h) ih
theorem Val.handed {P : Params} {F : PMap} {d : V} {v : Value} (h : Val P F d v) : PySem.W.handedIn v = true :=
  Val.casesOn (motive_1 := fun _ v _ => PySem.W.handedIn v = true) h rfl (fun _ => rfl) (fun _ _ => rfl) (fun _ _ => rfl) (fun _ h => h) (fun _ _ => rfl) (fun _ _ => rfl) (fun _ _ _ _ _ _ => rfl) (fun _ _ _ _ _ _ => rfl) (fun _ _ _ _ _ => rfl) (fun _ => rfl)
theorem WAt.handed {P : Params} {F : PMap} : ∀ {x : W} {v : Value}, WAt P F x v → PySem.W.handedIn v = true
  | .v _, _, h => Val.handed h
  | .l _, _, h => by cases h; rfl
inductive O where
  | list (ws : List W)
  | dict (kvs : List (Key × W))
  | set (ks : List Key)
  | inst (c : Addr) (d : Addr)
  | ns (fs : List (Str × W))
  /-- the table of the codes made under a code -/
  | tab
inductive EntsW (P : Params) (F : PMap) : List (Key × W) → List DictEntry → Prop
  | nil : EntsW P F [] []
  | cons {k : Key} {v : W} {e : DictEntry} {kvs : List (Key × W)} {es : List DictEntry} : KeyAt F k e.key → e.hash = k.hash P → WAt P F v e.val → EntsW P F kvs es → EntsW P F ((k, v) :: kvs) (e :: es)
theorem EntsW.mono {P : Params} {F F' : PMap} (h : PLe F F') {xs : List (Key × W)} {vs : List DictEntry} (x : EntsW P F xs vs) : EntsW P F' xs vs := by
  induction x with
  | nil => exact .nil
  | cons a b c _ ih => exact .cons (a.mono h) b (c.mono h) ih
noncomputable def OAt (P : Params) (F : PMap) : O → Obj → Prop
  | .list xs, o => ∃ ws n, o = { cls := .type "list", data := .seq ws n } ∧ WsAt P F xs ws.toList
  | .dict kvs, o => o.ExactDict ∧ (∃ es n, o.data = .dict es n ∧ EntsW P F kvs es.toList) ∧ (kvs.map (·.1)).Nodup
  | .set ks, o => o.ExactSet ∧ ∃ es n t, o.data = .set es n t ∧ es.toList.length = ks.length ∧ (∀ (i : Nat) (k : Key), ks[i]? = some k → ∃ v, es.toList[i]? = some (k.hash P, v) ∧ KeyAt F k v) ∧ SetOk P ks t
  | .inst c d, o => o = { cls := .ref c, dict := some d, data := .plain }
  | .ns fs, o => ∃ es n, o.data = .dict es n ∧ FKeys es ∧ es.size ≤ fs.length ∧ ∀ x w, fs.lookup x = some w → ∃ v, nsFind es x = some v ∧ WAt P F w v
  | .tab, o => ∃ ps : Array Value, o = { cls := .none, data := .fields ps } ∧ TriplesOk ps.toList
theorem OAt.mono {P : Params} {F F' : PMap} (h : PLe F F') {x : O} {o : Obj} (q : OAt P F x o) : OAt P F' x o := by
  cases x with
  | list _ => exact el22 q fun ws n b c => ⟨ws, n, b, c.mono h⟩
  | dict _ => exact ⟨q.1, el22 q.2.1 fun es n b c => ⟨es, n, b, c.mono h⟩, q.2.2⟩
  | set _ => exact ⟨q.1, el34 q.2 fun es n t b c d e => ⟨es, n, t, b, c, fun i k z => el12 (d i k z) fun v x y => ⟨v, x, y.mono h⟩, e⟩⟩
  | inst _ _ => exact q
  | tab => exact q
  | ns _ => exact el24 q fun es n b c z d => ⟨es, n, b, c, z, fun x w q => el12 (d x w q) fun v y z => ⟨v, y, z.mono h⟩⟩
noncomputable def VInv (P : Params) (F : PMap) : V → Value → Prop
  | .none, v => v = .none
  | .bool b, v => v = .bool b
  | .int i, v => ∃ t, v = .int i t
  | .str x, v => ∃ t, v = .str x t
  | .glob u, v => v = u ∧ PySem.W.handedIn u = true
  | .tup vs, v => ∃ a ws n, F a = some { cls := .type "tuple", data := .seq ws n } ∧ Vals P F vs ws.toList ∧ v = .ref a
  | .list vs, v => ∃ a ws n, F a = some { cls := .type "list", data := .seq ws n } ∧ Vals P F vs ws.toList ∧ v = .ref a
  | .dict kvs, v => ∃ a o es n, (a == sysModules) = false ∧ F a = some o ∧ o.ExactDict ∧ o.data = .dict es n ∧ Ents P F kvs es.toList ∧ (kvs.map (·.1)).Nodup ∧ v = .ref a
  | .set ks, v => ∃ (a : Addr) (o : Obj) (es : Array (Int × Value)) (n : Nat) (t : SetTable), F a = some o ∧ o.ExactSet ∧ o.data = .set es n t ∧ es.toList.length = ks.length ∧
      (∀ (i : Nat) (k : Key), ks[i]? = some k → ∃ v, es.toList[i]? = some (k.hash P, v) ∧ KeyAt F k v) ∧ SetOk P ks t ∧ v = .ref a
  | .inst c fs, v => ∃ a d o es n, F a = some { cls := .ref c, dict := some d, data := .plain } ∧ F d = some o ∧ o.data = .dict es n ∧ FKeys es ∧ Flds P F es fs ∧ v = .ref a
  | .rng a b, v => ∃ r t u x, F r = some { cls := .type "range", data := .fields #[.int a t, .int b u, .int 1 x] } ∧ v = .ref r
theorem Val.inv {P : Params} {F : PMap} {d : V} {v : Value} (h : Val P F d v) : VInv P F d v :=
  Val.casesOn (motive_1 := fun d v _ => VInv P F d v) h rfl (fun _ => rfl) (fun _ t => ⟨t, rfl⟩) (fun _ t => ⟨t, rfl⟩) (fun _ h => ⟨rfl, h⟩) (fun h1 h2 => ⟨_, _, _, h1, h2, rfl⟩) (fun h1 h2 => ⟨_, _, _, h1, h2, rfl⟩)
    (fun h1 h2 h3 h4 h5 h6 => ⟨_, _, _, _, h1, h2, h3, h4, h5, h6, rfl⟩) (fun h1 h2 h3 h4 h5 h6 => ⟨_, _, _, _, _, h1, h2, h3, h4, h5, h6, rfl⟩) (fun h1 h2 h3 h4 h5 => ⟨_, _, _, _, _, h1, h2, h3, h4, h5, rfl⟩) (fun h1 => ⟨_, _, _, _, h1, rfl⟩)
section
variable {P : Params} {F : PMap} {v : Value} {Q : Value → Prop}
@[elab_as_elim] theorem Val.i_none (h : Val P F .none v) (q : Q .none) : Q v := (show v = .none from h.inv) ▸ q
@[elab_as_elim] theorem Val.i_bool {b : Bool} (h : Val P F (.bool b) v) (q : Q (.bool b)) : Q v := (show v = .bool b from h.inv) ▸ q
@[elab_as_elim] theorem Val.i_int {i : Int} (h : Val P F (.int i) v) (q : ∀ t, Q (.int i t)) : Q v := (show ∃ t, v = _ from h.inv).elim fun t e => e ▸ q t
@[elab_as_elim] theorem Val.i_str {x : Str} (h : Val P F (.str x) v) (q : ∀ t, Q (.str x t)) : Q v := (show ∃ t, v = _ from h.inv).elim fun t e => e ▸ q t
@[elab_as_elim] theorem Val.i_tup {vs : List V} (h : Val P F (.tup vs) v) (q : ∀ (a : Addr) (ws : Array Value) (n : Nat), F a = some { cls := .type "tuple", data := .seq ws n } → Vals P F vs ws.toList → Q (.ref a)) : Q v :=
  el33 h.inv fun a ws n h1 h2 e => e ▸ q a ws n h1 h2
@[elab_as_elim] theorem Val.i_list {vs : List V} (h : Val P F (.list vs) v) (q : ∀ (a : Addr) (ws : Array Value) (n : Nat), F a = some { cls := .type "list", data := .seq ws n } → Vals P F vs ws.toList → Q (.ref a)) : Q v :=
  el33 h.inv fun a ws n h1 h2 e => e ▸ q a ws n h1 h2
@[elab_as_elim] theorem Val.i_dict {kvs : List (Key × V)} (h : Val P F (.dict kvs) v) (q : ∀ (a : Addr) (o : Obj) (es : Array DictEntry) (n : Nat), (a == sysModules) = false → F a = some o → o.ExactDict → o.data = .dict es n → Ents P F kvs es.toList → (kvs.map (·.1)).Nodup → Q (.ref a)) : Q v :=
  h.inv.elim fun a h => el36 h fun o es n h1 h2 h3 h4 h5 hh => e2 hh fun h6 e => e ▸ q a o es n h1 h2 h3 h4 h5 h6
@[elab_as_elim] theorem Val.i_set {ks : List Key} (h : Val P F (.set ks) v) (q : ∀ (a : Addr) (o : Obj) (es : Array (Int × Value)) (n : Nat) (t : SetTable), F a = some o → o.ExactSet → o.data = .set es n t → es.toList.length = ks.length →
    (∀ (i : Nat) (k : Key), ks[i]? = some k → ∃ v, es.toList[i]? = some (k.hash P, v) ∧ KeyAt F k v) → SetOk P ks t → Q (.ref a)) : Q v :=
  el57 h.inv fun a o es n t h1 h2 h3 h4 h5 h6 e => e ▸ q a o es n t h1 h2 h3 h4 h5 h6
@[elab_as_elim] theorem Val.i_inst {c : Addr} {fs : List (Str × V)} (h : Val P F (.inst c fs) v) (q : ∀ (a d : Addr) (o : Obj) (es : Array DictEntry) (n : Nat), F a = some { cls := .ref c, dict := some d, data := .plain } → F d = some o → o.data = .dict es n → FKeys es → Flds P F es fs → Q (.ref a)) : Q v :=
  h.inv.elim fun a h => h.elim fun d h => el36 h fun o es n h1 h2 h3 h4 h5 e => e ▸ q a d o es n h1 h2 h3 h4 h5
@[elab_as_elim] theorem Val.i_rng {a b : Int} (h : Val P F (.rng a b) v) (q : ∀ (r : Addr) (t u x : Tok), F r = some { cls := .type "range", data := .fields #[.int a t, .int b u, .int 1 x] } → Q (.ref r)) : Q v :=
  h.inv.elim fun r h => el32 h fun t u x h1 (e : v = .ref r) => e ▸ q r t u x h1
@[elab_as_elim] theorem WAt.i_l {a : Addr} (h : WAt P F (.l a) v) (q : Q (.ref a)) : Q v := by cases h; exact q
end
section
variable {P : Params} {F : PMap} {us : List Value} {Q : List Value → Prop}
@[elab_as_elim] theorem Vals.i_nil (h : Vals P F [] us) (q : Q []) : Q us := by cases h; exact q
@[elab_as_elim] theorem Vals.i_cons {v : V} {vs : List V} (h : Vals P F (v :: vs) us) (q : ∀ w ws, Val P F v w → Vals P F vs ws → Q (w :: ws)) : Q us := by cases h; exact q _ _ ‹_› ‹_›
@[elab_as_elim] theorem WsAt.i_nil (h : WsAt P F [] us) (q : Q []) : Q us := by cases h; exact q
@[elab_as_elim] theorem WsAt.i_cons {v : W} {vs : List W} (h : WsAt P F (v :: vs) us) (q : ∀ w ws, WAt P F v w → WsAt P F vs ws → Q (w :: ws)) : Q us := by cases h; exact q _ _ ‹_› ‹_›
@[elab_as_elim] theorem WsAt.i1 {x : W} (h : WsAt P F [x] us) (q : ∀ u, WAt P F x u → Q [u]) : Q us := h.i_cons fun w ws h1 h2 => h2.i_nil (Q := fun l => Q (w :: l)) (q w h1)
@[elab_as_elim] theorem WsAt.i2 {x y : W} (h : WsAt P F [x, y] us) (q : ∀ u v, WAt P F x u → WAt P F y v → Q [u, v]) : Q us := h.i_cons fun w ws h1 h2 => h2.i1 (Q := fun l => Q (w :: l)) fun w' h3 => q w w' h1 h3
@[elab_as_elim] theorem WsAt.i3 {x y z : W} (h : WsAt P F [x, y, z] us) (q : ∀ u v w, WAt P F x u → WAt P F y v → WAt P F z w → Q [u, v, w]) : Q us := h.i_cons fun w ws h1 h2 => h2.i2 (Q := fun l => Q (w :: l)) fun w' w'' h3 h4 => q w w' w'' h1 h3 h4
end
section
variable {P : Params} {F : PMap} {us : List DictEntry} {Q : List DictEntry → Prop}
@[elab_as_elim] theorem Ents.i_nil (h : Ents P F [] us) (q : Q []) : Q us := by cases h; exact q
@[elab_as_elim] theorem Ents.i_cons {k : Key} {v : V} {vs : List (Key × V)} (h : Ents P F ((k, v) :: vs) us) (q : ∀ e es, KeyAt F k e.key → e.hash = k.hash P → Val P F v e.val → Ents P F vs es → Q (e :: es)) : Q us := by cases h; exact q _ _ ‹_› ‹_› ‹_› ‹_›
end
theorem less {p : Nat → Prop} (h : ∀ m, (∀ n, n < m → p n) → p m) : ∀ m, p m := fun m => Nat.strongRecOn m h
abbrev Mem := List (Addr × O)
structure Cont (p : Prop) where
  G : Prop
  k : p → G
theorem hide {p : Prop} (h : ∀ c : Cont p, c.G) : p := h ⟨p, id⟩
theorem kpost {α : Type} {M : Model} {A : Around} {t : Sem α} {Q : α → Shared → Prop} {E : Value → Shared → Prop} {s : Shared} (h : ∀ K : α → Shared → Prop, (∀ a s', Q a s' → K a s') → wpAny M A t K E s) : wpAny M A t Q E s := h Q fun _ _ q => q
end
section
open PySem PySem.Calls PyProof.Rows
noncomputable def codePo : Option Obj → Option Addr
  | some ⟨.type "code", _, .fields vs, _⟩ => (match (vs[11]? : Option Value) with
    | some (.ref P) => some P
    | _ => none)
  | _ => none
noncomputable def codeP (K : PySem.W.Frag) : Value → Option Addr
  | .ref c => codePo (K.lookup c)
  | _ => none
noncomputable def CodeAt (h : Heap) (c P : Addr) : Prop := ∀ (h' : Heap) (ps : Array Value), (∀ b o, h.get? b = some o → h'.get? b = some o) → h'.get? P = some { cls := .none, data := .fields ps } → TriplesOk ps.toList → h'.IsCode c P ps ∧ h'.TableAt c P ps
noncomputable def codeT (K : PySem.W.Frag) (cd : Value) (q : Str) : Bool := PySem.W.codeIn K cd q && (codeP K cd).isSome
structure Cx where
  prog : Program
  w : World
  B : Heap
  os : OsState
  K : PySem.W.Frag
  kin : K.In B
  lim : B.NoLimit
  mg : Str → Option Value
  mb : Str → Option Value
  gg : B.Ns mainGlobals mg
  gb : B.Ns builtinsNs mb
  bb : ∀ x : Str, x ≠ "__name__" → mb x = bootBuiltins x
  bmod : ∃ bm ob, BMod B mainGlobals mg bm ob
  /-- the tables of the codes -/
  tabs : List Addr
  code : ∀ c P, codeP K (.ref c) = some P → CodeAt B c P ∧ P ∈ tabs
  /-- in a generator's own frame -/
  gen : Bool
  /-- the generators of others -/
  gs : List (Nat × GenState)
noncomputable abbrev Cx.P (C : Cx) : Params := C.w.params
noncomputable abbrev Cx.M (C : Cx) : Model := model C.prog C.w
structure Rm (A : Around) (d : Nat) : Prop where
  hd : A.handled = none
  dp : A.depth + 2 * d + 2 < 700
  un : A.units + 16 * d + 16 < cLine
theorem Rm.mono {A : Around} {d d' : Nat} (h : Rm A d) (le : d' ≤ d) : Rm A d' := ⟨h.hd, by have := h.dp; lia, by have := h.un; lia⟩
theorem Rm.lim {A : Around} {d : Nat} (h : Rm A d) : A.depth < recursionLimit := by have := h.dp; show A.depth < 1000; lia
theorem Rm.cl {A : Around} {d : Nat} (h : Rm A d) : A.units < cLine := by have := h.un; lia
noncomputable def NamesOk (l : List Addr) : Prop := l.Nodup ∧ ∀ a ∈ l, mainGlobals < a
theorem NamesOk.sublist {l l' : List Addr} (h : NamesOk l) (s : l'.Sublist l) : NamesOk l' := ⟨h.1.sublist s, fun a ha => h.2 a (s.subset ha)⟩
structure Sim (C : Cx) (F Z : PMap) (μ : Mem) (s : Shared) : Prop where
  base : ∀ a o, C.B.get? a = some o → F a = some o
  fz : PIn F s.heap
  zz : PIn Z s.heap
  dis : PDis F Z
  own : ∀ a o, (a, o) ∈ μ → F a = none ∧ Z a = none ∧ ∃ ob, s.heap.get? a = some ob ∧ OAt C.P F o ob
  nod : NamesOk (μ.map (·.1))
  os : s.os = C.os
  gens : PyProof.Rows.AllBare s.gens ∧ ∀ p ∈ C.gs, s.gens[p.1]? = some p.2
abbrev Env1 := List (Str × W)
noncomputable def CodeOk (C : Cx) (env : Env) : Prop := C.gen = false → (∃ q, C.B.CodeRec env.code q) ∧ ∃ c P, env.code = .ref c ∧ CodeAt C.B c P ∧ P ∈ C.tabs
theorem CodeOk.of {C : Cx} {env : Env} {q : Str} (h : codeT C.K env.code q = true) : CodeOk C env := fun _ => by
  unfold codeT at h
  obtain ⟨h1, h2⟩ := Bool.and_eq_true_iff.mp h
  refine ⟨⟨q, PySem.W.codeRec_of C.kin h1⟩, ?_⟩
  obtain ⟨P, h3⟩ := Option.isSome_iff_exists.mp h2
  cases e : env.code with
  | ref c => rw [e] at h3; exact ⟨c, P, rfl, C.code c P h3⟩
  | _ => rw [e] at h3; cases h3
theorem codeT_in {K : PySem.W.Frag} {v : Value} {q : Str} (h : codeT K v q = true) : PySem.W.codeIn K v q = true := (Bool.and_eq_true_iff.mp h).1
structure EnvRel (C : Cx) (F Z : PMap) (env : Env) (ε : Env1) : Prop where
  kind : env.scope.kind = .function
  glob : env.globals = mainGlobals
  blt : env.builtins = builtinsNs ∧ CodeOk C env
  ns : ∃ (o : Obj) (es : Array DictEntry) (n : Nat), Z env.locals = some o ∧ o.data = .dict es n ∧ StrKeys es ∧
    ∀ x w, ε.lookup x = some w → env.kindOf x = some .local → ∃ v, nsFind es x = some v ∧ WAt C.P F w v
  cell : ∀ x, env.kindOf x = some .cell ∨ env.kindOf x = some .free → ∃ (c : Addr) (o : Obj) (u : Option Value), env.cells.lookup x = some c ∧ Z c = some o ∧ o.data = .cell u ∧
    ∀ w, ε.lookup x = some w → ∃ v, u = some v ∧ WAt C.P F w v
theorem EnvRel.mono {C : Cx} {F F' Z : PMap} {env : Env} {ε : Env1} (h : PLe F F') (R : EnvRel C F Z env ε) : EnvRel C F' Z env ε where
  kind := R.kind
  glob := R.glob
  blt := R.blt
  ns := let ⟨o, es, n, a, b, c, d⟩ := R.ns; ⟨o, es, n, a, b, c, fun x w e k => let ⟨v, p, q⟩ := d x w e k; ⟨v, p, q.mono h⟩⟩
  cell := fun x k => let ⟨c, o, u, a, b, d, e⟩ := R.cell x k; ⟨c, o, u, a, b, d, fun w q => let ⟨v, p, r⟩ := e w q; ⟨v, p, r.mono h⟩⟩
abbrev PostW := W → Mem → Prop
inductive Post (C : Cx) (Z : PMap) (k : PostW) (F : PMap) (v : Value) (s' : Shared) : Prop
  | mk (x : W) (F' : PMap) (μ' : Mem) (hk : k x μ') (le : PLe F F') (S : Sim C F' Z μ' s') (hv : WAt C.P F' x v) : Post C Z k F v s'
inductive PostB (C : Cx) (Z : PMap) (k : Bool → Mem → Prop) (F : PMap) (b : Bool) (s' : Shared) : Prop
  | mk (F' : PMap) (μ' : Mem) (hk : k b μ') (le : PLe F F') (S : Sim C F' Z μ' s') : PostB C Z k F b s'
inductive PostL (C : Cx) (Z : PMap) (k : List W → Mem → Prop) (F : PMap) (vs : List Value) (s' : Shared) : Prop
  | mk (xs : List W) (F' : PMap) (μ' : Mem) (hk : k xs μ') (le : PLe F F') (S : Sim C F' Z μ' s') (hv : WsAt C.P F' xs vs) : PostL C Z k F vs s'
inductive PostU (C : Cx) (Z : PMap) (k : Mem → Prop) (F : PMap) (s' : Shared) : Prop
  | mk (F' : PMap) (μ' : Mem) (hk : k μ') (le : PLe F F') (S : Sim C F' Z μ' s') : PostU C Z k F s'
inductive PostM (C : Cx) (Z : PMap) (k : Value → List W → Mem → Prop) (F : PMap) (p : Value × List Value) (s' : Shared) : Prop
  | mk (ws : List W) (F' : PMap) (μ' : Mem) (hk : k p.1 ws μ') (le : PLe F F') (S : Sim C F' Z μ' s') (hv : WsAt C.P F' ws p.2) : PostM C Z k F p s'
theorem Post.trans {C : Cx} {Z F F' : PMap} {k : PostW} {v : Value} {s : Shared} (h : PLe F F') : Post C Z k F' v s → Post C Z k F v s
  | ⟨x, G, μ, a, b, c, d⟩ => ⟨x, G, μ, a, h.trans b, c, d⟩
theorem PostB.trans {C : Cx} {Z F F' : PMap} {k : Bool → Mem → Prop} {v : Bool} {s : Shared} (h : PLe F F') : PostB C Z k F' v s → PostB C Z k F v s
  | ⟨G, μ, a, b, c⟩ => ⟨G, μ, a, h.trans b, c⟩
noncomputable def cE (C : Cx) (d : Nat) (sc : Scope) (ε : Env1) (μ : Mem) (e : Expr) (k : PostW) : Prop :=
  ∀ (A : Around) (env : Env) (F Z : PMap) (s : Shared), Rm A d → env.scope = sc → EnvRel C F Z env ε → Sim C F Z μ s → wpAny C.M A (eval e env) (Post C Z k F) (fun _ _ => False) s
noncomputable def cT (C : Cx) (d : Nat) (sc : Scope) (ε : Env1) (μ : Mem) (e : Expr) (k : Bool → Mem → Prop) : Prop :=
  ∀ (A : Around) (env : Env) (F Z : PMap) (s : Shared), Rm A d → env.scope = sc → EnvRel C F Z env ε → Sim C F Z μ s → wpAny C.M A (isTrue e env (eval e env)) (PostB C Z k F) (fun _ _ => False) s
noncomputable def cEs (C : Cx) (d : Nat) (sc : Scope) (ε : Env1) (μ : Mem) (es : List Expr) (k : List W → Mem → Prop) : Prop :=
  ∀ (A : Around) (env : Env) (F Z : PMap) (s : Shared) (pos : Pos), Rm A d → env.scope = sc → EnvRel C F Z env ε → Sim C F Z μ s → wpAny C.M A (spliced (backTo pos (starEach es env))) (PostL C Z k F) (fun _ _ => False) s
noncomputable def cV2 (C : Cx) (d : Nat) (μ : Mem) (x y : W) (f : Value → Value → Sem Value) (k : PostW) : Prop :=
  ∀ (A : Around) (F Z : PMap) (s : Shared) (a b : Value), Rm A d → Sim C F Z μ s → WAt C.P F x a → WAt C.P F y b → wpAny C.M A (f a b) (Post C Z k F) (fun _ _ => False) s
noncomputable def cB1 (C : Cx) (d : Nat) (μ : Mem) (x : W) (f : Value → Sem Bool) (k : Bool → Mem → Prop) : Prop :=
  ∀ (A : Around) (F Z : PMap) (s : Shared) (a : Value), Rm A d → Sim C F Z μ s → WAt C.P F x a → wpAny C.M A (f a) (PostB C Z k F) (fun _ _ => False) s
section
variable {C : Cx} {d : Nat} {sc : Scope} {ε : Env1} {μ : Mem} {k k' : PostW}
theorem wpBot {α : Type} {M : Model} {A : Around} {t : Sem α} {Q Q' : α → Shared → Prop} {E : Value → Shared → Prop} {s : Shared} (h : wpAny M A t Q (fun _ _ => False) s) (hQ : ∀ a s', Q a s' → Q' a s') : wpAny M A t Q' E s :=
  wpAny_mono h hQ fun _ _ f => f.elim
theorem cE.mono {e : Expr} (h : cE C d sc ε μ e k) (hk : ∀ x μ', k x μ' → k' x μ') : cE C d sc ε μ e k' := fun A env F Z s a b c dd =>
  wpBot (h A env F Z s a b c dd) fun _ _ ⟨x, F', μ', q, r1, r2, r3⟩ => ⟨x, F', μ', hk _ _ q, r1, r2, r3⟩
theorem Sim.tok {F Z : PMap} {s : Shared} (S : Sim C F Z μ s) (t : Nat) : Sim C F Z μ { s with toks := t } := ⟨S.base, S.fz, S.zz, S.dis, S.own, S.nod, S.os, S.gens⟩
theorem cE_int {i : Int} {kd : Nat} {pos : Pos} (h : k (.v (.int i)) μ) : cE C d sc ε μ (.Constant (.int i) kd pos) k := fun _ _ F _ s _ _ _ S =>
  wpAny_Constant_int ⟨.v (.int i), F, μ, h, .refl _, S.tok _, .int _ _⟩
theorem cE_str {x : Str} {kd : Nat} {pos : Pos} (h : k (.v (.str x)) μ) : cE C d sc ε μ (.Constant (.str x) kd pos) k := fun _ _ F _ s _ _ _ S =>
  wpAny_Constant_str ⟨.v (.str x), F, μ, h, .refl _, S.tok _, .str _ _⟩
theorem cE_bool {b : Bool} {kd : Nat} {pos : Pos} (h : k (.v (.bool b)) μ) : cE C d sc ε μ (.Constant (.bool b) kd pos) k := fun _ _ F _ s _ _ _ S =>
  wpAny_Constant_bool ⟨.v (.bool b), F, μ, h, .refl _, S, .bool _⟩
theorem cE_none {kd : Nat} {pos : Pos} (h : k (.v .none) μ) : cE C d sc ε μ (.Constant .none kd pos) k := fun _ _ F _ s _ _ _ S =>
  wpAny_Constant_none ⟨.v .none, F, μ, h, .refl _, S, .none⟩
theorem Sim.nsZ {F Z : PMap} {s : Shared} (S : Sim C F Z μ s) {a : Addr} {o : Obj} {es : Array DictEntry} {n : Nat} (hz : Z a = some o) (hd : o.data = .dict es n) (hk : StrKeys es) : s.heap.Ns a (nsFind es) :=
  ⟨o, es, n, S.zz _ _ hz, hd, hk, fun _ => rfl⟩
theorem cE_name {x : Str} {w : W} {pos : Pos} (hx : ε.lookup x = some w) (h : k w μ)
    (hk : sc.names.lookup x = some .local ∨ sc.names.lookup x = some .cell ∨ sc.names.lookup x = some .free) (hd : (x == ("__debug__" : Str)) = false) (hn : (x == ("__classdict__" : Str)) = false) :
    cE C d sc ε μ (.Name x pos) k := fun A env F Z s _ hs R S => by
  subst hs
  refine wpAny_Name ?_ hd
  rcases hk with hk | hk | hk
  · refine el34 (R.ns) fun o es n hz hdt hsk hl => ?_
    refine el12 (hl x w hx hk) fun v e hw => ?_
    exact wpAny_loadName_local R.kind hk (S.nsZ hz hdt hsk) e ⟨w, F, μ, h, .refl _, S, hw⟩
  · refine el34 (R.cell x (.inl hk)) fun c o u hc hz hdt hl => ?_
    (refine el12 (hl w hx) fun v qq1 hw => ?_; subst qq1)
    exact wpAny_loadName_cell R.kind hk hc ⟨o, S.zz _ _ hz, hdt⟩ ⟨w, F, μ, h, .refl _, S, hw⟩
  · refine el34 (R.cell x (.inr hk)) fun c o u hc hz hdt hl => ?_
    (refine el12 (hl w hx) fun v qq1 hw => ?_; subst qq1)
    exact wpAny_loadName_free R.kind hk hc ⟨o, S.zz _ _ hz, hdt⟩ ⟨w, F, μ, h, .refl _, S, hw⟩ hn
structure Glob (C : Cx) (x : Str) (v : Value) : Prop where
  at' : ∃ mg mb : Str → Option Value, C.B.Ns mainGlobals mg ∧ C.B.Ns builtinsNs mb ∧ (mg x = some v ∨ (mg x = none ∧ mb x = some v))
theorem Glob.ofK {C : Cx} {x : Str} {v : Value} (e : PySem.W.nsIn C.K mainGlobals x = some (some v)) : Glob C x v := ⟨C.mg, C.mb, C.gg, C.gb, .inl (PySem.W.mg_of C.kin C.gg e)⟩
theorem Glob.blt {C : Cx} {x : Str} {v : Value} (e : PySem.W.nsIn C.K mainGlobals x = some none) (hv : bootBuiltins x = some v) (hn : x ≠ "__name__") : Glob C x v :=
  ⟨C.mg, C.mb, C.gg, C.gb, .inr ⟨PySem.W.mg_none_of C.kin C.gg e, (C.bb x hn).trans hv⟩⟩
theorem Sim.keep {F Z : PMap} {s : Shared} (S : Sim C F Z μ s) : ∀ b o, C.B.get? b = some o → s.heap.get? b = some o := fun b o e => S.fz b o (S.base b o e)
theorem cE_glob {x : Str} {v : Value} {pos : Pos} (g : Glob C x v) (hv : PySem.W.handedIn v = true) (h : k (.v (.glob v)) μ) (hk : sc.names.lookup x = some .globalImplicit) (hd : (x == ("__debug__" : Str)) = false) :
    cE C d sc ε μ (.Name x pos) k := fun A env F Z s _ hs R S => by
  subst hs
  refine el23 (g.at') fun mg mb h1 h2 h3 => ?_
  refine Name_function_global R.kind hk ?_ hd
  have post : Post C Z k F v s := ⟨.v (.glob v), F, μ, h, .refl _, S, .glob _ hv⟩
  rcases h3 with h3 | ⟨h3, h4⟩
  · exact loadGlobal_global (env := env) (by rw [R.glob]; exact h1.keeps S.keep) h3 post
  · exact loadGlobal_builtin (env := env) (by rw [R.glob]; exact h1.keeps S.keep) h3 (by rw [R.blt.1]; exact h2.keeps S.keep) h4 post
theorem Sim.kin {F Z : PMap} {s : Shared} (S : Sim C F Z μ s) : C.K.In s.heap := C.kin.keeps S.keep
theorem Sim.lim {F Z : PMap} {s : Shared} (S : Sim C F Z μ s) : s.heap.NoLimit := C.lim.keeps S.keep
end
end
section
open PySem PySem.Calls
section
variable {C : Cx} {d : Nat} {sc : Scope} {ε : Env1} {μ : Mem} {k k' : PostW} {kb : Bool → Mem → Prop} {kl : List W → Mem → Prop}
theorem cE_binop {l r : Expr} {op : Operator} {pos : Pos}
    (h : cE C d sc ε μ l fun x μ₁ => cE C d sc ε μ₁ r fun y μ₂ => cV2 C d μ₂ x y (binaryOp op) k) :
    cE C d sc ε μ (.BinOp l op r pos) k := fun A env F Z s hA hs R S =>
  wpAny_BinOp (wpBot (h A env F Z s hA hs R S) fun a s₁ ⟨x, F₁, μ₁, h₁, le₁, S₁, hx⟩ =>
    wpBot (h₁ A env F₁ Z s₁ hA hs (R.mono le₁) S₁) fun b s₂ ⟨y, F₂, μ₂, h₂, le₂, S₂, hy⟩ =>
      wpBot (h₂ A F₂ Z s₂ a b hA S₂ (hx.mono le₂) hy) fun v s₃ p => p.trans (le₁.trans le₂))
theorem cE_cmp {l r : Expr} {op : CmpOp} {pos : Pos}
    (h : cE C d sc ε μ l fun x μ₁ => cE C d sc ε μ₁ r fun y μ₂ => cV2 C d μ₂ x y (compareOp op) k)
    (hm : behindInMarks op r = false) :
    cE C d sc ε μ (.Compare l [op] [r] pos) k := fun A env F Z s hA hs R S =>
  wpAny_Compare1 (wpBot (h A env F Z s hA hs R S) fun a s₁ ⟨x, F₁, μ₁, h₁, le₁, S₁, hx⟩ =>
    wpBot (h₁ A env F₁ Z s₁ hA hs (R.mono le₁) S₁) fun b s₂ ⟨y, F₂, μ₂, h₂, le₂, S₂, hy⟩ =>
      wpBot (h₂ A F₂ Z s₂ a b hA S₂ (hx.mono le₂) hy) fun v s₃ p => p.trans (le₁.trans le₂)) hm
theorem cT_cmp {l r : Expr} {op : CmpOp} {pos : Pos}
    (h : cE C d sc ε μ l fun x μ₁ => cE C d sc ε μ₁ r fun y μ₂ => cV2 C d μ₂ x y (compareOp op) fun z μ₃ => ∃ b, z = .v (.bool b) ∧ kb b μ₃)
    (hm : behindInMarks op r = false) :
    cT C d sc ε μ (.Compare l [op] [r] pos) kb := fun A env F Z s hA hs R S =>
  wpAny_isTrue_Compare1 (wpBot (h A env F Z s hA hs R S) fun a s₁ ⟨x, F₁, μ₁, h₁, le₁, S₁, hx⟩ =>
    wpBot (h₁ A env F₁ Z s₁ hA hs (R.mono le₁) S₁) fun b s₂ ⟨y, F₂, μ₂, h₂, le₂, S₂, hy⟩ =>
      wpBot (h₂ A F₂ Z s₂ a b hA S₂ (hx.mono le₂) hy) fun v s₃ ⟨z, F₃, μ₃, ⟨b, hz, hb⟩, le₃, S₃, hv⟩ => by
        subst hz
        refine Val.i_bool hv ?_
        exact wpAny_truthy_bool ⟨F₃, μ₃, hb, (le₁.trans le₂).trans le₃, S₃⟩) hm
theorem cT_not {x : Expr} {pos : Pos} (h : cT C d sc ε μ x fun b => kb (!b)) : cT C d sc ε μ (.UnaryOp .Not x pos) kb := fun A env F Z s hA hs R S =>
  wpAny_isTrue_Not (wpBot (h A env F Z s hA hs R S) fun _ _ ⟨a, b, c, d, e⟩ => ⟨a, b, c, d, e⟩)
theorem cE_not {x : Expr} {pos : Pos} (h : cE C d sc ε μ x fun y μ₁ => cB1 C d μ₁ y truthy fun b μ₂ => k (.v (.bool (!b))) μ₂) :
    cE C d sc ε μ (.UnaryOp .Not x pos) k := fun A env F Z s hA hs R S =>
  wpAny_UnaryOp (wpBot (h A env F Z s hA hs R S) fun a s₁ ⟨y, F₁, μ₁, h₁, le₁, S₁, hy⟩ =>
    not_value (wpBot (h₁ A F₁ Z s₁ a hA S₁ hy) fun b s₂ ⟨F₂, μ₂, h₂, le₂, S₂⟩ => ⟨.v (.bool (!b)), F₂, μ₂, h₂, le₁.trans le₂, S₂, .bool _⟩))
noncomputable def cAll (C : Cx) (d : Nat) (sc : Scope) (ε : Env1) (μ : Mem) (op : BoolOp) (es : List Expr) (kb : Bool → Mem → Prop) : Prop :=
  ∀ (A : Around) (env : Env) (F Z : PMap) (s : Shared), Rm A d → env.scope = sc → EnvRel C F Z env ε → Sim C F Z μ s → wpAny C.M A (allTrue op es env) (PostB C Z kb F) (fun _ _ => False) s
theorem cT_boolop {op : BoolOp} {es : List Expr} {pos : Pos} (h : cAll C d sc ε μ op es kb) : cT C d sc ε μ (.BoolOp op es pos) kb := fun A env F Z s hA hs R S =>
  wpAny_isTrue_BoolOp (h A env F Z s hA hs R S)
theorem cAll_and_nil (h : kb true μ) : cAll C d sc ε μ .And [] kb := fun A env F Z s hA hs R S => wpAny_allTrue_And_nil ⟨F, μ, h, .refl _, S⟩
theorem cAll_or_nil (h : kb false μ) : cAll C d sc ε μ .Or [] kb := fun A env F Z s hA hs R S => wpAny_allTrue_Or_nil ⟨F, μ, h, .refl _, S⟩
theorem cAll_and {e : Expr} {es : List Expr} (h : cT C d sc ε μ e fun b μ₁ => (b = true → cAll C d sc ε μ₁ .And es kb) ∧ (b = false → kb false μ₁)) : cAll C d sc ε μ .And (e :: es) kb := fun A env F Z s hA hs R S =>
  wpAny_allTrue_And_cons (wpBot (h A env F Z s hA hs R S) fun b s₁ ⟨F₁, μ₁, h₁, le₁, S₁⟩ => by
    cases b with
    | true => exact wpBot (h₁.1 rfl A env F₁ Z s₁ hA hs (R.mono le₁) S₁) fun _ _ p => p.trans le₁
    | false => exact ⟨F₁, μ₁, h₁.2 rfl, le₁, S₁⟩)
theorem cAll_or {e : Expr} {es : List Expr} (h : cT C d sc ε μ e fun b μ₁ => (b = false → cAll C d sc ε μ₁ .Or es kb) ∧ (b = true → kb true μ₁)) : cAll C d sc ε μ .Or (e :: es) kb := fun A env F Z s hA hs R S =>
  wpAny_allTrue_Or_cons (wpBot (h A env F Z s hA hs R S) fun b s₁ ⟨F₁, μ₁, h₁, le₁, S₁⟩ => by
    cases b with
    | true => exact ⟨F₁, μ₁, h₁.2 rfl, le₁, S₁⟩
    | false => exact wpBot (h₁.1 rfl A env F₁ Z s₁ hA hs (R.mono le₁) S₁) fun _ _ p => p.trans le₁)
theorem cE_and2 {x y : Expr} {pos : Pos} (h : cE C d sc ε μ x fun z μ₁ => ∃ b, z = .v (.bool b) ∧ (b = true → cE C d sc ε μ₁ y k) ∧ (b = false → k (.v (.bool false)) μ₁)) :
    cE C d sc ε μ (.BoolOp .And [x, y] pos) k := fun A env F Z s hA hs R S =>
  wpAny_And2 (wpBot (h A env F Z s hA hs R S) fun v s₁ ⟨z, F₁, μ₁, ⟨b, hz, h1, h2⟩, le₁, S₁, hv⟩ => by
    subst hz
    refine Val.i_bool hv ?_
    refine wpAny_truthy_bool ?_
    cases b with
    | true => exact wpBot (h1 rfl A env F₁ Z s₁ hA hs (R.mono le₁) S₁) fun _ _ p => p.trans le₁
    | false => exact ⟨_, F₁, μ₁, h2 rfl, le₁, S₁, .bool _⟩)
theorem cE_or2 {x y : Expr} {pos : Pos} (h : cE C d sc ε μ x fun z μ₁ => ∃ b, z = .v (.bool b) ∧ (b = false → cE C d sc ε μ₁ y k) ∧ (b = true → k (.v (.bool true)) μ₁)) :
    cE C d sc ε μ (.BoolOp .Or [x, y] pos) k := fun A env F Z s hA hs R S =>
  wpAny_Or2 (wpBot (h A env F Z s hA hs R S) fun v s₁ ⟨z, F₁, μ₁, ⟨b, hz, h1, h2⟩, le₁, S₁, hv⟩ => by
    subst hz
    refine Val.i_bool hv ?_
    refine wpAny_truthy_bool ?_
    cases b with
    | true => exact ⟨_, F₁, μ₁, h2 rfl, le₁, S₁, .bool _⟩
    | false => exact wpBot (h1 rfl A env F₁ Z s₁ hA hs (R.mono le₁) S₁) fun _ _ p => p.trans le₁)
theorem cT_val {e : Expr} (h : cE C d sc ε μ e fun x μ₁ => cB1 C d μ₁ x truthy kb)
    (he : ∀ env whole, isTrue e env whole = (do let v ← whole; standAt e.pos; holding [v] (truthy v))) : cT C d sc ε μ e kb := fun A env F Z s hA hs R S =>
  wpAny_isTrue_value (wpBot (h A env F Z s hA hs R S) fun v s₁ ⟨x, F₁, μ₁, h₁, le₁, S₁, hx⟩ =>
    wpBot (h₁ A F₁ Z s₁ v hA S₁ hx) fun _ _ p => p.trans le₁) (he _ _)
theorem truthy_bool' {b : Bool} (h : kb b μ) : cB1 C d μ (.v (.bool b)) truthy kb := fun A F Z s v hA S hv => by
  refine Val.i_bool hv ?_
  exact wpAny_truthy_bool ⟨F, μ, h, .refl _, S⟩
theorem cEs_nil (h : kl [] μ) : cEs C d sc ε μ [] kl := fun A env F Z s pos hA hs R S => wpAny_items_nil ⟨[], F, μ, h, .refl _, S, .nil⟩
theorem cEs_cons {e : Expr} {es : List Expr} (h : cE C d sc ε μ e fun x μ₁ => cEs C d sc ε μ₁ es fun xs μ₂ => kl (x :: xs) μ₂)
    (he : ∀ env, starEach (e :: es) env = (false, eval e env) :: starEach es env) : cEs C d sc ε μ (e :: es) kl := fun A env F Z s pos hA hs R S =>
  wpAny_items_cons (wpBot (h A env F Z s hA hs R S) fun v s₁ ⟨x, F₁, μ₁, h₁, le₁, S₁, hx⟩ =>
    wpBot (h₁ A env F₁ Z s₁ pos hA hs (R.mono le₁) S₁) fun vs s₂ ⟨xs, F₂, μ₂, h₂, le₂, S₂, hxs⟩ => ⟨x :: xs, F₂, μ₂, h₂, le₁.trans le₂, S₂, .cons (hx.mono le₂) hxs⟩) (he env)
theorem Sim.pushF {F Z : PMap} {s : Shared} (S : Sim C F Z μ s) {o : Obj} (hf : o.isFreed = false) :
    ∃ F', PLe F F' ∧ F' s.heap.objs.size = some o ∧ Sim C F' Z μ { s with heap := s.heap.push o } := by
  have fresh : ∀ {b : Addr} {ob : Obj}, s.heap.get? b = some ob → b ≠ s.heap.objs.size := fun e => Nat.ne_of_lt (Heap.lt_size e)
  have nF : F s.heap.objs.size = none := by
    cases e : F s.heap.objs.size with
    | none => rfl
    | some ob => exact absurd rfl (fresh (S.fz _ _ e))
  refine ⟨fun a => if a = s.heap.objs.size then some o else F a, fun a ob e => ?_, by simp, ?_⟩
  · show (if a = s.heap.objs.size then some o else F a) = some ob
    rw [if_neg (fun q => by rw [q, nF] at e; cases e)]; exact e
  · have le : PLe F (fun a => if a = s.heap.objs.size then some o else F a) := fun a ob e => by
      show (if a = s.heap.objs.size then some o else F a) = some ob
      rw [if_neg (fun q => by rw [q, nF] at e; cases e)]; exact e
    refine ⟨fun a ob e => le a ob (S.base a ob e), fun a ob e => ?_, fun a ob e => Heap.get?_push_of_some _ (S.zz a ob e), fun a ob e => ?_, fun a x hm => ?_, S.nod, S.os, S.gens⟩
    · change (if a = s.heap.objs.size then some o else F a) = some ob at e
      by_cases q : a = s.heap.objs.size
      · rw [if_pos q] at e; cases e; rw [q]; exact Heap.get?_push_size _ hf
      · rw [if_neg q] at e; exact Heap.get?_push_of_some _ (S.fz a ob e)
    · have := fresh (S.zz a ob e)
      show (if a = s.heap.objs.size then some o else F a) = none
      rw [if_neg this]; exact S.dis a ob e
    · obtain ⟨h1, h2, ob, h3, h4⟩ := S.own a x hm
      refine ⟨?_, h2, ob, Heap.get?_push_of_some _ h3, h4.mono le⟩
      show (if a = s.heap.objs.size then some o else F a) = none
      rw [if_neg (fresh h3)]; exact h1
theorem Sim.pushM {F Z : PMap} {s : Shared} (S : Sim C F Z μ s) {o : Obj} {x : O} (hf : o.isFreed = false) (hx : OAt C.P F x o) :
    Sim C F Z ((s.heap.objs.size, x) :: μ) { s with heap := s.heap.push o } := by
  have fresh : ∀ {b : Addr} {ob : Obj}, s.heap.get? b = some ob → b ≠ s.heap.objs.size := fun e => Nat.ne_of_lt (Heap.lt_size e)
  have nF : F s.heap.objs.size = none := by
    cases e : F s.heap.objs.size with
    | none => rfl
    | some ob => exact absurd rfl (fresh (S.fz _ _ e))
  have nZ : Z s.heap.objs.size = none := by
    cases e : Z s.heap.objs.size with
    | none => rfl
    | some ob => exact absurd rfl (fresh (S.zz _ _ e))
  refine ⟨S.base, fun a ob e => Heap.get?_push_of_some _ (S.fz a ob e), fun a ob e => Heap.get?_push_of_some _ (S.zz a ob e), S.dis, fun a y hm => ?_, ?_, S.os, S.gens⟩
  · rcases List.mem_cons.mp hm with q | q
    · cases q
      exact ⟨nF, nZ, o, Heap.get?_push_size _ hf, hx⟩
    · obtain ⟨h1, h2, ob, h3, h4⟩ := S.own a y q
      exact ⟨h1, h2, ob, Heap.get?_push_of_some _ h3, h4⟩
  · show NamesOk (s.heap.objs.size :: μ.map (·.1))
    refine ⟨List.nodup_cons.mpr ⟨fun hm => ?_, S.nod.1⟩, fun a ha => ?_⟩
    rotate_left
    · rcases List.mem_cons.mp ha with q | q
      · subst q
        refine el32 (C.gg) fun og _ _ hg _ => ?_
        exact Heap.lt_size (S.fz _ _ (S.base _ _ hg))
      · exact S.nod.2 a q
    (refine el12 (List.mem_map.mp hm) fun qq0 hp e => ?_; rcases qq0 with ⟨a, y⟩)
    obtain ⟨_, _, ob, h3, _⟩ := S.own a y hp
    exact fresh h3 e
noncomputable def frozen : List W → Option (List V)
  | [] => some []
  | .v x :: r => (frozen r).map (x :: ·)
  | .l _ :: _ => none
theorem Vals.of {P : Params} {F : PMap} : ∀ {xs : List W} {ds : List V} {vs : List Value}, frozen xs = some ds → WsAt P F xs vs → Vals P F ds vs
  | [], _, _, e, .nil => by cases e; exact .nil
  | .v x :: r, ds, _, e, .cons a b => by
    unfold frozen at e
    cases q : frozen r with
    | none => rw [q] at e; cases e
    | some t => rw [q] at e; cases e; exact .cons a (Vals.of q b)
  | .l _ :: _, _, _, e, _ => by cases e
theorem WsAt.length {P : Params} {F : PMap} {xs : List W} {vs : List Value} (h : WsAt P F xs vs) : vs.length = xs.length := by
  induction h with
  | nil => rfl
  | cons _ _ ih => simp [ih]
theorem cE_tuple {es : List Expr} {n : Nat} {pos : Pos} (h : cEs C d sc ε μ es fun xs μ₁ => ∃ ds, frozen xs = some ds ∧ xs.length ≤ 1000 ∧ k (.v (.tup ds)) μ₁) : cE C d sc ε μ (.Tuple es n pos) k := fun A env F Z s hA hs R S =>
  wpAny_Tuple (wpBot (h A env F Z s pos hA hs R S) fun vs s₁ ⟨xs, F₁, μ₁, ⟨ds, e, hz, h₁⟩, le₁, S₁, hx⟩ => by
    refine el13 (S₁.pushF (o := { cls := .type "tuple", data := .seq vs.toArray }) rfl) fun F₂ le₂ at₂ S₂ => ?_
    refine ⟨by rw [hx.length]; show _ ≤ 2 ^ 24; lia, .v (.tup ds), F₂, μ₁, h₁, le₁.trans le₂, S₂, ?_⟩
    exact Val.tup at₂ (Vals.of e (hx.mono le₂)))
theorem cE_listF {es : List Expr} {pos : Pos} (h : cEs C d sc ε μ es fun xs μ₁ => ∃ ds, frozen xs = some ds ∧ xs.length ≤ 1000 ∧ k (.v (.list ds)) μ₁) : cE C d sc ε μ (.List es pos) k := fun A env F Z s hA hs R S =>
  wpAny_List (wpBot (h A env F Z s pos hA hs R S) fun vs s₁ ⟨xs, F₁, μ₁, ⟨ds, e, hz, h₁⟩, le₁, S₁, hx⟩ => by
    refine el13 (S₁.pushF (o := { cls := .type "list", data := .seq vs.toArray }) rfl) fun F₂ le₂ at₂ S₂ => ?_
    refine ⟨by rw [hx.length]; show _ ≤ 2 ^ 24; lia, .v (.list ds), F₂, μ₁, h₁, le₁.trans le₂, S₂, ?_⟩
    exact Val.list at₂ (Vals.of e (hx.mono le₂)))
theorem cE_listM {es : List Expr} {pos : Pos} (h : cEs C d sc ε μ es fun xs μ₁ => xs.length ≤ 1000 ∧ ∀ a, k (.l a) ((a, .list xs) :: μ₁)) : cE C d sc ε μ (.List es pos) k := fun A env F Z s hA hs R S =>
  wpAny_List (wpBot (h A env F Z s pos hA hs R S) fun vs s₁ ⟨xs, F₁, μ₁, ⟨hz, h₁⟩, le₁, S₁, hx⟩ => by
    refine ⟨by rw [hx.length]; show _ ≤ 2 ^ 24; lia, .l s₁.heap.objs.size, F₁, _, h₁ _, le₁, S₁.pushM (o := { cls := .type "list", data := .seq vs.toArray }) rfl ⟨_, _, rfl, hx⟩, rfl⟩)
end
end
section
open PySem PySem.Calls
noncomputable def PSet (S : PMap) (a : Addr) (o : Obj) : PMap := fun b => if b = a then some o else S b
theorem PSet.self (S : PMap) (a : Addr) (o : Obj) : PSet S a o a = some o := if_pos rfl
theorem PSet.ne (S : PMap) {a b : Addr} (o : Obj) (h : b ≠ a) : PSet S a o b = S b := if_neg h
theorem PUn.set {Z S : PMap} {a : Addr} {o : Obj} (h : Z a = none) : PUn Z (PSet S a o) = PSet (PUn Z S) a o := by
  funext b
  unfold PUn PSet
  by_cases e : b = a
  · subst e; simp [h]
  · simp [e]
section
variable {C : Cx} {d : Nat} {sc : Scope} {ε : Env1} {μ : Mem} {k k' : PostW} {kb : Bool → Mem → Prop} {kl : List W → Mem → Prop}
theorem Sim.setZ {F Y : PMap} {s : Shared} (S : Sim C F Y μ s) {a : Addr} {o o' : Obj} (hy : Y a = some o) {h' : Heap} (hs : Heap.SameBut a s.heap h') (ho : h'.get? a = some o') (t : Nat) :
    Sim C F (PSet Y a o') μ { s with heap := h', toks := t } := by
  have fa : F a = none := S.dis a o hy
  refine ⟨S.base, fun b ob e => (hs.2 b fun q => ?_).trans (S.fz b ob e), fun b ob e => ?_, fun b ob e => ?_, fun b x hm => ?_, S.nod, S.os, S.gens⟩
  · rw [q, fa] at e; cases e
  · by_cases q : b = a
    · subst q; rw [PSet.self] at e; cases e; exact ho
    · rw [PSet.ne _ _ q] at e; exact (hs.2 b q).trans (S.zz b ob e)
  · by_cases q : b = a
    · subst q; exact fa
    · rw [PSet.ne _ _ q] at e; exact S.dis b ob e
  · obtain ⟨h1, h2, ob, h3, h4⟩ := S.own b x hm
    have q : b ≠ a := fun q => by rw [q, hy] at h2; cases h2
    exact ⟨h1, by rw [PSet.ne _ _ q]; exact h2, ob, (hs.2 b q).trans h3, h4⟩
structure Own (Z S : PMap) (env : Env) : Prop where
  apart : ∀ a o, S a = some o → Z a = none
  loc : ∃ o, S env.locals = some o
  cell : ∀ x c, env.cells.lookup x = some c → (∃ o, S c = some o) ∧ c ≠ env.locals
  inj : ∀ x y c, env.cells.lookup x = some c → env.cells.lookup y = some c → x = y
noncomputable def SimS (C : Cx) (F Z : PMap) (μ : Mem) (s : Shared) (env : Env) (ε : Env1) : Prop :=
  ∃ S : PMap, Sim C F (PUn Z S) μ s ∧ EnvRel C F (PUn Z S) env ε ∧ Own Z S env
inductive Fl where
  | next | brk | cont
  | ret (w : W)
noncomputable def FlAt (P : Params) (F : PMap) : Fl → Flow → Prop
  | .next, f => f = .next
  | .brk, f => f = .brk
  | .cont, f => f = .cont
  | .ret w, f => ∃ v, f = .ret v ∧ WAt P F w v
abbrev PostF := Fl → Env1 → Mem → Prop
inductive PostS (C : Cx) (Z : PMap) (env : Env) (k : PostF) (F : PMap) (f : Flow) (s' : Shared) : Prop
  | mk (fl : Fl) (ε' : Env1) (μ' : Mem) (F' : PMap) (hk : k fl ε' μ') (hf : FlAt C.P F' fl f) (le : PLe F F') (S : SimS C F' Z μ' s' env ε') : PostS C Z env k F f s'
inductive PostA (C : Cx) (Z : PMap) (env : Env) (k : Env1 → Mem → Prop) (F : PMap) (s' : Shared) : Prop
  | mk (ε' : Env1) (μ' : Mem) (F' : PMap) (hk : k ε' μ') (le : PLe F F') (S : SimS C F' Z μ' s' env ε') : PostA C Z env k F s'
theorem PostS.trans {Z F F' : PMap} {env : Env} {k : PostF} {f : Flow} {s : Shared} (h : PLe F F') : PostS C Z env k F' f s → PostS C Z env k F f s
  | ⟨fl, ε, μ, G, a, b, c, dd⟩ => ⟨fl, ε, μ, G, a, b, h.trans c, dd⟩
noncomputable def cS (C : Cx) (d : Nat) (sc : Scope) (ε : Env1) (μ : Mem) (st : List Stmt) (k : PostF) : Prop :=
  ∀ (A : Around) (env : Env) (F Z : PMap) (s : Shared), Rm A d → env.scope = sc → SimS C F Z μ s env ε → wpAny C.M A (execs st env) (PostS C Z env k F) (fun _ _ => False) s
noncomputable def cS1 (C : Cx) (d : Nat) (sc : Scope) (ε : Env1) (μ : Mem) (st : Stmt) (k : PostF) : Prop :=
  ∀ (A : Around) (env : Env) (F Z : PMap) (s : Shared), Rm A d → env.scope = sc → SimS C F Z μ s env ε → wpAny C.M A (exec st env) (PostS C Z env k F) (fun _ _ => False) s
variable {kf kf' : PostF}
theorem cS_nil (h : kf .next ε μ) : cS C d sc ε μ [] kf := fun A env F Z s hA hs S => wpAny_execs_nil ⟨.next, ε, μ, F, h, rfl, .refl _, S⟩
noncomputable def seqK (C : Cx) (d : Nat) (sc : Scope) (rest : List Stmt) (kf : PostF) : PostF := fun fl ε μ => match fl with
  | .next => cS C d sc ε μ rest kf
  | fl => kf fl ε μ
theorem cS_cons {st : Stmt} {rest : List Stmt} (h : cS1 C d sc ε μ st (seqK C d sc rest kf)) : cS C d sc ε μ (st :: rest) kf := fun A env F Z s hA hs S =>
  wpAny_execs_cons (wpBot (h A env F Z s hA hs S) fun f s₁ ⟨fl, ε₁, μ₁, F₁, h₁, ft, le₁, S₁⟩ => by
    cases fl with
    | next => cases ft; exact wpBot (h₁ A env F₁ Z s₁ hA hs S₁) fun _ _ p => p.trans le₁
    | brk => cases ft; exact ⟨.brk, ε₁, μ₁, F₁, h₁, rfl, le₁, S₁⟩
    | cont => cases ft; exact ⟨.cont, ε₁, μ₁, F₁, h₁, rfl, le₁, S₁⟩
    | ret w => (refine el12 ft fun v qq1 hw => ?_; try clear ft; subst qq1); exact ⟨.ret w, ε₁, μ₁, F₁, h₁, ⟨v, rfl, hw⟩, le₁, S₁⟩)
theorem cS1.mono {st : Stmt} (h : cS1 C d sc ε μ st kf) (hk : ∀ f e m, kf f e m → kf' f e m) : cS1 C d sc ε μ st kf' := fun A env F Z s a b c =>
  wpBot (h A env F Z s a b c) fun _ _ ⟨fl, e, m, F', q, r1, r2, r3⟩ => ⟨fl, e, m, F', hk _ _ _ q, r1, r2, r3⟩
theorem cE.inS {e : Expr} (h : cE C d sc ε μ e k) {A : Around} {env : Env} {F Z : PMap} {s : Shared} (hA : Rm A d) (hs : env.scope = sc) (S : SimS C F Z μ s env ε) {Q : Value → Shared → Prop} {E : Value → Shared → Prop}
    (hQ : ∀ v s' x F' μ', k x μ' → PLe F F' → SimS C F' Z μ' s' env ε → WAt C.P F' x v → Q v s') : wpAny C.M A (eval e env) Q E s := by
  (refine el13 S fun S₀ hS hR hO => ?_; try clear S)
  exact wpBot (h A env F _ s hA hs hR hS) fun v s' ⟨x, F', μ', hk, le, S', hw⟩ => hQ v s' x F' μ' hk le ⟨S₀, S', hR.mono le, hO⟩ hw
theorem cT.inS {e : Expr} (h : cT C d sc ε μ e kb) {A : Around} {env : Env} {F Z : PMap} {s : Shared} (hA : Rm A d) (hs : env.scope = sc) (S : SimS C F Z μ s env ε) {Q : Bool → Shared → Prop} {E : Value → Shared → Prop}
    (hQ : ∀ b s' F' μ', kb b μ' → PLe F F' → SimS C F' Z μ' s' env ε → Q b s') : wpAny C.M A (isTrue e env (eval e env)) Q E s := by
  (refine el13 S fun S₀ hS hR hO => ?_; try clear S)
  exact wpBot (h A env F _ s hA hs hR hS) fun b s' ⟨F', μ', hk, le, S'⟩ => hQ b s' F' μ' hk le ⟨S₀, S', hR.mono le, hO⟩
theorem cS1_return {e : Expr} {pos : Pos} (h : cE C d sc ε μ e fun x μ' => kf (.ret x) ε μ') : cS1 C d sc ε μ (.Return (some e) pos) kf := fun A env F Z s hA hs S =>
  wpAny_Return_some (h.inS hA hs S fun v s' x F' μ' hk le S' hw => ⟨.ret x, ε, μ', F', hk, ⟨v, rfl, hw⟩, le, S'⟩)
theorem cS1_if {t : Expr} {body orelse : List Stmt} {pos : Pos} (h : cT C d sc ε μ t fun b μ' => (b = true → cS C d sc ε μ' body kf) ∧ (b = false → cS C d sc ε μ' orelse kf)) :
    cS1 C d sc ε μ (.If t body orelse pos) kf := fun A env F Z s hA hs S =>
  wpAny_If (h.inS hA hs S fun b s' F' μ' hk le S' => by
    cases b with
    | true => exact wpBot (hk.1 rfl A env F' Z s' hA hs S') fun _ _ p => p.trans le
    | false => exact wpBot (hk.2 rfl A env F' Z s' hA hs S') fun _ _ p => p.trans le)
theorem StrKeys.of_ns {h : Heap} {a : Addr} {m : Str → Option Value} (x : h.Ns a m) : ∃ o es n, h.get? a = some o ∧ o.data = .dict es n ∧ StrKeys es ∧ ∀ y, nsFind es y = m y := x
theorem lookup_cons_self {x : Str} {w : W} {ε : Env1} : ((x, w) :: ε).lookup x = some w := by simp [List.lookup]
theorem lookup_cons_ne {x y : Str} {w : W} {ε : Env1} (h : y ≠ x) : ((x, w) :: ε).lookup y = ε.lookup y := by
  have : (y == x) = false := by simpa using h
  simp [List.lookup, this]
theorem SimS.store {F Z : PMap} {s : Shared} {env : Env} (S : SimS C F Z μ s env ε) {x : Str} {w : W} {v : Value} (hw : WAt C.P F w v)
    (hk : env.kindOf x = some .local ∨ env.kindOf x = some .cell) {Q : Unit → Shared → Prop} {A : Around} {E : Value → Shared → Prop} (hQ : ∀ s', SimS C F Z μ s' env ((x, w) :: ε) → Q () s') :
    wpAny C.M A (storeName env x v) Q E s := by
  (refine el13 S fun S₀ hS hR hO => ?_; try clear S)
  rcases hk with hk | hk
  · refine el34 (hR.ns) fun o es n hz hdt hsk hl => ?_
    refine wpAny_storeName_local hk (hS.nsZ hz hdt hsk) (fun h' hns hsb => ?_) (by rw [hR.kind]; rfl)
    (refine el34 hns fun o' es' n' ho' hd' hk' hf' => ?_; try clear hns)
    obtain ⟨oL, hL⟩ := hO.loc
    have zL : Z env.locals = none := hO.apart _ _ hL
    refine hQ _ ⟨PSet S₀ env.locals o', ?_, ⟨hR.kind, hR.glob, hR.blt, ?_, ?_⟩, ⟨fun a ob e => ?_, ⟨o', PSet.self ..⟩, fun y c hc => ?_, hO.inj⟩⟩
    · rw [PUn.set zL]; exact hS.setZ hz hsb ho' _
    · refine ⟨o', es', n', by rw [PUn.set zL]; exact PSet.self .., hd', hk', fun y u e ky => ?_⟩
      rw [hf']
      by_cases q : y = x
      · subst q
        rw [lookup_cons_self] at e; cases e
        exact ⟨v, if_pos rfl, hw⟩
      · rw [lookup_cons_ne q] at e
        refine el12 (hl y u e ky) fun u' a b => ?_
        exact ⟨u', (if_neg q).trans a, b⟩
    · intro y ky
      refine el34 (hR.cell y ky) fun c oc u hc hzc hdc hu => ?_
      have cne : c ≠ env.locals := (hO.cell y c hc).2
      refine ⟨c, oc, u, hc, by rw [PUn.set zL, PSet.ne _ _ cne]; exact hzc, hdc, fun u' e => ?_⟩
      have q : y ≠ x := fun q => by subst q; rw [hk] at ky; rcases ky with h | h <;> cases h
      rw [lookup_cons_ne q] at e
      exact hu u' e
    · by_cases q : a = env.locals
      · subst q; exact zL
      · rw [PSet.ne _ _ q] at e; exact hO.apart a ob e
    · obtain ⟨⟨oc, h1⟩, h2⟩ := hO.cell y c hc
      exact ⟨⟨oc, by rw [PSet.ne _ _ h2]; exact h1⟩, h2⟩
  · refine el34 (hR.cell x (.inl hk)) fun c oc u hc hzc hdc hu => ?_
    refine wpAny_storeName_cell hR.kind hk hc ⟨oc, hS.zz _ _ hzc, hdc⟩ fun h' hcell hsb => ?_
    (refine el12 hcell fun o' ho' hd' => ?_; try clear hcell)
    obtain ⟨⟨oS, hSc⟩, cne⟩ := hO.cell x c hc
    have zc : Z c = none := hO.apart _ _ hSc
    obtain ⟨oL, hL⟩ := hO.loc
    refine hQ _ ⟨PSet S₀ c o', ?_, ⟨hR.kind, hR.glob, hR.blt, ?_, ?_⟩, ⟨fun a ob e => ?_, ⟨oL, by rw [PSet.ne _ _ (Ne.symm cne)]; exact hL⟩, fun y c' hc' => ?_, hO.inj⟩⟩
    · rw [PUn.set zc]; exact hS.setZ hzc hsb ho' _
    · refine el34 (hR.ns) fun o es n hz hdt hsk hl => ?_
      refine ⟨o, es, n, by rw [PUn.set zc, PSet.ne _ _ (Ne.symm cne)]; exact hz, hdt, hsk, fun y u' e ky => ?_⟩
      have q : y ≠ x := fun q => by subst q; rw [hk] at ky; cases ky
      rw [lookup_cons_ne q] at e
      exact hl y u' e ky
    · intro y ky
      by_cases q : y = x
      · subst q
        refine ⟨c, o', some v, hc, by rw [PUn.set zc]; exact PSet.self .., hd', fun u' e => ?_⟩
        rw [lookup_cons_self] at e; cases e
        exact ⟨v, rfl, hw⟩
      · refine el34 (hR.cell y ky) fun c' oc' u' hc' hzc' hdc' hu' => ?_
        have cc : c' ≠ c := fun e => q (hO.inj y x c (e ▸ hc') hc)
        refine ⟨c', oc', u', hc', by rw [PUn.set zc, PSet.ne _ _ cc]; exact hzc', hdc', fun u'' e => ?_⟩
        rw [lookup_cons_ne q] at e
        exact hu' u'' e
    · by_cases q : a = c
      · subst q; exact zc
      · rw [PSet.ne _ _ q] at e; exact hO.apart a ob e
    · obtain ⟨⟨ob, h1⟩, h2⟩ := hO.cell y c' hc'
      refine ⟨?_, h2⟩
      by_cases q : c' = c
      · subst q; exact ⟨o', PSet.self ..⟩
      · exact ⟨ob, by rw [PSet.ne _ _ q]; exact h1⟩
theorem cS1_assign {x : Str} {e : Expr} {px pos : Pos} (h : cE C d sc ε μ e fun w μ' => kf .next ((x, w) :: ε) μ')
    (hk : sc.names.lookup x = some .local ∨ sc.names.lookup x = some .cell) (hsw : ∀ env : Env, env.scope = sc → swapsWith e (some (.Name x px)) pos.line env = pure false) :
    cS1 C d sc ε μ (.Assign [.Name x px] e pos) kf := fun A env F Z s hA hs S =>
  wpAny_Assign_Name (h.inS hA hs S fun v s' w F' μ' hk' le S' hw => S'.store hw (by subst hs; exact hk) fun s'' S'' => ⟨.next, _, μ', F', hk', rfl, le, S''⟩) (hsw env hs)
theorem SimS.weaken {F Z : PMap} {s : Shared} {env : Env} {ε' : Env1} {μ' : Mem} (S : SimS C F Z μ s env ε) (he : ∀ x w, ε'.lookup x = some w → ε.lookup x = some w) (hm : μ'.Sublist μ) : SimS C F Z μ' s env ε' := by
  (refine el13 S fun S₀ hS hR hO => ?_; try clear S)
  refine ⟨S₀, ⟨hS.base, hS.fz, hS.zz, hS.dis, fun a o h => hS.own a o (hm.subset h), hS.nod.sublist (hm.map _), hS.os, hS.gens⟩, ⟨hR.kind, hR.glob, hR.blt, ?_, fun x k => ?_⟩, hO⟩
  · refine el34 (hR.ns) fun o es n hz hdt hsk hl => ?_
    exact ⟨o, es, n, hz, hdt, hsk, fun x w e => hl x w (he x w e)⟩
  · refine el34 (hR.cell x k) fun c o u hc hz hdt hl => ?_
    exact ⟨c, o, u, hc, hz, hdt, fun w e => hl w (he x w e)⟩
end
end
section
open PySem PySem.Calls
inductive KwAt (P : Params) (F : PMap) : List (Str × W) → List (Str × Value) → Prop
  | nil : KwAt P F [] []
  | cons {n : Str} {x : W} {v : Value} {xs : List (Str × W)} {vs : List (Str × Value)} : WAt P F x v → KwAt P F xs vs → KwAt P F ((n, x) :: xs) ((n, v) :: vs)
@[elab_as_elim] theorem KwAt.i_nil {P : Params} {F : PMap} {us : List (Str × Value)} {Q : List (Str × Value) → Prop} (h : KwAt P F [] us) (q : Q []) : Q us := by cases h; exact q
noncomputable def cCall (C : Cx) (d : Nat) (μ : Mem) (fv : Value) (xs : List W) (kws : List (Str × W)) (k : PostW) : Prop :=
  ∀ (A : Around) (F Z : PMap) (s : Shared) (vs : List Value) (kvs : List (Str × Value)), Rm A d → Sim C F Z μ s → WsAt C.P F xs vs → KwAt C.P F kws kvs → wpAny C.M A (call fv vs kvs) (Post C Z k F) (fun _ _ => False) s
noncomputable def cMeth (C : Cx) (d : Nat) (μ : Mem) (x : W) (name : Str) (k : Value → List W → Mem → Prop) : Prop :=
  ∀ (A : Around) (F Z : PMap) (s : Shared) (v : Value) (pl : Sem Bool), Rm A d → Sim C F Z μ s → WAt C.P F x v →
    wpAny C.M A (getMethod v name pl) (PostM C Z k F) (fun _ _ => False) s
noncomputable def cAttr (C : Cx) (d : Nat) (μ : Mem) (x : W) (name : Str) (k : PostW) : Prop :=
  ∀ (A : Around) (F Z : PMap) (s : Shared) (v : Value) (b : Bool), Rm A d → Sim C F Z μ s → WAt C.P F x v → wpAny C.M A (getAttr v name b) (Post C Z k F) (fun _ _ => False) s
noncomputable def KeepOk (C : Cx) (fv : Value) : Prop := PySem.W.keepIn C.K fv = true ∨ (∃ id, fv = .builtin id) ∨ ∃ T, fv = .type T
theorem KeepOk.looks {C : Cx} {fv : Value} (h : KeepOk C fv) {M : Model} (hp : Heap) (X : C.K.In hp) : ∃ k, (k = Keeper.frame ∨ k = Keeper.machine ∨ k = Keeper.boundFrame) ∧ PySem.W.Looks M hp (keeperOf fv) k := by
  rcases h with h | ⟨id, rfl⟩ | ⟨T, rfl⟩
  · exact PySem.W.keeps_K h hp X
  · exact ⟨.machine, .inr (.inl rfl), PySem.W.Looks.of_pure rfl⟩
  · exact ⟨.machine, .inr (.inl rfl), PySem.W.Looks.of_pure rfl⟩
theorem evalArgs_gen {M : Model} {A : Around} {E : Value → Shared → Prop} {s : Shared} {f : Value} {args : List (Bool × Sem Value)} {Q : Args → Shared → Prop} (h0 : args.any (·.1) = false)
    (h : wpAny M A (spliced args) (fun vs s' => Q ⟨vs, []⟩ s') E s) : wpAny M A (evalArgs f true args []) Q E s := by
  cases args with
  | nil =>
    unfold evalArgs
    show wpAny M A (spliced [] >>= _) Q E s
    refine wpAny_bind (wpAny_mono h (fun vs s' h' => ?_) fun _ _ x => x)
    refine wpAny_holding ?_
    exact wpAny_bind (wpAny_pure (wpAny_bind (wpAny_pure (wpAny_pure h'))))
  | cons x r =>
    obtain ⟨b, t⟩ := x
    have hb : b = false := by
      simp only [List.any_cons, Bool.or_eq_false_iff] at h0
      exact h0.1
    subst hb
    exact evalArgs_plain h
section
variable {C : Cx} {d : Nat} {sc : Scope} {ε : Env1} {μ : Mem} {k k' : PostW} {kb : Bool → Mem → Prop} {kl : List W → Mem → Prop}
theorem callWith_at {A : Around} {Z : PMap} {s : Shared} {fv : Value} {pos : Pos} {first : List Value} {args : List (Bool × Sem Value)} {Q : Value → Shared → Prop} (hk : KeepOk C fv) (h0 : args.any (·.1) = false)
    (h : wpAny C.M A (spliced args) (fun vs s' => C.K.In s'.heap ∧ wpAny C.M A (call fv (first ++ vs) []) Q (fun _ _ => False) s') (fun _ _ => False) s) :
    wpAny C.M A (callWith pos fv first args []) Q (fun _ _ => False) s :=
  PySem.W.callWith_of (P := fun hp => C.K.In hp) (by rw [h0]; rfl) (fun hp X => hk.looks hp X) (evalArgs_gen h0 h)
theorem cE_call {fe : Expr} {args : List Expr} {pos : Pos} (hev : ∀ env, eval (.Call fe args [] pos) env = (eval fe env >>= fun f => callWith pos f [] (backTo pos (starEach args env)) []))
    (hpl : ∀ env, (backTo pos (starEach args env)).any (·.1) = false)
    (h : cE C d sc ε μ fe fun fw μ₁ => ∃ fv, fw = .v (.glob fv) ∧ KeepOk C fv ∧ cEs C d sc ε μ₁ args fun xs μ₂ => cCall C d μ₂ fv xs [] k) :
    cE C d sc ε μ (.Call fe args [] pos) k := fun A env F Z s hA hs R S => by
  rw [hev]
  refine wpAny_bind (wpBot (h A env F Z s hA hs R S) fun v s₁ hq => ?_)
  obtain ⟨fw, F₁, μ₁, ⟨fv, hfw, hk, h₁⟩, le₁, S₁, hv⟩ := hq
  subst hfw
  cases hv
  refine callWith_at (C := C) (Z := Z) hk (hpl env) (wpBot (h₁ A env F₁ Z s₁ pos hA hs (R.mono le₁) S₁) fun vs s₂ ⟨xs, F₂, μ₂, h₂, le₂, S₂, hxs⟩ => ⟨S₂.kin, ?_⟩)
  exact wpBot (h₂ A F₂ Z s₂ vs [] hA S₂ hxs .nil) fun _ _ p => p.trans (le₁.trans le₂)
theorem cE_mcall {o : Expr} {name : Str} {apos pos : Pos} {args : List Expr} (hbase : ∀ env, attributeBase o name env (eval o env) = eval o env)
    (hfew : ∀ env, methodCallForm (args.length + ([] : List Keyword).length) (backTo pos (starEach args env)) (backToKw pos (keywordEach [] env)) = true) (hline : (apos.endLine == pos.line) = true)
    (hpl : ∀ env, (backTo pos (starEach args env)).any (·.1) = false)
    (h : cE C d sc ε μ o fun ow μ₁ => cMeth C d μ₁ ow name fun fv first μ₂ => KeepOk C fv ∧ cEs C d sc ε μ₂ args fun xs μ₃ => cCall C d μ₃ fv (first ++ xs) [] k) :
    cE C d sc ε μ (.Call (.Attribute o name apos) args [] pos) k := fun A env F Z s hA hs R S => by
  rw [arm_eval_Call, hbase]
  refine wpAny_bind (wpBot (h A env F Z s hA hs R S) fun ov s₁ ⟨ow, F₁, μ₁, h₁, le₁, S₁, hv⟩ => wpAny_bind (wpAny_standAt ?_))
  have hpos : methodCallPos true o env apos pos = pure pos := by unfold methodCallPos; simp [hline]
  unfold methodCall
  rw [hfew]
  refine wpAny_bind (wpAny_holding (wpBot (h₁ A F₁ Z s₁ ov _ hA S₁ hv) fun p s₂ hq => ?_))
  obtain ⟨ws, F₂, μ₂, ⟨hk, h₂⟩, le₂, S₂, hws⟩ := hq
  obtain ⟨fv, first⟩ := p
  refine wpAny_bind (wpAny_of_eq hpos ?_)
  refine callWith_at (C := C) (Z := Z) hk (hpl env) (wpBot (h₂ A env F₂ Z s₂ pos hA hs (R.mono (le₁.trans le₂)) S₂) fun vs s₃ ⟨xs, F₃, μ₃, h₃, le₃, S₃, hxs⟩ => ⟨S₃.kin, ?_⟩)
  have hap : ∀ {a : List W} {b : List Value}, WsAt C.P F₃ a b → WsAt C.P F₃ (a ++ xs) (b ++ vs) := fun x => by
    induction x with
    | nil => exact hxs
    | cons p _ ih => exact .cons p ih
  exact wpBot (h₃ A F₃ Z s₃ (first ++ vs) [] hA S₃ (hap (hws.mono le₃)) .nil) fun _ _ p => p.trans ((le₁.trans le₂).trans le₃)
theorem cE_attr {o : Expr} {name : Str} {pos : Pos} (hbase : ∀ env, attributeBase o name env (eval o env) = eval o env)
    (h : cE C d sc ε μ o fun ow μ₁ => cAttr C d μ₁ ow name k) : cE C d sc ε μ (.Attribute o name pos) k := fun A env F Z s hA hs R S => by
  have e : eval (.Attribute o name pos) env = (do
    let o' ← attributeBase o name env (eval o env)
    standAt pos.atName
    let r ← holding [o'] (getAttr o' name true)
    letTemporaryGo o o' r
    pure r) := rfl
  rw [e, hbase]
  refine wpAny_bind (wpBot (h A env F Z s hA hs R S) fun ov s₁ ⟨ow, F₁, μ₁, h₁, le₁, S₁, hv⟩ => wpAny_bind (wpAny_standAt ?_))
  refine wpAny_bind (wpAny_holding (wpBot (h₁ A F₁ Z s₁ ov true hA S₁ hv) fun r s₂ p => ?_))
  exact wpAny_bind (wpAny_letTemporaryGo (wpAny_pure (p.trans le₁)))
inductive BindAt (P : Params) (F : PMap) : List (Str × W) → List (Str × Value) → Prop
  | nil : BindAt P F [] []
  | cons {n : Str} {x : W} {v : Value} {xs : List (Str × W)} {vs : List (Str × Value)} : WAt P F x v → BindAt P F xs vs → BindAt P F ((n, x) :: xs) ((n, v) :: vs)
theorem BindAt.names {P : Params} {F : PMap} {bs : List (Str × W)} {vs : List (Str × Value)} (h : BindAt P F bs vs) : vs.map (·.1) = bs.map (·.1) := by
  induction h with
  | nil => rfl
  | cons _ _ ih => simp [ih]
theorem BindAt.find {P : Params} {F : PMap} {bs : List (Str × W)} {vs : List (Str × Value)} (h : BindAt P F bs vs) {x : Str} {w : W} (e : bs.lookup x = some w) : ∃ v, (x, v) ∈ vs ∧ WAt P F w v := by
  induction h with
  | nil => cases e
  | @cons n y v xs vs' a _ ih =>
    by_cases q : x = n
    · subst q
      rw [lookup_cons_self] at e; cases e
      exact ⟨v, .head _, a⟩
    · rw [lookup_cons_ne q] at e
      refine el12 (ih e) fun v' h1 h2 => ?_
      exact ⟨v', .tail _ h1, h2⟩
theorem bindL_keep {kindOf : Str → Option NameKind} {x : Str} : ∀ (bs : List (Str × Value)) (m : Str → Option Value), x ∉ bs.map (·.1) → bindL kindOf bs m x = m x
  | [], _, _ => rfl
  | (n, v) :: r, m, h => by
    have hn : x ≠ n := fun q => h (by simp [q])
    have hr : x ∉ r.map (·.1) := fun q => h (by simp only [List.map_cons]; exact .tail _ q)
    unfold bindL
    rw [bindL_keep r _ hr]
    split
    · exact if_neg hn
    · rfl
theorem bindC_keep {kindOf : Str → Option NameKind} {x : Str} : ∀ (bs : List (Str × Value)) (m : Str → Option Value), x ∉ bs.map (·.1) → bindC kindOf bs m x = m x
  | [], _, _ => rfl
  | (n, v) :: r, m, h => by
    have hn : x ≠ n := fun q => h (by simp [q])
    have hr : x ∉ r.map (·.1) := fun q => h (by simp only [List.map_cons]; exact .tail _ q)
    unfold bindC
    rw [bindC_keep r _ hr]
    split
    · rfl
    · exact if_neg hn
theorem bindL_at {kindOf : Str → Option NameKind} {x : Str} {v : Value} (hk : kindOf x = some .local) : ∀ (bs : List (Str × Value)) (m : Str → Option Value), (bs.map (·.1)).Nodup → (x, v) ∈ bs → bindL kindOf bs m x = some v
  | (n, u) :: r, m, hn, h => by
    simp only [List.map_cons, List.nodup_cons] at hn
    unfold bindL
    cases h with
    | head =>
      rw [bindL_keep r _ hn.1, if_pos hk]
      exact if_pos rfl
    | tail _ h => exact bindL_at hk r _ hn.2 h
theorem bindC_at {kindOf : Str → Option NameKind} {x : Str} {v : Value} (hk : kindOf x = some .cell) : ∀ (bs : List (Str × Value)) (m : Str → Option Value), (bs.map (·.1)).Nodup → (x, v) ∈ bs → bindC kindOf bs m x = some v
  | (n, u) :: r, m, hn, h => by
    simp only [List.map_cons, List.nodup_cons] at hn
    unfold bindC
    cases h with
    | head =>
      rw [bindC_keep r _ hn.1, if_neg (by rw [hk]; decide)]
      exact if_pos rfl
    | tail _ h => exact bindC_at hk r _ hn.2 h
theorem Sim.dropZ {F Z S : PMap} {s : Shared} (h : Sim C F (PUn Z S) μ s) : Sim C F Z μ s :=
  ⟨h.base, h.fz, fun a o e => h.zz a o (by unfold PUn; rw [e]; rfl), fun a o e => h.dis a o (by unfold PUn; rw [e]; rfl), fun a x hm => let ⟨h1, h2, h3⟩ := h.own a x hm; ⟨h1, (by
    unfold PUn at h2
    cases e : Z a with
    | none => rfl
    | some o => rw [e] at h2; cases h2), h3⟩, h.nod, h.os, h.gens⟩
theorem SimS.enter {F Z : PMap} {s s' : Shared} {env : Env} {binds : List (Str × Value)} {bs : List (Str × W)} (S : Sim C F Z μ s) (hb : BindAt C.P F bs binds) (hn : (bs.map (·.1)).Nodup)
    (hk : env.scope.kind = .function) (hg : env.globals = mainGlobals) (hbl : env.builtins = builtinsNs ∧ CodeOk C env) (hfree : ∀ y ∈ env.scope.names, y.2 ≠ .free)
    (hcells : env.cells = cellsFrom (env.locals + 1) env.scope.names [])
    (x : InCallC s env.locals (bindL env.kindOf binds fun _ => none) env.cells (bindC env.kindOf binds fun _ => none) s') : SimS C F Z μ s' env bs := by
  (refine el22 (x.done) fun h' tk qq2 keep => ?_; subst qq2)
  have fresh : ∀ {b : Addr} {ob : Obj}, s.heap.get? b = some ob → b < env.locals := fun e => Nat.lt_of_lt_of_le (Heap.lt_size e) x.toInCall.fresh
  have fF : ∀ {b : Addr} {ob : Obj}, F b = some ob → b < env.locals := fun e => fresh (S.fz _ _ e)
  have fZ : ∀ {b : Addr} {ob : Obj}, Z b = some ob → b < env.locals := fun e => fresh (S.zz _ _ e)
  have above : ∀ a, a ∈ env.cells.map (·.2) → env.locals < a := fun a ha => by
    (refine el12 (List.mem_map.mp ha) fun qq0 hm qq2 => ?_; rcases qq0 with ⟨n, c⟩; subst qq2)
    exact x.above n c hm
  have nd : (binds.map (·.1)).Nodup := hb.names ▸ hn
  let S₀ : PMap := fun a => if a = env.locals ∨ a ∈ env.cells.map (·.2) then h'.get? a else none
  have sLoc : S₀ env.locals = h'.get? env.locals := if_pos (.inl rfl)
  have sCell : ∀ c, c ∈ env.cells.map (·.2) → S₀ c = h'.get? c := fun c hc => if_pos (.inr hc)
  have sNew : ∀ a o, S₀ a = some o → env.locals ≤ a := fun a o e => by
    by_cases q : a = env.locals ∨ a ∈ env.cells.map (·.2)
    · rcases q with q | q
      · exact Nat.le_of_eq q.symm
      · exact Nat.le_of_lt (above a q)
    · change (if a = env.locals ∨ a ∈ env.cells.map (·.2) then h'.get? a else none) = some o at e
      rw [if_neg q] at e; cases e
  have zNone : ∀ a, env.locals ≤ a → Z a = none := fun a ha => by
    cases e : Z a with
    | none => rfl
    | some o => exact absurd (fZ e) (Nat.not_lt.mpr ha)
  have un : ∀ a o, PUn Z S₀ a = some o → Z a = some o ∨ S₀ a = some o := fun a o e => by
    unfold PUn at e
    cases q : Z a with
    | none => rw [q] at e; exact .inr e
    | some o' => rw [q] at e; exact .inl e
  have unS : ∀ a, env.locals ≤ a → PUn Z S₀ a = S₀ a := fun a ha => by unfold PUn; rw [zNone a ha]; rfl
  refine ⟨S₀, ⟨S.base, fun a o e => keep a o (S.fz a o e), fun a o e => ?_, fun a o e => ?_, fun a y hm => ?_, S.nod, S.os, S.gens⟩, ⟨hk, hg, hbl, ?_, fun y ky => ?_⟩, ⟨fun a o e => zNone a (sNew a o e), ?_, fun y c hc => ?_, fun y z c h1 h2 => ?_⟩⟩
  · rcases un a o e with e | e
    · exact keep a o (S.zz a o e)
    · by_cases q : a = env.locals ∨ a ∈ env.cells.map (·.2)
      · change (if a = env.locals ∨ a ∈ env.cells.map (·.2) then h'.get? a else none) = some o at e
        rw [if_pos q] at e; exact e
      · change (if a = env.locals ∨ a ∈ env.cells.map (·.2) then h'.get? a else none) = some o at e
        rw [if_neg q] at e; cases e
  · rcases un a o e with e | e
    · exact S.dis a o e
    · cases q : F a with
      | none => rfl
      | some o' => exact absurd (fF q) (Nat.not_lt.mpr (sNew a o e))
  · obtain ⟨h1, h2, ob, h3, h4⟩ := S.own a y hm
    refine ⟨h1, ?_, ob, keep a ob h3, h4⟩
    unfold PUn
    rw [h2]
    show S₀ a = none
    cases q : S₀ a with
    | none => rfl
    | some o' => exact absurd (fresh h3) (Nat.not_lt.mpr (sNew a o' q))
  · refine el34 (x.toInCall.ns) fun o es n ho hd hsk hf => ?_
    refine ⟨o, es, n, by rw [unS _ (Nat.le_refl _), sLoc]; exact ho, hd, hsk, fun y w e ky => ?_⟩
    refine el12 (hb.find e) fun v hv hw => ?_
    exact ⟨v, by rw [hf]; exact bindL_at ky binds _ nd hv, hw⟩
  · rcases ky with ky | ky
    · have hc : (env.cells.lookup y).isSome = true := by rw [hcells]; exact PySem.W.cellsFrom_some _ _ _ (.inl ky)
      obtain ⟨c, hc⟩ := Option.isSome_iff_exists.mp hc
      have hm : c ∈ env.cells.map (·.2) := List.mem_map_of_mem (f := (·.2)) (mem_of_lookup hc)
      refine el12 (x.cell y c hc) fun o ho hd => ?_
      refine ⟨c, o, _, hc, by rw [unS _ (Nat.le_of_lt (above c hm)), sCell c hm]; exact ho, hd, fun w e => ?_⟩
      refine el12 (hb.find e) fun v hv hw => ?_
      exact ⟨v, bindC_at ky binds _ nd hv, hw⟩
    · exact absurd rfl (hfree _ (mem_of_lookup ky))
  · refine el32 (x.toInCall.ns) fun o es n ho _ => ?_
    exact ⟨o, by rw [sLoc]; exact ho⟩
  · have hm : c ∈ env.cells.map (·.2) := List.mem_map_of_mem (f := (·.2)) (mem_of_lookup hc)
    refine el12 (x.cell y c hc) fun o ho hd => ?_
    exact ⟨⟨o, by rw [sCell c hm]; exact ho⟩, Nat.ne_of_gt (above c hm)⟩
  · exact name_of_addr x.apart (mem_of_lookup h1) (mem_of_lookup h2)
theorem cCall_def {f : Addr} {name qual : Str} {params : Arguments} {body : List Stmt} {scope : Scope} {dV kV doc pm cdv ct oc : Value} {an od : Option Addr} {osl : Array (Option Value)} {xs : List W} {kws : List (Str × W)} {bs : List (Str × W)}
    (ho : C.K.lookup f = some ⟨oc, od, .func (PySem.W.fnOf name qual params body scope dV kV doc pm an cdv ct), osl⟩) (hcd : codeT C.K cdv qual = true)
    (hbind : ∀ F s vs kvs, C.K.In s.heap → WsAt C.P F xs vs → KwAt C.P F kws kvs → ∃ binds, BindsTo s (PySem.W.fnOf name qual params body scope dV kV doc pm an cdv ct) ⟨vs, kvs⟩ binds ∧ BindAt C.P F bs binds)
    (hkind : (bs.all fun y => scope.names.lookup y.1 == some .local || scope.names.lookup y.1 == some .cell) = true) (hn : (bs.map (·.1)).Nodup) (hfree : ∀ y ∈ scope.names, y.2 ≠ .free)
    (hco : scope.isCoroutine = false) (hgen : scope.isGenerator = false) (hk : scope.kind = .function)
    (h : cS C d scope bs μ body fun fl _ μ' => match fl with | .ret w => k w μ' | _ => k (.v .none) μ') :
    cCall C (d + 1) μ (.ref f) xs kws k := fun A F Z s vs kvs hA S hv hkv => by
  refine el12 (hbind F s vs kvs S.kin hv hkv) fun binds hbt hba => ?_
  have hall : (binds.all fun y => scope.names.lookup y.1 == some .local || scope.names.lookup y.1 == some .cell) = true := by
    refine List.all_eq_true.mpr fun y hy => ?_
    have : y.1 ∈ bs.map (·.1) := hba.names ▸ List.mem_map_of_mem (f := (·.1)) hy
    refine el12 (List.mem_map.mp this) fun z hz e => ?_
    have := List.all_eq_true.mp hkind z hz
    rw [e] at this
    exact this
  refine wpAny_call (codeAny_call_function (fd := PySem.W.fnOf name qual params body scope dV kV doc pm an cdv ct) (body := body) hA.lim (S.kin _ _ ho) rfl hco hgen rfl (PySem.W.codeRec_of S.kin (codeT_in hcd)) (hbt _ _ _ _ ?_))
  refine wpAny_newFunctionEnv_cells hk (PySem.W.kindsX hall _) fun env he s' x => ?_
  have keep := x.toInCall.keep
  refine ⟨S.lim.keeps keep, codeAny_func ?_⟩
  have hs : env.scope = scope := by subst he; rfl
  have SS : SimS C F Z μ s' env bs := by
    refine SimS.enter S hba hn (by rw [hs]; exact hk) (by subst he; rfl) ⟨by subst he; rfl, by subst he; exact CodeOk.of (q := qual) hcd⟩ (by rw [hs]; exact hfree) (by subst he; rfl) x
  have hA' : Rm (A.deeper env) d := ⟨hA.hd, by have := hA.dp; show A.depth + 1 + 2 * d + 2 < 700; lia, by have := hA.un; show A.units + 3 + 16 * d + 16 < cLine; lia⟩
  refine wpBot (h (A.deeper env) env F Z s' hA' hs SS) fun fl s₂ hq => ?_
  obtain ⟨fl', ε', μ', F', hk', hfl, le, S'⟩ := hq
  refine el13 S' fun S₀ S' _ _ => ?_
  cases fl' with
  | ret w => (refine el12 hfl fun v qq1 hw => ?_; try clear hfl; subst qq1); exact ⟨w, F', μ', hk', le, S'.dropZ, hw⟩
  | next => cases hfl; exact ⟨_, F', μ', hk', le, S'.dropZ, .none⟩
  | brk => cases hfl; exact ⟨_, F', μ', hk', le, S'.dropZ, .none⟩
  | cont => cases hfl; exact ⟨_, F', μ', hk', le, S'.dropZ, .none⟩
end
end
section
open PySem PySem.Calls
section
variable {C : Cx} {d : Nat} {sc : Scope} {ε : Env1} {μ : Mem} {k k' : PostW} {kb : Bool → Mem → Prop} {kl : List W → Mem → Prop}
theorem v_add {a b : Int} (h : k (.v (.int (a + b))) μ) : cV2 C d μ (.v (.int a)) (.v (.int b)) (binaryOp .Add) k := fun A F Z s u v hA S hu hv => by
  refine Val.i_int hu fun _ => ?_; refine Val.i_int hv fun _ => ?_; exact PyProof.Rows.add_int ⟨_, F, μ, h, .refl _, S.tok _, .int _ _⟩
theorem v_mul {a b : Int} (hm : IntMulOk a b) (h : k (.v (.int (a * b))) μ) : cV2 C d μ (.v (.int a)) (.v (.int b)) (binaryOp .Mult) k := fun A F Z s u v hA S hu hv => by
  refine Val.i_int hu fun _ => ?_; refine Val.i_int hv fun _ => ?_; exact PyProof.Rows.mul_int ⟨_, F, μ, h, .refl _, S.tok _, .int _ _⟩ hm
theorem v_mod {a b : Int} (hb : b ≠ 0) (h : k (.v (.int (a.fmod b))) μ) : cV2 C d μ (.v (.int a)) (.v (.int b)) (binaryOp .Mod) k := fun A F Z s u v hA S hu hv => by
  refine Val.i_int hu fun _ => ?_; refine Val.i_int hv fun _ => ?_; exact PyProof.Rows.mod_int' hb ⟨_, F, μ, h, .refl _, S.tok _, .int _ _⟩
theorem v_div {a b : Int} (hb : b ≠ 0) (hd : b.natAbs < 1073741824) (h : k (.v (.int (a.fdiv b))) μ) : cV2 C d μ (.v (.int a)) (.v (.int b)) (binaryOp .FloorDiv) k := fun A F Z s u v hA S hu hv => by
  refine Val.i_int hu fun _ => ?_; refine Val.i_int hv fun _ => ?_; exact PyProof.Rows.floordiv_int hb ⟨_, F, μ, h, .refl _, S.tok _, .int _ _⟩ (.inl (PyProof.noPylong_small hd))
theorem v_gt {a b : Int} (h : k (.v (.bool (decide (b < a)))) μ) : cV2 C d μ (.v (.int a)) (.v (.int b)) (compareOp .Gt) k := fun A F Z s u v hA S hu hv => by
  refine Val.i_int hu fun _ => ?_; refine Val.i_int hv fun _ => ?_; exact PyProof.Rows.gt_int ⟨_, F, μ, h, .refl _, S, .bool _⟩
theorem v_eqi {a b : Int} (h : k (.v (.bool (a == b))) μ) : cV2 C d μ (.v (.int a)) (.v (.int b)) (compareOp .Eq) k := fun A F Z s u v hA S hu hv => by
  refine Val.i_int hu fun _ => ?_; refine Val.i_int hv fun _ => ?_; exact PyProof.Rows.eq_int ⟨_, F, μ, h, .refl _, S, .bool _⟩
theorem v_nei {a b : Int} (h : k (.v (.bool (a != b))) μ) : cV2 C d μ (.v (.int a)) (.v (.int b)) (compareOp .NotEq) k := fun A F Z s u v hA S hu hv => by
  refine Val.i_int hu fun _ => ?_; refine Val.i_int hv fun _ => ?_; exact PyProof.Rows.ne_int ⟨_, F, μ, h, .refl _, S, .bool _⟩
theorem v_isnotb {a b : Bool} (h : k (.v (.bool (!(a == b)))) μ) : cV2 C d μ (.v (.bool a)) (.v (.bool b)) (compareOp .IsNot) k := fun A F Z s u v hA S hu hv => by
  refine Val.i_bool hu ?_; refine Val.i_bool hv ?_
  refine wpAny_isNot_plain rfl ⟨_, F, μ, h, .refl _, S, ?_⟩
  have : (Value.bool a == Value.bool b) = (a == b) := by cases a <;> cases b <;> rfl
  rw [this]; exact .bool _
theorem Vals.toList {P : Params} {F : PMap} {ds : List V} {vs : List Value} (h : Vals P F ds vs) : vs.length = ds.length := by
  induction ds generalizing vs with
  | nil => refine Vals.i_nil h ?_; rfl
  | cons x r ih => cases h with | cons a b => simp [ih b]
theorem Vals.get {P : Params} {F : PMap} : ∀ {ds : List V} {vs : List Value} {i : Nat} {x : V}, Vals P F ds vs → ds[i]? = some x → ∃ v, vs[i]? = some v ∧ Val P F x v
  | _, _, i, x, .nil, e => by cases i <;> cases e
  | _ :: _, _ :: _, 0, x, .cons a b, e => by cases e; exact ⟨_, rfl, a⟩
  | _ :: _, _ :: _, i + 1, x, .cons a b, e => Vals.get (i := i) b (by simpa using e)
theorem Sim.isL {F Z : PMap} {s : Shared} (S : Sim C F Z μ s) {a : Addr} {ws : Array Value} {n : Nat} (h1 : F a = some { cls := .type "list", data := .seq ws n }) : IsL s.heap a ws n := S.fz _ _ h1
theorem Sim.isT {F Z : PMap} {s : Shared} (S : Sim C F Z μ s) {a : Addr} {ws : Array Value} {n : Nat} (h1 : F a = some { cls := .type "tuple", data := .seq ws n }) : IsT s.heap a ws n := S.fz _ _ h1
theorem Sim.isLm {F Z : PMap} {s : Shared} (S : Sim C F Z μ s) {a : Addr} {xs : List W} (h : (a, O.list xs) ∈ μ) : ∃ ws n, IsL s.heap a ws n ∧ WsAt C.P F xs ws.toList := by
  obtain ⟨_, _, ob, h3, ws, n, rfl, h4⟩ := S.own a _ h
  exact ⟨ws, n, h3, h4⟩
end
end
section
open PySem PySem.Calls
inductive UpdAt (a : Addr) (x x' : O) : Mem → Mem → Prop
  | here {r : Mem} : UpdAt a x x' ((a, x) :: r) ((a, x') :: r)
  | there {p : Addr × O} {r r' : Mem} : UpdAt a x x' r r' → UpdAt a x x' (p :: r) (p :: r')
theorem UpdAt.mem {a : Addr} {x x' : O} {μ μ' : Mem} (h : UpdAt a x x' μ μ') : (a, x) ∈ μ := by
  induction h with
  | here => exact .head _
  | there _ ih => exact .tail _ ih
theorem UpdAt.names {a : Addr} {x x' : O} {μ μ' : Mem} (h : UpdAt a x x' μ μ') : μ'.map (·.1) = μ.map (·.1) := by
  induction h with
  | here => rfl
  | there _ ih => simp [ih]
theorem UpdAt.of {a : Addr} {x x' : O} {μ μ' : Mem} (h : UpdAt a x x' μ μ') (hn : (μ.map (·.1)).Nodup) : ∀ b y, (b, y) ∈ μ' → (b = a ∧ y = x') ∨ (b ≠ a ∧ (b, y) ∈ μ) := by
  induction h with
  | here =>
    intro b y hm
    simp only [List.map_cons, List.nodup_cons] at hn
    cases hm with
    | head => exact .inl ⟨rfl, rfl⟩
    | tail _ hm => exact .inr ⟨fun q => hn.1 (q ▸ List.mem_map_of_mem (f := (·.1)) hm), .tail _ hm⟩
  | @there p r r' h ih =>
    intro b y hm
    simp only [List.map_cons, List.nodup_cons] at hn
    cases hm with
    | head => exact .inr ⟨fun q => hn.1 (q ▸ List.mem_map_of_mem (f := (·.1)) h.mem), .head _⟩
    | tail _ hm =>
      rcases ih hn.2 b y hm with q | q
      · exact .inl q
      · exact .inr ⟨q.1, .tail _ q.2⟩
theorem UpdAt.exists {a : Addr} {x : O} (x' : O) : ∀ {μ : Mem}, (a, x) ∈ μ → ∃ μ', UpdAt a x x' μ μ'
  | _ :: _, .head _ => ⟨_, .here⟩
  | _ :: _, .tail _ h => let ⟨μ', q⟩ := UpdAt.exists x' h; ⟨_, .there q⟩
section
variable {C : Cx} {d : Nat} {sc : Scope} {ε : Env1} {μ μ' : Mem} {k k' : PostW} {kb : Bool → Mem → Prop} {kl : List W → Mem → Prop}
theorem Sim.updM {F Z : PMap} {s : Shared} (S : Sim C F Z μ s) {a : Addr} {x x' : O} (hU : UpdAt a x x' μ μ') {h' : Heap} {ob' : Obj} (hs : Heap.SameBut a s.heap h') (ho : h'.get? a = some ob') (hx : OAt C.P F x' ob') (t : Nat) :
    Sim C F Z μ' { s with heap := h', toks := t } := by
  refine el03 (S.own a x hU.mem) fun fa za _ => ?_
  refine ⟨S.base, fun b ob e => (hs.2 b fun q => ?_).trans (S.fz b ob e), fun b ob e => (hs.2 b fun q => ?_).trans (S.zz b ob e), S.dis, fun b y hm => ?_, hU.names ▸ S.nod, S.os, S.gens⟩
  · rw [q, fa] at e; cases e
  · rw [q, za] at e; cases e
  · rcases hU.of S.nod.1 b y hm with ⟨rfl, rfl⟩ | ⟨q, hm⟩
    · exact ⟨fa, za, ob', ho, hx⟩
    · obtain ⟨h1, h2, ob, h3, h4⟩ := S.own b y hm
      exact ⟨h1, h2, ob, (hs.2 b q).trans h3, h4⟩
theorem WsAt.append {P : Params} {F : PMap} {xs ys : List W} {us vs : List Value} (h : WsAt P F xs us) (g : WsAt P F ys vs) : WsAt P F (xs ++ ys) (us ++ vs) := by
  induction h with
  | nil => exact g
  | cons a _ ih => exact .cons a ih
theorem WsAt.inv2 {P : Params} {F : PMap} {x y : W} {vs : List Value} (h : WsAt P F [x, y] vs) : ∃ u v, vs = [u, v] ∧ WAt P F x u ∧ WAt P F y v := by
  cases h with | cons a h => cases h with | cons b h => refine WsAt.i_nil h ?_; exact ⟨_, _, rfl, a, b⟩
theorem v_append {a : Addr} {ws : List W} {w : W} (hU : UpdAt a (.list ws) (.list (ws ++ [w])) μ μ') (hz : ws.length ≤ 100000) (h : k (.v .none) μ') : cCall C d μ (.builtin "list.append") [.l a, w] [] k := fun A F Z s vs kvs hA S hv hkv => by
  refine KwAt.i_nil hkv ?_
  refine WsAt.i2 hv fun u v hu hw => ?_
  refine WAt.i_l hu ?_
  refine el22 (S.isLm hU.mem) fun its n hl hws => ?_
  have hlen : its.size = ws.length := by rw [← Array.length_toList, hws.length]
  refine wpAny_list_append_plain ⟨n, hl⟩ (fun h' hp hs => ?_) (by rw [hlen]; show _ ≤ 2 ^ 24; lia)
  obtain ⟨n', ho⟩ := hp
  exact ⟨.v .none, F, μ', h, .refl _, S.updM hU hs ho ⟨_, _, rfl, by rw [Array.toList_push]; exact hws.append (.cons hw .nil)⟩ _, .none⟩
theorem v_pop {a : Addr} {ws : List W} {w : W} (hU : UpdAt a (.list (ws ++ [w])) (.list ws) μ μ') (hz : ws.length ≤ 100000) (h : k w μ') : cCall C d μ (.builtin "list.pop") [.l a] [] k := fun A F Z s vs kvs hA S hv hkv => by
  refine KwAt.i_nil hkv ?_
  refine WsAt.i1 hv fun u hu => ?_
  refine WAt.i_l hu ?_
  refine el22 (S.isLm hU.mem) fun its n hl hws => ?_
  have hlen : its.size = ws.length + 1 := by rw [← Array.length_toList, hws.length]; simp
  obtain ⟨us, vs', e, h1, h2⟩ : ∃ us v, its.toList = us ++ [v] ∧ WsAt C.P F ws us ∧ WAt C.P F w v := by
    have gen : ∀ {xs : List W} {l : List Value}, WsAt C.P F (xs ++ [w]) l → ∃ us v, l = us ++ [v] ∧ WsAt C.P F xs us ∧ WAt C.P F w v := by
      intro xs
      induction xs with
      | nil => intro l hl; refine WsAt.i1 hl fun u hu => ?_; exact ⟨[], u, rfl, .nil, hu⟩
      | cons x r ih => intro l hl; cases hl with | cons p q => (refine el23 (ih q) fun us v qq2 b c => ?_; subst qq2); exact ⟨_ :: us, v, rfl, .cons p b, c⟩
    exact gen hws
  have hul : us.length = ws.length := h1.length
  have hy : its[its.size - 1]? = some vs' := by
    rw [hlen, ← Array.getElem?_toList, e]
    simp [← hul]
  refine call_meets PySem.F.slot_list_pop ⟨_, hl, rfl⟩ PySem.F.entry_list_pop (PySem.F.args_list_pop_1 _) (MeetsSeq.list_pop_last a its n vs' hy (by rw [hlen]; show _ ≤ 2 ^ 24; lia)) ⟨hl, ?_⟩
  have ee : its.eraseIdxIfInBounds (its.size - 1) = us.toArray := by
    apply Array.ext'
    rw [Array.toList_eraseIdxIfInBounds, e, hlen, ← hul]
    simp [List.eraseIdx_append_of_length_le]
  refine ⟨w, F, μ', h, .refl _, S.updM hU (Heap.SameBut.update _ _ _) (IsL.update hl _) ⟨_, _, rfl, ?_⟩ s.toks, h2⟩
  rw [ee]; exact h1
theorem m_list {a : Addr} {ws : List W} {name : Str} {id : String} {kk : Value → List W → Mem → Prop} (hm : (a, O.list ws) ∈ μ) (slot : Slot "list" name id) (hty : typeOf (.builtin id) = pure (.type "method_descriptor")) (h : kk (.builtin id) [.l a] μ) :
    cMeth C d μ (.l a) name kk := fun A F Z s v pl hA S hv => by
  refine WAt.i_l hv ?_
  refine el22 (S.isLm hm) fun its n hl hws => ?_
  exact getMethod_builtin ⟨_, hl, rfl⟩ PySem.F.plainAttrs_list slot hty (fun b e => by cases e; exact ⟨_, hl, rfl⟩) ⟨[.l a], F, μ, h, .refl _, S, .cons rfl .nil⟩
theorem t_listM {a : Addr} {ws : List W} (hm : (a, O.list ws) ∈ μ) (hz : ws.length ≤ 100000) (h : kb (!ws.isEmpty) μ) : cB1 C d μ (.l a) truthy kb := fun A F Z s v hA S hv => by
  refine WAt.i_l hv ?_
  refine el22 (S.isLm hm) fun its n hl hws => ?_
  have e : its.size = ws.length := by rw [← Array.length_toList, hws.length]
  refine wpAny_truthy_list (IsL.isList hl) (by rw [e]; lia) ⟨F, μ, ?_, .refl _, S.tok _⟩
  have : its.isEmpty = ws.isEmpty := by
    unfold Array.isEmpty
    cases ws <;> simp [e]
  rw [this]; exact h
theorem v_item_list {vs : List V} {i : Int} {x : V} (h0 : 0 ≤ i) (hi : i < 100000) (hx : vs[i.toNat]? = some x) (h : k (.v x) μ) : cV2 C d μ (.v (.list vs)) (.v (.int i)) getItem k := fun A F Z s u v hA S hu hv => by
  refine Val.i_int hv fun _ => ?_
  refine Val.i_list hu fun _ _ _ h1 h4 => ?_
  refine el12 (h4.get hx) fun y hy hw => ?_
  exact wpAny_getItem_list (S.isL h1).isList h0 (by lia) (by rw [← Array.getElem?_toList]; exact hy) ⟨.v x, F, μ, h, .refl _, S, hw⟩
theorem v_item_tup {vs : List V} {i : Int} {x : V} (h0 : 0 ≤ i) (hi : i < 100000) (hx : vs[i.toNat]? = some x) (h : k (.v x) μ) : cV2 C d μ (.v (.tup vs)) (.v (.int i)) getItem k := fun A F Z s u v hA S hu hv => by
  refine Val.i_int hv fun _ => ?_
  refine Val.i_tup hu fun a ws n h1 h4 => ?_
  refine el12 (h4.get hx) fun y hy hw => ?_
  have e : ws.size = vs.length := by rw [← Array.length_toList, h4.toList]
  have hlt : i.toNat < vs.length := (List.getElem?_eq_some_iff.mp hx).1
  exact P.getItem_tuple (S.isT h1) (by lia) (by lia) (by rw [e]; exact seqIndex_of h0 (by lia)) (by rw [← Array.getElem?_toList]; exact hy) ⟨.v x, F, μ, h, .refl _, S, hw⟩
theorem v_item_str {x : Str} {i : Int} {c : Nat} (h0 : 0 ≤ i) (hi : i < 100000) (hx : x.cps[i.toNat]? = some c) (h : k (.v (.str ⟨#[c]⟩)) μ) : cV2 C d μ (.v (.str x)) (.v (.int i)) getItem k := fun A F Z s u v hA S hu hv => by
  refine Val.i_str hu fun _ => ?_; refine Val.i_int hv fun _ => ?_
  have hlt : i.toNat < x.cps.size := (Array.getElem?_eq_some_iff.mp hx).1
  refine P.getItem_str (by simp; lia) ?_ ⟨_, F, μ, h, .refl _, S.tok _, .str _ _⟩
  have : seqIndex? i x.length = some i.toNat := seqIndex_of h0 (by show i < (x.cps.size : Int); lia)
  rw [this]; exact hx
noncomputable def SubOk (C : Cx) (μ : Mem) (w : W) : Prop := ∃ T id, typeLookup (.type T) "__getitem__" = pure (some (.builtin id)) ∧ ∀ F Z s v, Sim C F Z μ s → WAt C.P F w v → s.TypeIs v T ∧ ∀ id, v ≠ .builtin id
theorem sub_list {vs : List V} : SubOk C μ (.v (.list vs)) := ⟨"list", _, list_getitem_lookup, fun F Z s v S hv => by cases hv with | list h1 h4 => exact ⟨⟨_, S.fz _ _ h1, rfl⟩, fun _ e => by cases e⟩⟩
theorem sub_tup {vs : List V} : SubOk C μ (.v (.tup vs)) := ⟨"tuple", _, PySem.F.slot_tuple_getitem.lookup, fun F Z s v S hv => by cases hv with | tup h1 h4 => exact ⟨⟨_, S.fz _ _ h1, rfl⟩, fun _ e => by cases e⟩⟩
theorem sub_str {x : Str} : SubOk C μ (.v (.str x)) := ⟨"str", _, PySem.F.slot_str_getitem.lookup, fun F Z s v S hv => by refine Val.i_str hv fun _ => ?_; exact ⟨typeIs_str s x _, fun _ e => by cases e⟩⟩
theorem getitemInPython_no {A : Around} {F Z : PMap} {s : Shared} {w : W} {v : Value} {Q : Bool → Shared → Prop} (S : Sim C F Z μ s) (hw : WAt C.P F w v) (ok : SubOk C μ w) (h : Q false s) : wpAny C.M A (getitemInPython v) Q (fun _ _ => False) s := by
  (refine el22 ok fun T id hl hT => ?_; try clear ok)
  obtain ⟨ht, hb⟩ := hT F Z s v S hw
  have hne : v ≠ .builtin "sys.modules#opaque" := hb _
  rw [getitemInPython_of_ne hne]
  refine wpAny_bind (wpAny_specialOf ht hl ?_)
  exact wpAny_pure h
theorem cE_sub {value slice : Expr} {pos : Pos} (hsl : ∀ o i, subscripted slice false o i = operate [o, i] (getItem o i))
    (h : cE C d sc ε μ value fun ow μ₁ => cE C d sc ε μ₁ slice fun iw μ₂ => SubOk C μ₂ ow ∧ cV2 C d μ₂ ow iw getItem k) : cE C d sc ε μ (.Subscript value slice pos) k := fun A env F Z s hA hs R S => by
  rw [eval_Subscript]
  refine wpAny_bind (wpBot (h A env F Z s hA hs R S) fun o s₁ hq => ?_)
  obtain ⟨ow, F₁, μ₁, h₁, le₁, S₁, ho⟩ := hq
  refine wpAny_bind (wpAny_holding (wpBot (h₁ A env F₁ Z s₁ hA hs (R.mono le₁) S₁) fun i s₂ hq => ?_))
  obtain ⟨iw, F₂, μ₂, ⟨ok, h₂⟩, le₂, S₂, hi⟩ := hq
  refine wpAny_bind (wpAny_standAt (wpAny_bind (getitemInPython_no S₂ (ho.mono le₂) ok ?_)))
  rw [hsl]
  refine wpAny_bind (wpAny_operating (wpBot (h₂ A F₂ Z s₂ o i hA S₂ (ho.mono le₂) hi) fun r s₃ p => ?_))
  exact wpAny_bind (wpAny_letTemporaryGo (wpAny_pure (p.trans (le₁.trans le₂))))
end
end
section
open PySem PySem.Calls
section
variable {C : Cx} {d : Nat} {sc : Scope} {ε : Env1} {μ μ' : Mem} {k k' : PostW} {kb : Bool → Mem → Prop} {kl : List W → Mem → Prop}
theorem FKeys.no {es : Array DictEntry} (h : FKeys es) {x : Str} (hx : x ∉ FN) : nsFind es x = none := by
  unfold nsFind findBy
  have : es.find? (fun e => e.key.isStr x) = Option.none := by
    rw [Array.find?_eq_none]
    intro e he
    refine el22 (h e he) fun n t q hn => ?_
    rw [q]
    intro hs
    have : n = x := beq_iff_eq.mp hs
    exact hx (this ▸ hn)
  rw [this]; rfl
theorem lookIn_of {o : Obj} {es : Array DictEntry} {n : Nat} (hd : o.data = .dict es n) (hk : FKeys es) (x : Str) : PySem.W.lookIn x o = some (nsFind es x) := by
  unfold PySem.W.lookIn
  rw [hd]
  unfold nsFind findBy
  have e : es.find? (fun e => e.key.isStr x) = es.toList.find? (fun e => e.key.isStr x) := by rw [Array.find?_toList]
  dsimp only
  rw [e]
  cases es.toList.find? (fun e => e.key.isStr x) with
  | some en => rfl
  | none =>
    have : (es.toList.any fun x => x.refKey) = false := by
      rw [List.any_eq_false]
      intro en he
      refine el22 (hk en (Array.mem_toList_iff.mp he)) fun m t q _ => ?_
      simp [DictEntry.refKey, q]
    simp only [this]
    rfl
theorem Sim.inst {F Z : PMap} {s : Shared} (S : Sim C F Z μ s) {c a dd : Addr} {o : Obj} (h1 : F a = some { cls := .ref c, dict := some dd, data := .plain }) (h2 : F dd = some o) :
    PySem.W.InstAt s.heap a { cls := .ref c, dict := some dd, data := .plain } c (some o) := ⟨S.fz _ _ h1, rfl, rfl, S.fz _ _ h2⟩
theorem Sim.instM {F Z : PMap} {s : Shared} (S : Sim C F Z μ s) {c a dd : Addr} {fs : List (Str × W)} (h1 : (a, O.inst c dd) ∈ μ) (h2 : (dd, O.ns fs) ∈ μ) :
    ∃ o es n, PySem.W.InstAt s.heap a { cls := .ref c, dict := some dd, data := .plain } c (some o) ∧ s.heap.get? dd = some o ∧ o.data = .dict es n ∧ FKeys es ∧ es.size ≤ fs.length ∧ ∀ x w, fs.lookup x = some w → ∃ v, nsFind es x = some v ∧ WAt C.P F w v := by
  obtain ⟨_, _, ob, h3, rfl⟩ := S.own a _ h1
  obtain ⟨_, _, o, h4, es, n, e1, e2, e3, e4⟩ := S.own dd _ h2
  exact ⟨o, es, n, ⟨h3, rfl, rfl, h4⟩, h4, e1, e2, e3, e4⟩
structure ClsOk (C : Cx) (c : Addr) : Prop where
  ga : PySem.W.findIn C.K (.ref c) "__getattribute__" = some (some (.builtin "object.__getattribute__"))
  gt : PySem.W.findIn C.K (.ref c) "__getattr__" = some none
  sa : PySem.W.findIn C.K (.ref c) "__setattr__" = some (some (.builtin "object.__setattr__"))
  hd : PySem.W.hasDictIn C.K c = true
  po : PySem.W.plainOver C.K c = true
  mkk : PySem.W.makesIn C.K c = true
structure MethOk (C : Cx) (c : Addr) (name : Str) (f : Addr) : Prop where
  fd : PySem.W.findIn C.K (.ref c) name = some (some (.ref f))
  ty : PySem.W.typeIn C.K (.ref f) = some (.type "function")
  kp : PySem.W.keepIn C.K (.ref f) = true
theorem m_inst {c f : Addr} {fs : List (Str × V)} {name : Str} {kk : Value → List W → Mem → Prop} (ok : ClsOk C c) (mk : MethOk C c name f) (hn : name ∉ FN) (h : kk (.ref f) [.v (.inst c fs)] μ) : cMeth C d μ (.v (.inst c fs)) name kk := fun A F Z s v pl hA S hv => by
  refine Val.i_inst hv fun _ _ _ _ _ h1 h2 h4 h5 h6 => ?_
  refine PySem.W.method_fn S.kin (S.inst h1 h2) ok.ga ok.gt mk.fd mk.ty ?_ ⟨[.v (.inst c fs)], F, μ, h, .refl _, S, .cons (.inst h1 h2 h4 h5 h6) .nil⟩
  show (PySem.W.lookIn name _).map _ = _
  rw [lookIn_of h4 h5, h5.no hn]; rfl
theorem m_instM {a c dd f : Addr} {fs : List (Str × W)} {name : Str} {kk : Value → List W → Mem → Prop} (ok : ClsOk C c) (mk : MethOk C c name f) (hn : name ∉ FN) (hm : (a, O.inst c dd) ∈ μ) (hm2 : (dd, O.ns fs) ∈ μ) (h : kk (.ref f) [.l a] μ) :
    cMeth C d μ (.l a) name kk := fun A F Z s v pl hA S hv => by
  refine WAt.i_l hv ?_
  refine el36 (S.instM hm hm2) fun o es n I hg hd hk hz hl => ?_
  refine PySem.W.method_fn S.kin I ok.ga ok.gt mk.fd mk.ty ?_ ⟨[.l a], F, μ, h, .refl _, S, .cons rfl .nil⟩
  show (PySem.W.lookIn name _).map _ = _
  rw [lookIn_of hd hk, hk.no hn]; rfl
theorem findObj_val {c : Addr} {o : Obj} {name : Str} {v : Value} (ok : ClsOk C c) (hf : PySem.W.findIn C.K (.ref c) name = some none) (hl : PySem.W.lookIn name o = some (some v)) : PySem.W.findObj C.K c (some o) name = some (.value v) := by
  have hh := ok.hd
  unfold PySem.W.hasDictIn at hh
  unfold PySem.W.findObj
  cases hc : PySem.W.clsIn C.K c with
  | none => rw [hc] at hh; cases hh
  | some cd =>
    rw [hc] at hh
    have hcd : cd.hasDict = true := hh
    show (PySem.W.findIn C.K (.ref c) name).bind _ = _
    rw [hf]
    show (PySem.W.ownOf cd (some o) name).bind _ = _
    rw [show PySem.W.ownOf cd (some o) name = some (some v) by unfold PySem.W.ownOf; rw [if_pos hcd]; exact hl]
    rfl
theorem Flds.find {P : Params} {F : PMap} {es : Array DictEntry} {fs : List (Str × V)} (h : Flds P F es fs) {x : Str} {w : V} (e : fs.lookup x = some w) : ∃ v, nsFind es x = some v ∧ Val P F w v := by
  induction fs with
  | nil => cases e
  | cons p r ih =>
    obtain ⟨n, y⟩ := p
    cases h with | cons a b c =>
    by_cases q : x = n
    · subst q
      simp [List.lookup] at e; subst e
      exact ⟨_, a, b⟩
    · have : (x == n) = false := by simpa using q
      simp [List.lookup, this] at e
      exact ih c e
theorem a_inst {c : Addr} {fs : List (Str × V)} {name : Str} {x : V} (ok : ClsOk C c) (hf : PySem.W.findIn C.K (.ref c) name = some none) (hx : fs.lookup name = some x) (h : k (.v x) μ) : cAttr C d μ (.v (.inst c fs)) name k := fun A F Z s v b hA S hv => by
  refine Val.i_inst hv fun _ _ _ _ _ h1 h2 h4 h5 h6 => ?_
  refine el12 (h6.find hx) fun u hu hw => ?_
  exact PySem.W.get_value S.kin (S.inst h1 h2) ok.ga (findObj_val ok hf (by rw [lookIn_of h4 h5, hu])) hw.handed ⟨.v x, F, μ, h, .refl _, S.tok _, hw⟩
theorem a_instM {a c dd : Addr} {fs : List (Str × W)} {name : Str} {x : W} (ok : ClsOk C c) (hf : PySem.W.findIn C.K (.ref c) name = some none) (hm : (a, O.inst c dd) ∈ μ) (hm2 : (dd, O.ns fs) ∈ μ) (hx : fs.lookup name = some x) (h : k x μ) :
    cAttr C d μ (.l a) name k := fun A F Z s v b hA S hv => by
  refine WAt.i_l hv ?_
  refine el36 (S.instM hm hm2) fun o es n I hg hd hk hz hl => ?_
  refine el12 (hl name x hx) fun u hu hw => ?_
  exact PySem.W.get_value S.kin I ok.ga (findObj_val ok hf (by rw [lookIn_of hd hk, hu])) hw.handed ⟨x, F, μ, h, .refl _, S.tok _, hw⟩
noncomputable def cSetA (C : Cx) (d : Nat) (μ : Mem) (o : W) (name : Str) (w : W) (k : Mem → Prop) : Prop :=
  ∀ (A : Around) (F Z : PMap) (s : Shared) (u v : Value), Rm A d → Sim C F Z μ s → WAt C.P F o u → WAt C.P F w v → wpAny C.M A (setAttr u name v) (fun _ s' => PostU C Z k F s') (fun _ _ => False) s
theorem isStr_dec (name y : Str) (tk : Tok) : Value.isStr (.str name tk) y = decide (y = name) := by
  show (name == y) = decide (y = name)
  by_cases q : y = name
  · subst q; simp
  · have : (name == y) = false := by simpa using (Ne.symm q)
    simp [this, q]
theorem putName_at {name : Str} {h : Int} {tk : Tok} {v : Value} {o : Obj} {es : Array DictEntry} {n : Nat} (hd : o.data = .dict es n) (hk : FKeys es) (hn : name ∈ FN) :
    ∃ es' n', (Obj.putName name h (.str name tk) v o).data = .dict es' n' ∧ FKeys es' ∧ es'.size ≤ es.size + 1 ∧ (∀ x, nsFind es' x = if x = name then some v else nsFind es x) ∧ (Obj.putName name h (.str name tk) v o).isFreed = false := by
  obtain ⟨c, dd, dt, sl⟩ := o
  dsimp only at hd
  subst hd
  rw [Obj.putName_eq]
  unfold Obj.putNameByArray
  cases hi : es.findIdx? (fun e => e.key.isStr name) with
  | some i =>
    simp only [hi]
    refine ⟨es.modify i fun e => { e with val := v }, n, rfl, ?_, by rw [Array.size_modify]; lia, fun x => ?_, rfl⟩
    · intro e he
      obtain ⟨j, hj, rfl⟩ := Array.mem_iff_getElem.mp he
      rw [Array.size_modify] at hj
      rw [Array.getElem_modify]
      split
      · exact hk es[j] (Array.getElem_mem hj)
      · exact hk es[j] (Array.getElem_mem hj)
    · exact findBy_modify (fun n v => Value.isStr v n) (fun v a b => Value.isStr_inj v a b) es name x v i hi
  | none =>
    simp only [hi]
    refine ⟨es.push ⟨h, .str name tk, v⟩, n + 1, rfl, ?_, by rw [Array.size_push]; lia, fun x => ?_, rfl⟩
    · intro e he
      rcases Array.mem_push.mp he with he | rfl
      · exact hk e he
      · exact ⟨name, tk, rfl, hn⟩
    · exact findBy_push (fun n v => Value.isStr v n) es name x h _ v (fun y => isStr_dec name y tk) hi
theorem sa_inst {a c dd : Addr} {fs : List (Str × W)} {name : Str} {w : W} {k : Mem → Prop} (ok : ClsOk C c) (ht : PySem.W.takerIn C.K c name = some none) (hn : name ∈ FN) (hm : (a, O.inst c dd) ∈ μ) (hU : UpdAt dd (.ns fs) (.ns ((name, w) :: fs)) μ μ') (hz : fs.length ≤ 1000) (h : k μ') :
    cSetA C d μ (.l a) name w k := fun A F Z s u v hA S hu hv => by
  refine WAt.i_l hu ?_
  refine el36 (S.instM hm hU.mem) fun o es n I hg hd hk hsz hl => ?_
  refine PySem.W.set_plain S.kin I ok.sa ?_
  have hk2 : C.K.In ({ s with toks := s.toks + 1 } : Shared).heap := S.kin
  have I2 : PySem.W.InstAt ({ s with toks := s.toks + 1 } : Shared).heap a { cls := .ref c, dict := some dd, data := .plain } c (some o) := I
  refine PySem.W.osa_open (s := { s with toks := s.toks + 1 }) S.kin I2 ok.po ht fun b => ?_
  have hh := ok.hd
  unfold PySem.W.hasDictIn at hh
  refine el12 (PySem.W.any_some hh) fun cd hc hd' => ?_
  refine wpAny_bind (wpAny_pure (wpAny_bind (wpAny_bind (wpAny_loadPart I.at_ (wpAny_bind ((PySem.W.looks_clsIn hk2 hc).here ?_))))))
  rw [hd']
  refine wpAny_pure (a := some dd) (wpAny_bind (wpAny_pure (wpAny_bind ?_)))
  unfold nsSet
  refine wpAny_bind (wpAny_bind (wpAny_askSetting (wpAny_pure (wpAny_bind (wpAny_mkText (wpAny_bind (wpAny_loadPart hg ?_)))))))
  rw [hd]
  dsimp only
  have cc : (!es.any (·.key.isStr name) && es.any (·.refKey)) = false := by
    have : (es.any fun x => x.refKey) = false := by
      rw [Array.any_eq_false']
      intro en he
      refine el22 (hk en he) fun m t q _ => ?_
      simp [DictEntry.refKey, q]
    rw [this, Bool.and_false]
  rw [aRefKeyMayBeTheName_at, cc]
  refine el25 (putName_at (h := PyData.keyHash C.w.params name) (tk := s.toks + 1) (v := v) hd hk hn) fun es' n' e1 e2 e3 e4 e5 => ?_
  refine wpAny_updatePart hg ?_
  have hg' := Heap.get?_update_self (Obj.putName name (PyData.keyHash C.w.params name) (.str name (s.toks + 1)) v) hg e5
  refine wpAny_bind (wpAny_lookBehind hg' (by rw [e1]; exact pastItsLine_dict (by rw [sizeLine_eq]; lia)) ?_)
  refine wpAny_pure ⟨F, μ', h, .refl _, S.updM hU (Heap.SameBut.update _ _ _) hg' ⟨es', n', e1, e2, by simp only [List.length_cons]; lia, fun x w' e => ?_⟩ _⟩
  rw [e4]
  by_cases q : x = name
  · subst q
    rw [lookup_cons_self] at e; cases e
    exact ⟨v, if_pos rfl, hv⟩
  · rw [lookup_cons_ne q] at e
    rw [if_neg q]
    exact hl x w' e
end
end
section
open PySem PySem.Calls
section
variable {C : Cx} {d : Nat} {sc : Scope} {ε : Env1} {μ μ' : Mem} {k k' : PostW} {kb : Bool → Mem → Prop} {kl : List W → Mem → Prop} {kf kf' : PostF}
theorem Sim.ext {F Z : PMap} {s : Shared} (S : Sim C F Z μ s) {h' : Heap} (hk : ∀ b o, s.heap.get? b = some o → h'.get? b = some o) (t : Nat) : Sim C F Z μ { s with heap := h', toks := t } :=
  ⟨S.base, fun a o e => hk a o (S.fz a o e), fun a o e => hk a o (S.zz a o e), S.dis, fun a x hm => let ⟨h1, h2, ob, h3, h4⟩ := S.own a x hm; ⟨h1, h2, ob, hk a ob h3, h4⟩, S.nod, S.os, S.gens⟩
structure Iter (C : Cx) (F : PMap) (it : Addr) (items : List V) (J : Nat → Obj → Prop) : Prop where
  shape : ∀ i o, J i o → ∃ n vs, o.cls = .type n ∧ o.data = .fields vs ∧ (["enumerate", "zip", "dict_itemiterator", "dict_reverseitemiterator", "odict_iterator", "itertools.zip_longest", "itertools.pairwise"].contains n) = false
  item : ∀ (i : Nat) (x : V) (A : Around) (s : Shared) (Q : Option Value → Shared → Prop) (E : Value → Shared → Prop) (o : Obj), A.handled = none → PIn F s.heap → s.heap.get? it = some o → J i o → items[i]? = some x →
    (∀ v h' o' tk, Val C.P F x v → Heap.SameBut it s.heap h' → h'.get? it = some o' → J (i + 1) o' → Q (some v) { s with heap := h', toks := tk }) → wpAny C.M A (pyNext (.ref it)) Q E s
  done : ∀ (i : Nat) (A : Around) (s : Shared) (Q : Option Value → Shared → Prop) (E : Value → Shared → Prop) (o : Obj), A.handled = none → PIn F s.heap → s.heap.get? it = some o → J i o → items[i]? = none →
    (∀ h' tk, (∀ b o, b ≠ it → s.heap.get? b = some o → h'.get? b = some o) → Q none { s with heap := h', toks := tk }) → wpAny C.M A (pyNext (.ref it)) Q E s
  self : ∀ (i : Nat) (A : Around) (s : Shared) (Q : Value → Shared → Prop) (E : Value → Shared → Prop) (o : Obj), s.heap.get? it = some o → J i o → Q (.ref it) s → wpAny C.M A (pyIter (.ref it)) Q E s
inductive PostI (C : Cx) (Z : PMap) (μ : Mem) (P : List V → Prop) (F : PMap) (itv : Value) (s' : Shared) : Prop
  | mk (it : Addr) (items : List V) (J : Nat → Obj → Prop) (F' : PMap) (o : Obj) (e : itv = .ref it) (hp : P items) (le : PLe F F') (S : Sim C F' (PSet Z it o) μ s') (hz : Z it = none) (hj : J 0 o) (hi : Iter C F' it items J) : PostI C Z μ P F itv s'
noncomputable def cIter (C : Cx) (d : Nat) (μ : Mem) (x : W) (P : List V → Prop) : Prop :=
  ∀ (A : Around) (F Z : PMap) (s : Shared) (v : Value), Rm A d → Sim C F Z μ s → WAt C.P F x v →
    wpAny C.M A (pyIter v) (PostI C Z μ P F) (fun _ _ => False) s
theorem fresh_none {F Z : PMap} {s : Shared} (S : Sim C F Z μ s) : F s.heap.objs.size = none ∧ Z s.heap.objs.size = none ∧ ∀ x, (s.heap.objs.size, x) ∉ μ := by
  have fresh : ∀ {b : Addr} {ob : Obj}, s.heap.get? b = some ob → b ≠ s.heap.objs.size := fun e => Nat.ne_of_lt (Heap.lt_size e)
  refine ⟨?_, ?_, fun x hm => ?_⟩
  · cases e : F s.heap.objs.size with
    | none => rfl
    | some ob => exact absurd rfl (fresh (S.fz _ _ e))
  · cases e : Z s.heap.objs.size with
    | none => rfl
    | some ob => exact absurd rfl (fresh (S.zz _ _ e))
  · obtain ⟨_, _, ob, h3, _⟩ := S.own _ _ hm
    exact fresh h3 rfl
theorem Sim.pushZ {F Z : PMap} {s : Shared} (S : Sim C F Z μ s) {o : Obj} (hf : o.isFreed = false) : Sim C F (PSet Z s.heap.objs.size o) μ { s with heap := s.heap.push o } := by
  refine el03 (fresh_none S) fun nF nZ nM => ?_
  refine ⟨S.base, fun a ob e => Heap.get?_push_of_some _ (S.fz a ob e), fun a ob e => ?_, fun a ob e => ?_, fun a x hm => ?_, S.nod, S.os, S.gens⟩
  · by_cases q : a = s.heap.objs.size
    · subst q; rw [PSet.self] at e; cases e; exact Heap.get?_push_size _ hf
    · rw [PSet.ne _ _ q] at e; exact Heap.get?_push_of_some _ (S.zz a ob e)
  · by_cases q : a = s.heap.objs.size
    · subst q; exact nF
    · rw [PSet.ne _ _ q] at e; exact S.dis a ob e
  · obtain ⟨h1, h2, ob, h3, h4⟩ := S.own a x hm
    have q : a ≠ s.heap.objs.size := Nat.ne_of_lt (Heap.lt_size h3)
    exact ⟨h1, by rw [PSet.ne _ _ q]; exact h2, ob, Heap.get?_push_of_some _ h3, h4⟩
theorem it_list {vs : List V} : cIter C d μ (.v (.list vs)) (· = vs) := fun A F Z s v hA S hv => by
  refine Val.i_list hv fun a ws n h1 h4 => ?_
  have hne : a ≠ s.heap.objs.size := Nat.ne_of_lt (Heap.lt_size (S.fz _ _ h1))
  refine wpAny_pyIter_list (S.isL h1).isList ⟨s.heap.objs.size, vs, fun i o => o.cls = .type "list_iterator" ∧ o.data = .fields #[.ref a, .int i 0], F, _, rfl, rfl, .refl _, S.pushZ rfl, (fresh_none S).2.1, ⟨rfl, rfl⟩, ?_⟩
  refine ⟨fun i o h => ⟨_, _, h.1, h.2, by decide⟩, fun i x A s' Q E o hh hF ho hJ hx hQ => ?_, fun i A s' Q E o hh hF ho hJ hx hQ => ?_, fun i A s' Q E o ho hJ h => wpAny_pyIter_listiter ⟨o, ho, hJ.1, hJ.2⟩ h⟩
  · refine el12 (h4.get hx) fun y hy hw => ?_
    refine wpAny_pyNext_list_item ⟨o, ho, hJ.1, hJ.2⟩ ⟨_, hF _ _ h1, rfl, n, rfl⟩ (by rw [← Array.getElem?_toList]; exact hy) fun h' hit hs => ?_
    (refine el13 hit fun o' ho' hc' hd' => ?_; try clear hit)
    exact hQ y h' o' s'.toks hw hs ho' ⟨hc', hd'⟩
  · refine wpAny_pyNext_list_end hh ⟨o, ho, hJ.1, hJ.2⟩ ⟨_, hF _ _ h1, rfl, n, rfl⟩ ?_ fun h' hs => hQ h' s'.toks hs
    have e : ws.size = vs.length := by rw [← Array.length_toList, h4.toList]
    rw [Array.getElem?_eq_none_iff, e]
    exact List.getElem?_eq_none_iff.mp hx
theorem it_tup {vs : List V} : cIter C d μ (.v (.tup vs)) (· = vs) := fun A F Z s v hA S hv => by
  refine Val.i_tup hv fun a ws n h1 h4 => ?_
  have hne : a ≠ s.heap.objs.size := Nat.ne_of_lt (Heap.lt_size (S.fz _ _ h1))
  refine wpAny_pyIter_tuple ⟨_, S.fz _ _ h1, rfl, n, rfl⟩ ⟨s.heap.objs.size, vs, fun i o => o.cls = .type "tuple_iterator" ∧ o.data = .fields #[.ref a, .int i 0], F, _, rfl, rfl, .refl _, S.pushZ rfl, (fresh_none S).2.1, ⟨rfl, rfl⟩, ?_⟩
  refine ⟨fun i o h => ⟨_, _, h.1, h.2, by decide⟩, fun i x A s' Q E o hh hF ho hJ hx hQ => ?_, fun i A s' Q E o hh hF ho hJ hx hQ => ?_, fun i A s' Q E o ho hJ h => wpAny_pyIter_tupleiter ⟨o, ho, hJ.1, hJ.2⟩ h⟩
  · refine el12 (h4.get hx) fun y hy hw => ?_
    refine wpAny_pyNext_tuple_item ⟨o, ho, hJ.1, hJ.2⟩ ⟨_, hF _ _ h1, rfl, n, rfl⟩ (by rw [← Array.getElem?_toList]; exact hy) fun h' hit hs => ?_
    (refine el13 hit fun o' ho' hc' hd' => ?_; try clear hit)
    exact hQ y h' o' s'.toks hw hs ho' ⟨hc', hd'⟩
  · refine wpAny_pyNext_tuple_end hh ⟨o, ho, hJ.1, hJ.2⟩ ⟨_, hF _ _ h1, rfl, n, rfl⟩ ?_ fun h' hs => hQ h' s'.toks hs
    have e : ws.size = vs.length := by rw [← Array.length_toList, h4.toList]
    rw [Array.getElem?_eq_none_iff, e]
    exact List.getElem?_eq_none_iff.mp hx
noncomputable def cAsg (C : Cx) (d : Nat) (sc : Scope) (ε : Env1) (μ : Mem) (t : Expr) (w : W) (k : Env1 → Mem → Prop) : Prop :=
  ∀ (A : Around) (env : Env) (F Z : PMap) (s : Shared) (v : Value), Rm A d → env.scope = sc → SimS C F Z μ s env ε → WAt C.P F w v →
    wpAny C.M A (assign t env v) (fun _ s' => PostA C Z env k F s') (fun _ _ => False) s
theorem asg_name {x : Str} {pos : Pos} {w : W} {ke : Env1 → Mem → Prop} (hk : sc.names.lookup x = some .local ∨ sc.names.lookup x = some .cell) (h : ke ((x, w) :: ε) μ) : cAsg C d sc ε μ (.Name x pos) w ke := fun A env F Z s v hA hs S hw =>
  wpAny_assign_Name (S.store hw (by subst hs; exact hk) fun s' S' => ⟨_, μ, F, h, .refl _, S'⟩)
theorem cS1_asg {t e : Expr} {pos : Pos} (h : cE C d sc ε μ e fun w μ₁ => cAsg C d sc ε μ₁ t w fun ε₂ μ₂ => kf .next ε₂ μ₂)
    (hsw : ∀ env : Env, env.scope = sc → swapsWithSole [t] e pos.line env = pure false) (hst : ∀ env : Env, env.scope = sc → swappedStores [t] e env = pure none)
    (he : ∀ env, (assignEach [t] env).map (·.2) = [assign t env]) : cS1 C d sc ε μ (.Assign [t] e pos) kf := fun A env F Z s hA hs S => by
  refine wpAny_Assign_stores (h.inS hA hs S fun v s' w F' μ' hk' le S' hw => ?_) (hsw env hs) (hst env hs)
  rw [he]
  exact wpBot (hk' A env F' Z s' v hA hs S' hw) fun _ s₂ ⟨ε₂, μ₂, F₂, h2, le2, S2⟩ => ⟨.next, ε₂, μ₂, F₂, h2, rfl, le.trans le2, S2⟩
theorem cS1_asg2 {t₁ t₂ e : Expr} {pos : Pos} (h : cE C d sc ε μ e fun w μ₁ => cAsg C d sc ε μ₁ t₁ w fun ε₂ μ₂ => cAsg C d sc ε₂ μ₂ t₂ w fun ε₃ μ₃ => kf .next ε₃ μ₃)
    (hst : ∀ env : Env, env.scope = sc → swappedStores [t₁, t₂] e env = pure none)
    (he : ∀ env, (assignEach [t₁, t₂] env).map (·.2) = [assign t₁ env, assign t₂ env]) : cS1 C d sc ε μ (.Assign [t₁, t₂] e pos) kf := fun A env F Z s hA hs S => by
  refine wpAny_Assign_two (h.inS hA hs S fun v s' w F' μ' hk' le S' hw => ?_) (he env) (hst env hs)
  refine wpBot (hk' A env F' Z s' v hA hs S' hw) fun _ s₂ hq => ?_
  obtain ⟨ε₂, μ₂, F₂, h2, le2, S2⟩ := hq
  exact wpBot (h2 A env F₂ Z s₂ v hA hs S2 (hw.mono le2)) fun _ s₃ ⟨ε₃, μ₃, F₃, h3, le3, S3⟩ => ⟨.next, ε₃, μ₃, F₃, h3, rfl, (le.trans le2).trans le3, S3⟩
theorem cS1_expr {e : Expr} {pos : Pos} (h : cE C d sc ε μ e fun _ μ' => kf .next ε μ') (hsw : ∀ env : Env, env.scope = sc → swapsWith e none pos.line env = pure false) (hk : sc.kind = .function) :
    cS1 C d sc ε μ (.Expr e pos) kf := fun A env F Z s hA hs S =>
  wpAny_Expr_any (h.inS hA hs S fun v s' w F' μ' hk' le S' hw => ⟨.next, ε, μ', F', hk', rfl, le, S'⟩) (by unfold interactive; rw [hs, hk]; rfl) (hsw env hs)
noncomputable def Keeps (ε ε' : Env1) (μ μ' : Mem) : Prop := (∀ x w, ε.lookup x = some w → ε'.lookup x = some w) ∧ μ.Sublist μ'
noncomputable def forK (Inv : Nat → Env1 → Mem → Prop) (i : Nat) (kf : PostF) : PostF := fun fl ε μ => match fl with
  | .next => ∃ ε' μ', Keeps ε' ε μ' μ ∧ Inv (i + 1) ε' μ'
  | .cont => ∃ ε' μ', Keeps ε' ε μ' μ ∧ Inv (i + 1) ε' μ'
  | .brk => kf .next ε μ
  | .ret w => kf (.ret w) ε μ
noncomputable def cFor (C : Cx) (d : Nat) (sc : Scope) (ε : Env1) (μ : Mem) (t : Expr) (body : List Stmt) (items : List V) (kf : PostF) : Prop :=
  ∃ Inv : Nat → Env1 → Mem → Prop, Inv 0 ε μ ∧
    (∀ i x ε' μ', items[i]? = some x → Inv i ε' μ' → cAsg C d sc ε' μ' t (.v x) fun ε₁ μ₁ => cS C d sc ε₁ μ₁ body (forK Inv i kf)) ∧
    ∀ ε' μ', Inv items.length ε' μ' → kf .next ε' μ'
theorem PUn.pset {Z S : PMap} {a : Addr} {o : Obj} : PUn (PSet Z a o) S = PSet (PUn Z S) a o := by
  funext b
  unfold PUn PSet
  by_cases e : b = a
  · subst e; simp
  · simp [e]
theorem PSet.twice {Z : PMap} {a : Addr} {o o' : Obj} : PSet (PSet Z a o) a o' = PSet Z a o' := by
  funext b
  unfold PSet
  by_cases e : b = a <;> simp [e]
theorem EnvRel.le {F Z Z' : PMap} {env : Env} (h : PLe Z Z') (R : EnvRel C F Z env ε) : EnvRel C F Z' env ε :=
  ⟨R.kind, R.glob, R.blt, let ⟨o, es, n, a, b⟩ := R.ns; ⟨o, es, n, h _ _ a, b⟩, fun x k => let ⟨c, o, u, a, b, r⟩ := R.cell x k; ⟨c, o, u, a, h _ _ b, r⟩⟩
theorem EnvRel.own {F Y Y' Z S : PMap} {env : Env} (R : EnvRel C F Y env ε) (O : Own Z S env) (h : ∀ a ob o, S a = some o → Y a = some ob → Y' a = some ob) : EnvRel C F Y' env ε :=
  ⟨R.kind, R.glob, R.blt, el34 R.ns fun o es n h1 h2 h3 h4 => O.loc.elim fun _ hL => ⟨o, es, n, h _ _ _ hL h1, h2, h3, h4⟩,
    fun x k => el34 (R.cell x k) fun c o u h1 h2 h3 h4 => (O.cell x c h1).1.elim fun _ hc => ⟨c, o, u, h1, h _ _ _ hc h2, h3, h4⟩⟩
theorem Own.noS {Z S : PMap} {env : Env} (h : Own Z S env) {it : Addr} {o : Obj} (e : Z it = some o) : S it = none := by
  cases q : S it with
  | none => rfl
  | some ob => have := h.apart _ _ q; rw [e] at this; cases this
theorem ne_of_none {S : PMap} {a it : Addr} {o : Obj} (h : S it = none) (e : S a = some o) : a ≠ it := fun q => by rw [q, h] at e; cases e
theorem PUn.noBoth {Z S : PMap} {it : Addr} (h : PUn Z S it = none) : Z it = none ∧ S it = none := by
  unfold PUn at h
  cases e : Z it with
  | none => rw [e] at h; exact ⟨rfl, h⟩
  | some _ => rw [e] at h; cases h
theorem PUn.none_of {Z S : PMap} {it : Addr} (h1 : Z it = none) (h2 : S it = none) : PUn Z S it = none := by unfold PUn; rw [h1, h2]; rfl
theorem PLe.noLe {Y Y' : PMap} (h : PLe Y' Y) {a : Addr} (e : Y a = none) : Y' a = none := by
  cases q : Y' a with
  | none => rfl
  | some ob => rw [h _ _ q] at e; cases e
theorem Sim.letGo {F Y Y' : PMap} {s : Shared} (S : Sim C F Y μ s) {it : Addr} {o : Obj} (hy : Y it = some o) (hy' : Y' it = none) (le : PLe Y' Y) {h' : Heap} (hk : ∀ b o, b ≠ it → s.heap.get? b = some o → h'.get? b = some o) (t : Nat) :
    Sim C F Y' μ { s with heap := h', toks := t } :=
  ⟨S.base, fun a ob e => hk a ob (ne_of_none (S.dis it o hy) e) (S.fz a ob e), fun a ob e => hk a ob (ne_of_none hy' e) (S.zz a ob (le a ob e)), fun a ob e => S.dis a ob (le a ob e),
    fun a x hm => (S.own a x hm).elim fun h1 hh => hh.elim fun h2 hh => el12 hh fun ob h3 h4 => ⟨h1, le.noLe h2, ob, hk a ob (fun q => by rw [q, hy] at h2; cases h2) h3, h4⟩, S.nod, S.os, S.gens⟩
theorem SimS.leave {F Z : PMap} {s : Shared} {env : Env} {it : Addr} {o : Obj} (SS : SimS C F (PSet Z it o) μ s env ε) (hz : Z it = none) {h' : Heap} (hk : ∀ b o, b ≠ it → s.heap.get? b = some o → h'.get? b = some o) (t : Nat) :
    SimS C F Z μ { s with heap := h', toks := t } env ε := el13 SS fun S₅ a1 a2 a3 => by
  have sit : S₅ it = none := a3.noS (PSet.self ..)
  rw [PUn.pset] at a1 a2
  refine ⟨S₅, a1.letGo (PSet.self ..) (PUn.none_of hz sit) (fun a ob e => ?_) hk t, a2.own a3 fun a ob o' hs e => ?_, fun a ob e => ?_, a3.loc, a3.cell, a3.inj⟩
  · rw [PSet.ne _ _ (ne_of_none (PUn.none_of hz sit) e)]; exact e
  · rw [PSet.ne _ _ (ne_of_none sit hs)] at e; exact e
  · have := a3.apart a ob e
    rw [PSet.ne _ _ (ne_of_none sit e)] at this; exact this
theorem SimS.item {F Z : PMap} {s : Shared} {env : Env} {it : Addr} {o o' : Obj} (SS : SimS C F (PSet Z it o) μ s env ε) {h' : Heap} (hs : Heap.SameBut it s.heap h') (ho : h'.get? it = some o') (t : Nat) :
    SimS C F (PSet Z it o') μ { s with heap := h', toks := t } env ε := el13 SS fun S₅ a1 a2 a3 => by
  have sit : S₅ it = none := a3.noS (PSet.self ..)
  have q := a1.setZ (a := it) (o := o) (by rw [PUn.pset]; exact PSet.self ..) hs ho t
  refine ⟨S₅, ?_, a2.own a3 fun a ob o' hs e => ?_, fun a ob e => ?_, a3.loc, a3.cell, a3.inj⟩
  · rw [PUn.pset, PSet.twice] at q; rw [PUn.pset]; exact q
  · rw [PUn.pset, PSet.ne _ _ (ne_of_none sit hs)] at e ⊢; exact e
  · have := a3.apart a ob e
    rw [PSet.ne _ _ (ne_of_none sit e)] at this ⊢; exact this
theorem SimS.take {F F' Z S : PMap} {s : Shared} {env : Env} {it : Addr} {o : Obj} (a1 : Sim C F' (PSet (PUn Z S) it o) μ s) (hz : PUn Z S it = none) (R : EnvRel C F (PUn Z S) env ε) (O : Own Z S env) (le : PLe F F') : SimS C F' (PSet Z it o) μ s env ε := by
  have sit := (PUn.noBoth hz).2
  refine ⟨S, by rw [PUn.pset]; exact a1, (R.mono le).own O fun a ob o' hs e => ?_, fun a ob e => ?_, O.loc, O.cell, O.inj⟩
  · rw [PUn.pset, PSet.ne _ _ (ne_of_none sit hs)]; exact e
  · rw [PSet.ne _ _ (ne_of_none sit e)]; exact O.apart a ob e
theorem Iter.lotGo {F : PMap} {it : Addr} {items : List V} {J : Nat → Obj → Prop} (hi : Iter C F it items J) {A : Around} {t : Expr} {v : Value} {i : Nat} {o : Obj} (hJ : J i o) {Q : Unit → Shared → Prop} {E : Value → Shared → Prop} {s : Shared} (h3 : s.heap.get? it = some o) (hQ : Q () s) :
    wpAny C.M A (letOwnedTupleGo t (.ref it) v) Q E s := el23 (hi.shape _ _ hJ) fun nm vs c1 c2 c3 => by
  have core : ∀ (b : Addr) (es : List Expr) c p, wpAny C.M A (letOwnedTupleGo (.Tuple es c p) (.ref it) (.ref b)) Q E s := fun b es c p => by
    refine wpAny_bind (wpAny_load h3 ?_)
    rw [c1, c2]
    show wpAny C.M A (if (_ && _) = true then _ else _) Q E s
    rw [c3, Bool.false_and, if_neg Bool.false_ne_true]
    exact wpAny_pure hQ
  cases t with
  | Tuple es c p => cases v with
    | ref b => exact core b es c p
    | _ => exact wpAny_pure hQ
  | List es p => cases v with
    | ref b => exact core b es 0 p
    | _ => exact wpAny_pure hQ
  | _ => exact wpAny_pure hQ
inductive ForI (C : Cx) (Z F₂ : PMap) (it : Addr) (items : List V) (J : Nat → Obj → Prop) (Inv : Nat → Env1 → Mem → Prop) (env : Env) (n : Nat) (s : Shared) : Prop
  | mk (i : Nat) (ε : Env1) (μ : Mem) (F : PMap) (o : Obj) (hn : n = items.length - i) (hi : i ≤ items.length) (le : PLe F₂ F) (SS : SimS C F (PSet Z it o) μ s env ε) (hJ : J i o) (hInv : Inv i ε μ) : ForI C Z F₂ it items J Inv env n s
theorem cS1_for {t iter : Expr} {body : List Stmt} {pos : Pos} (hs : ∀ env x, foldedSetIterable iter env x = pure x)
    (h : cE C d sc ε μ iter fun w μ₁ => ∃ P, cIter C d μ₁ w P ∧ ∀ items, P items → cFor C d sc ε μ₁ t body items kf) : cS1 C d sc ε μ (.For t iter body [] pos) kf := fun A env F Z s hA hsc SS => by
  refine wpAny_For (el13 SS fun S₀ hS hR hO => ?_) (hs env)
  refine wpBot (h A env F _ s hA hsc hR hS) fun v s₁ hq => hq.casesOn fun w F₁ μ₁ hq le₁ S₁ hw => el12 hq fun P hI hF => ?_
  refine wpBot (hI A F₁ _ s₁ v hA S₁ hw) fun itv s₂ hq => hq.casesOn fun it items J F₂ o e hP le₂ S₂ hz hJ hit => ?_
  subst e
  refine el13 (hF items hP) fun Inv inv0 turn fin => ?_
  clear hF hI h hq hS S₁ hw hP
  refine codeAny_loop' rfl (ForI C Z F₂ it items J Inv env) (fun n s' hI => hI.casesOn fun i ε' μ' F' o' hn hi le' SS hJ' hInv => ?_) items.length
    ⟨0, ε, μ₁, F₂, o, rfl, Nat.zero_le _, .refl _, .take S₂ hz hR hO (le₁.trans le₂), hJ, inv0⟩
  have zit := (PUn.noBoth hz).1
  refine kpost fun K hK => ?_
  refine wpAny_noted (wpAny_bind (wpAny_standAt (wpAny_bind (kpost fun K' hK' => wpAny_onRaise ?_))))
  rw [show A.under (.forLoop t (.ref it) body [] env) = A from Around.under_of_weight rfl]
  have hto : s'.heap.get? it = some o' := el13 SS fun _ a _ _ => a.zz _ _ (by rw [PUn.pset]; exact PSet.self ..)
  have fz2 : PIn F₂ s'.heap := fun a ob e => el13 SS fun _ q _ _ => q.fz _ _ (le' a ob e)
  have hle : PLe F F' := (le₁.trans le₂).trans le'
  rcases Nat.lt_or_ge i items.length with hlt | hge
  · have hx : items[i]? = some items[i] := List.getElem?_eq_getElem hlt
    refine hit.item i items[i] A s' _ _ o' hA.hd fz2 hto hJ' hx fun v h' o'' tk hv hsb ho'' hJ'' => hK' _ _ ?_
    refine wpAny_bind (hit.lotGo hJ'' ho'' (wpAny_bind ?_))
    refine wpBot (turn i items[i] ε' μ' hx hInv A env F' _ _ v hA hsc (SS.item hsb ho'' tk) (Val.mono le' hv)) fun _ s₄ hq => hq.casesOn fun ε₁ μ₃ F₃ hb le₃ S₃ => wpAny_bind ?_
    refine wpBot (hb A env F₃ _ s₄ hA hsc S₃) fun f s₅ hq => hq.casesOn fun fl ε₂ μ₂ F₄ hk hfl le₄ S₄ => ?_
    have le5 : PLe F' F₄ := le₃.trans le₄
    have back : SimS C F₄ Z μ₂ s₅ env ε₂ := S₄.leave (h' := s₅.heap) zit (fun _ _ _ e => e) s₅.toks
    have on : ∀ ε₃ μ₄, (∀ x w, ε₃.lookup x = some w → ε₂.lookup x = some w) → μ₄.Sublist μ₂ → Inv (i + 1) ε₃ μ₄ → K (.again (.forLoop t (.ref it) body [] env)) s₅ := fun ε₃ μ₄ k1 k2 k3 =>
      hK _ _ (.inl ⟨rfl, items.length - (i + 1), hn ▸ Nat.sub_lt_sub_left hlt (Nat.lt_succ_self i), i + 1, ε₃, μ₄, F₄, o'', rfl, hlt, le'.trans le5, S₄.weaken k1 k2, hJ'', k3⟩)
    cases fl with
    | next => cases hfl; exact el22 hk fun ε₃ μ₄ k k3 => wpAny_pure (on ε₃ μ₄ k.1 k.2 k3)
    | cont => cases hfl; exact el22 hk fun ε₃ μ₄ k k3 => wpAny_pure (on ε₃ μ₄ k.1 k.2 k3)
    | brk => cases hfl; exact wpAny_pure (hK _ _ ⟨.next, ε₂, μ₂, F₄, hk, rfl, hle.trans le5, back⟩)
    | ret w => exact el12 hfl fun vr e hw' => by subst e; exact wpAny_pure (hK _ _ ⟨.ret w, ε₂, μ₂, F₄, hk, ⟨vr, rfl, hw'⟩, hle.trans le5, back⟩)
  · have hie : i = items.length := Nat.le_antisymm hi hge
    refine hit.done i A s' _ _ o' hA.hd fz2 hto hJ' (List.getElem?_eq_none_iff.mpr hge) fun h' tk hk => hK' _ _ ?_
    exact wpAny_pure (hK _ _ (.inr ⟨rfl, codeAny_block (wpAny_execs_nil ⟨.next, ε', μ', F', fin ε' μ' (hie ▸ hInv), rfl, hle, SS.leave zit hk tk⟩)⟩))
end
end
section
open PySem PySem.Calls
section
variable {C : Cx} {d : Nat} {sc : Scope} {ε : Env1} {μ μ' : Mem} {k k' : PostW} {kb : Bool → Mem → Prop} {kl : List W → Mem → Prop} {kf kf' : PostF}
noncomputable def whK (Inv : Nat → Env1 → Mem → Prop) (n : Nat) (kf : PostF) : PostF := fun fl ε μ => match fl with
  | .next => ∃ m ε' μ', m < n ∧ Keeps ε' ε μ' μ ∧ Inv m ε' μ'
  | .cont => ∃ m ε' μ', m < n ∧ Keeps ε' ε μ' μ ∧ Inv m ε' μ'
  | .brk => kf .next ε μ
  | .ret w => kf (.ret w) ε μ
theorem cS1_while {test : Expr} {body : List Stmt} {pos : Pos} (Inv : Nat → Env1 → Mem → Prop) (n₀ : Nat) (h0 : Inv n₀ ε μ)
    (turn : ∀ n ε' μ', Inv n ε' μ' → cT C d sc ε' μ' test fun b μ₂ => (b = true → cS C d sc ε' μ₂ body (whK Inv n kf)) ∧ (b = false → kf .next ε' μ₂)) :
    cS1 C d sc ε μ (.While test body [] pos) kf := fun A env F Z s hA hs SS => by
  refine wpAny_While ?_
  refine codeAny_whileLoop (fun n s' => ∃ ε' μ' F', PLe F F' ∧ SimS C F' Z μ' s' env ε' ∧ Inv n ε' μ') (fun n s' hI => ?_) n₀ ⟨ε, μ, F, .refl _, SS, h0⟩
  (refine el33 hI fun ε' μ' F' le SS' hInv => ?_; try clear hI)
  refine cT.inS (turn n ε' μ' hInv) hA hs SS' fun b s₂ F₂ μ₂ hk le₂ S₂ => ?_
  cases b with
  | true =>
    refine wpBot (hk.1 rfl A env F₂ Z s₂ hA hs S₂) fun f s₃ hq => ?_
    obtain ⟨fl, ε₃, μ₃, F₃, hk3, hfl, le₃, S₃⟩ := hq
    cases fl with
    | next =>
      cases hfl
      (refine el33 hk3 fun m ε₄ μ₄ hm qq4 k3 => ?_; try clear hk3; rcases qq4 with ⟨k1, k2⟩)
      exact ⟨m, hm, ε₄, μ₄, F₃, (le.trans le₂).trans le₃, S₃.weaken k1 k2, k3⟩
    | cont =>
      cases hfl
      (refine el33 hk3 fun m ε₄ μ₄ hm qq4 k3 => ?_; try clear hk3; rcases qq4 with ⟨k1, k2⟩)
      exact ⟨m, hm, ε₄, μ₄, F₃, (le.trans le₂).trans le₃, S₃.weaken k1 k2, k3⟩
    | brk => cases hfl; exact ⟨.next, ε₃, μ₃, F₃, hk3, rfl, (le.trans le₂).trans le₃, S₃⟩
    | ret w => (refine el12 hfl fun v qq1 hw => ?_; try clear hfl; subst qq1); exact ⟨.ret w, ε₃, μ₃, F₃, hk3, ⟨v, rfl, hw⟩, (le.trans le₂).trans le₃, S₃⟩
  | false => exact wpAny_execs_nil ⟨.next, ε', μ₂, F₂, hk.2 rfl, rfl, le.trans le₂, S₂⟩
theorem SimS.ext {F Z : PMap} {s : Shared} {env : Env} (SS : SimS C F Z μ s env ε) {h' : Heap} (hk : ∀ b o, s.heap.get? b = some o → h'.get? b = some o) (t : Nat) : SimS C F Z μ { s with heap := h', toks := t } env ε :=
  let ⟨S₀, a, b, c⟩ := SS; ⟨S₀, a.ext hk t, b, c⟩
theorem SimS.sim {F Z : PMap} {s : Shared} {env : Env} (SS : SimS C F Z μ s env ε) : Sim C F Z μ s := let ⟨S₀, a, b, c⟩ := SS; a.dropZ
theorem asg_tup2 {x y : Str} {px py pos : Pos} {n : Nat} {a b : V} {ke : Env1 → Mem → Prop} (hx : sc.names.lookup x = some .local ∨ sc.names.lookup x = some .cell) (hy : sc.names.lookup y = some .local ∨ sc.names.lookup y = some .cell)
    (h : ke ((y, .v b) :: (x, .v a) :: ε) μ) : cAsg C d sc ε μ (.Tuple [.Name x px, .Name y py] n pos) (.v (.tup [a, b])) ke := fun A env F Z s v hA hs SS hw => by
  refine Val.i_tup hw fun ad ws m h1 h4 => ?_
  have e : ∃ u w, ws = #[u, w] ∧ Val C.P F a u ∧ Val C.P F b w := by
    obtain ⟨l⟩ := ws
    cases h4 with | cons p q => cases q with | cons p2 q2 => refine Vals.i_nil q2 ?_; exact ⟨_, _, rfl, p, p2⟩
  (refine el23 e fun u w qq2 hu hw => ?_; try clear e; subst qq2)
  refine wpAny_assign_Tuple hA.hd ⟨_, SS.sim.fz _ _ h1, rfl, m, rfl⟩ rfl rfl fun h' hk => ?_
  have SS' := SS.ext (h' := h') (fun b o e => hk b o (Nat.ne_of_lt (Heap.lt_size e)) e) s.toks
  show wpAny C.M A (assignInOrder [assign (.Name x px) env, assign (.Name y py) env] [u, w]) _ _ _
  refine wpAny_assignInOrder_more ?_
  refine wpAny_assign_Name (SS'.store (w := .v a) hu (by subst hs; exact hx) fun s₂ S₂ => ?_)
  refine wpAny_assignInOrder_more ?_
  refine wpAny_assign_Name (S₂.store (w := .v b) hw (by subst hs; exact hy) fun s₃ S₃ => ?_)
  exact wpAny_assignInOrder_none ⟨_, μ, F, h, .refl _, S₃⟩
end
end
section
open PySem PySem.Calls
section
variable {C : Cx} {d : Nat} {sc : Scope} {ε : Env1} {μ μ' : Mem} {k k' : PostW} {kb : Bool → Mem → Prop} {kl : List W → Mem → Prop} {kf kf' : PostF}
theorem asg_list2 {x y : Str} {px py pos : Pos} {n : Nat} {l : Addr} {a b : W} {ke : Env1 → Mem → Prop} (hm : (l, O.list [a, b]) ∈ μ) (hx : sc.names.lookup x = some .local ∨ sc.names.lookup x = some .cell) (hy : sc.names.lookup y = some .local ∨ sc.names.lookup y = some .cell)
    (h : ke ((y, b) :: (x, a) :: ε) μ) : cAsg C d sc ε μ (.Tuple [.Name x px, .Name y py] n pos) (.l l) ke := fun A env F Z s v hA hs SS hw => by
  refine WAt.i_l hw ?_
  refine el22 (SS.sim.isLm hm) fun its m hl hws => ?_
  have e : ∃ u w, its = #[u, w] ∧ WAt C.P F a u ∧ WAt C.P F b w := by
    obtain ⟨l⟩ := its
    refine el23 (hws.inv2) fun u w e h1 h2 => ?_
    exact ⟨u, w, by congr 1, h1, h2⟩
  (refine el23 e fun u w qq2 hu hw => ?_; try clear e; subst qq2)
  have hun : assign (.Tuple [.Name x px, .Name y py] n pos) env (.ref l) = (do standAt pos; unpack (.ref l) (assignEach [.Name x px, .Name y py] env)) := rfl
  rw [hun]
  refine wpAny_bind (wpAny_standAt ?_)
  unfold unpack
  refine wpAny_bind (wpAny_holding ?_)
  refine PySem.W.kun_itemsOf (items := #[u, w]) hA.hd (IsL.isList hl) fun h' hk => ?_
  have SS' := SS.ext (h' := h') (fun b o e => hk b o (Nat.ne_of_lt (Heap.lt_size e)) e) s.toks
  show wpAny C.M A (assignInOrder [assign (.Name x px) env, assign (.Name y py) env] [u, w]) _ _ _
  refine wpAny_assignInOrder_more ?_
  refine wpAny_assign_Name (SS'.store hu (by subst hs; exact hx) fun s₂ S₂ => ?_)
  refine wpAny_assignInOrder_more ?_
  refine wpAny_assign_Name (S₂.store hw (by subst hs; exact hy) fun s₃ S₃ => ?_)
  exact wpAny_assignInOrder_none ⟨_, μ, F, h, .refl _, S₃⟩
theorem cS1_swap {x y : Str} {px py pt pos : Pos} {n : Nat} {e : Expr} (h : cE C d sc ε μ e fun w μ₁ => ∃ a b, w = .v (.tup [a, b]) ∧ kf .next ((x, .v a) :: (y, .v b) :: ε) μ₁)
    (hsw : ∀ env : Env, env.scope = sc → swapsWithSole [.Tuple [.Name x px, .Name y py] n pt] e pos.line env = pure false)
    (hst : ∀ env : Env, env.scope = sc → swappedStores [.Tuple [.Name x px, .Name y py] n pt] e env = pure (some [x, y]))
    (hx : sc.names.lookup x = some .local ∨ sc.names.lookup x = some .cell) (hy : sc.names.lookup y = some .local ∨ sc.names.lookup y = some .cell) :
    cS1 C d sc ε μ (.Assign [.Tuple [.Name x px, .Name y py] n pt] e pos) kf := fun A env F Z s hA hs SS => by
  rw [exec_Assign_arm]
  refine wpAny_bind (wpAny_standAt ?_)
  rw [hsw env hs, hst env hs]
  refine wpAny_bind (wpAny_pure ?_)
  rw [if_neg Bool.false_ne_true]
  refine wpAny_bind (h.inS hA hs SS fun v s' w F' μ' hk' le S' hw => ?_)
  (refine el22 hk' fun a b qq2 hk => ?_; try clear hk'; subst qq2)
  refine wpAny_bind (wpAny_pure ?_)
  unfold assignStores
  refine Val.i_tup hw fun ad ws m h1 h4 => ?_
  have e : ∃ u w, ws = #[u, w] ∧ Val C.P F' a u ∧ Val C.P F' b w := by
    obtain ⟨l⟩ := ws
    cases h4 with | cons p q => cases q with | cons p2 q2 => refine Vals.i_nil q2 ?_; exact ⟨_, _, rfl, p, p2⟩
  (refine el23 e fun u w qq2 hu hw => ?_; try clear e; subst qq2)
  refine wpAny_bind (wpAny_rule (wpAny_bind ?_))
  refine wpAny_unpackItems_tuple (items := #[u, w]) hA.hd ⟨_, S'.sim.fz _ _ h1, rfl, m, rfl⟩ fun h' hk' => ?_
  have SS' := S'.ext (h' := h') (fun b o e => hk' b o (Nat.ne_of_lt (Heap.lt_size e)) e) s'.toks
  refine wpAny_bind ?_
  show wpAny C.M A (assignInOrder [bindName env y, bindName env x] [w, u]) _ _ _
  refine wpAny_assignInOrder_more (wpAny_bindName (SS'.store (w := .v b) hw (by subst hs; exact hy) fun s₂ S₂ => ?_))
  refine wpAny_assignInOrder_more (wpAny_bindName (S₂.store (w := .v a) hu (by subst hs; exact hx) fun s₃ S₃ => ?_))
  exact wpAny_assignInOrder_none (wpAny_pure ⟨.next, _, _, F', hk, rfl, le, S₃⟩)
noncomputable def cSetI (C : Cx) (d : Nat) (μ : Mem) (o i w : W) (k : Mem → Prop) : Prop :=
  ∀ (A : Around) (F Z : PMap) (s : Shared) (a b v : Value), Rm A d → Sim C F Z μ s → WAt C.P F o a → WAt C.P F i b → WAt C.P F w v →
    wpAny C.M A (setItem a b v) (fun _ s' => PostU C Z k F s') (fun _ _ => False) s
theorem asg_sub {oe ie : Expr} {pos : Pos} {w : W} {ke : Env1 → Mem → Prop} (h : cE C d sc ε μ oe fun ow μ₁ => cE C d sc ε μ₁ ie fun iw μ₂ => cSetI C d μ₂ ow iw w fun μ₃ => ke ε μ₃) :
    cAsg C d sc ε μ (.Subscript oe ie pos) w ke := fun A env F Z s v hA hs SS hw => by
  rw [assign_Subscript]
  refine wpAny_bind (wpAny_holding (h.inS hA hs SS fun o s₁ ow F₁ μ₁ h1 le1 S1 ho => ?_))
  refine wpAny_bind (wpAny_holding (h1.inS hA hs S1 fun i s₂ iw F₂ μ₂ h2 le2 S2 hi => ?_))
  refine wpAny_bind (wpAny_standAt (wpAny_bind (wpAny_holding ?_)))
  (refine el13 S2 fun S₀ a1 a2 a3 => ?_; try clear S2)
  refine wpBot (h2 A F₂ _ s₂ o i v hA a1 (ho.mono le2) hi (hw.mono (le1.trans le2))) fun _ s₃ hq => ?_
  obtain ⟨F₃, μ₃, h3, le3, S3⟩ := hq
  intro Γ p hΓ
  rw [Sem.wp_release]
  exact ⟨ε, μ₃, F₃, h3, (le1.trans le2).trans le3, S₀, S3, a2.mono le3, a3⟩
theorem asg_attr {oe : Expr} {name : Str} {pos : Pos} {w : W} {ke : Env1 → Mem → Prop} (h : cE C d sc ε μ oe fun ow μ₁ => cSetA C d μ₁ ow name w fun μ₃ => ke ε μ₃) :
    cAsg C d sc ε μ (.Attribute oe name pos) w ke := fun A env F Z s v hA hs SS hw => by
  rw [assign_Attribute]
  refine wpAny_bind (wpAny_holding (h.inS hA hs SS fun o s₁ ow F₁ μ₁ h1 le1 S1 ho => ?_))
  refine wpAny_bind (wpAny_standAt (wpAny_bind (wpAny_holding ?_)))
  (refine el13 S1 fun S₀ a1 a2 a3 => ?_; try clear S1)
  refine wpBot (h1 A F₁ _ s₁ o v hA a1 ho (hw.mono le1)) fun _ s₃ hq => ?_
  obtain ⟨F₃, μ₃, h3, le3, S3⟩ := hq
  intro Γ p hΓ
  rw [Sem.wp_release]
  exact ⟨ε, μ₃, F₃, h3, le1.trans le3, S₀, S3, a2.mono le3, a3⟩
theorem WsAt.set {P : Params} {F : PMap} {w : W} {v : Value} (hw : WAt P F w v) : ∀ {ws : List W} {vs : List Value} (i : Nat), WsAt P F ws vs → WsAt P F (ws.set i w) (vs.set i v)
  | [], _, i, .nil => by cases i <;> exact .nil
  | _ :: _, _ :: _, 0, .cons a b => .cons hw b
  | _ :: _, _ :: _, i + 1, .cons a b => .cons a (WsAt.set hw i b)
theorem si_list {a : Addr} {ws : List W} {i : Int} {w : W} {k : Mem → Prop} (hU : UpdAt a (.list ws) (.list (ws.set i.toNat w)) μ μ') (h0 : 0 ≤ i) (hn : i < ws.length) (hz : ws.length < 100000) (h : k μ') :
    cSetI C d μ (.l a) (.v (.int i)) w k := fun A F Z s u b v hA S hu hb hw => by
  refine Val.i_int hb fun _ => ?_
  refine WAt.i_l hu ?_
  refine el22 (S.isLm hU.mem) fun its n hl hws => ?_
  have e : its.size = ws.length := by rw [← Array.length_toList, hws.length]
  unfold setItem
  try with_reducible refine wpAny_holding ?_
  first | refine wpAny_bind (wpAny_pure ?_) | skip
  refine wpAny_bind (wpAny_sequenceKey (IsL.isList hl).typeIs (by decide) ?_)
  refine wpAny_bind (wpAny_callSpecial?_slot (name := Str.ofString "__setitem__") (IsL.isList hl).typeIs slot_list_setitem
    (wpAny_call_entry slot_list_setitem (IsL.isList hl).typeIs entry_list_setitem ?_ (args_list_setitem _ _ _)))
  show wpAny _ _ (Builtin.List.listSubscript? (.int i _) >>= _) _ _ s
  refine wpAny_bind (wpAny_listSubscript_int (fitsIndex_of h0 (by lia)) ?_)
  obtain ⟨j, rfl⟩ := Int.eq_ofNat_of_zero_le h0
  have hj : j < its.size := by lia
  have hx' : its[j]? = some its[j] := Array.getElem?_eq_getElem hj
  show wpAny _ _ ((seqItemAt a j >>= fun r => pure (r.map (j, ·))) >>= _) _ _ s
  refine wpAny_bind (wpAny_bind (wpAny_seqItemAt hl rfl (wpAny_pure ?_)))
  rw [hx']
  show wpAny _ _ (setSeqItemAt a j v >>= _) _ _ s
  refine wpAny_bind (wpAny_setSeqItemAt hl rfl ?_)
  have fin : PostU C Z k F { s with heap := s.heap.update a (Obj.mapSeq (·.setIfInBounds j v)) } :=
    ⟨F, μ', h, .refl _, S.updM hU (Heap.SameBut.update _ _ _) (IsL.update hl _) ⟨_, _, rfl, by rw [Array.toList_setIfInBounds]; exact WsAt.set hw j hws⟩ s.toks⟩
  first
    | exact wpAny_bind (wpAny_pure (wpAny_pure ⟨.none, rfl, wpAny_pure fin⟩))
    | exact wpAny_pure ⟨.none, rfl, wpAny_pure fin⟩
theorem len_list {vs : List V} (hz : vs.length < 100000) (h : k (.v (.int vs.length)) μ) : cCall C d μ (.builtin "len") [.v (.list vs)] [] k := fun A F Z s us kvs hA S hv hkv => by
  refine KwAt.i_nil hkv ?_
  refine WsAt.i1 hv fun u hu => ?_
  refine Val.i_list hu fun a ws n h1 h4 => ?_
  have e : ws.size = vs.length := by rw [← Array.length_toList, h4.toList]
  exact call_len_list (S.isL h1).isList (by rw [e]; lia) ⟨.v (.int vs.length), F, μ, h, .refl _, S.tok _, by rw [e]; exact .int _ _⟩
theorem len_tup {vs : List V} (hz : vs.length < 100000) (h : k (.v (.int vs.length)) μ) : cCall C d μ (.builtin "len") [.v (.tup vs)] [] k := fun A F Z s us kvs hA S hv hkv => by
  refine KwAt.i_nil hkv ?_
  refine WsAt.i1 hv fun u hu => ?_
  refine Val.i_tup hu fun a ws n h1 h4 => ?_
  have e : ws.size = vs.length := by rw [← Array.length_toList, h4.toList]
  exact P.len_tuple (S.isT h1) (by rw [e]; lia) ⟨.v (.int vs.length), F, μ, h, .refl _, S.tok _, by rw [e]; exact .int _ _⟩
theorem int_int {i : Int} (h : k (.v (.int i)) μ) : cCall C d μ (.type "int") [.v (.int i)] [] k := fun A F Z s us kvs hA S hv hkv => by
  refine KwAt.i_nil hkv ?_
  refine WsAt.i1 hv fun u hu => ?_
  refine Val.i_int hu fun _ => ?_
  exact call_int_int ⟨.v (.int i), F, μ, h, .refl _, S, .int _ _⟩
end
end
section
open PySem PySem.Calls
noncomputable def relS (sc₀ sc : Scope) : Scope :=
  { sc₀ with names := sc₀.names.map fun (n, k) => if (k == .free && sc.kind == .function && sc.names.lookup n == some .cell) then (n, .cell) else (n, k) }
theorem lookup_relS {sc : Scope} {x : Str} : ∀ (names : List (Str × NameKind)), (names.map fun (n, k) => if (k == NameKind.free && sc.kind == .function && sc.names.lookup n == some .cell) then (n, NameKind.cell) else (n, k)).lookup x
    = (names.lookup x).map fun k => if (k == NameKind.free && sc.kind == .function && sc.names.lookup x == some .cell) then NameKind.cell else k
  | [] => rfl
  | (n, k) :: r => by
    have ih := @lookup_relS sc x r
    by_cases q : x = n
    · subst q
      simp only [List.map_cons]
      by_cases hc : (k == NameKind.free && sc.kind == .function && sc.names.lookup x == some .cell) = true
      · rw [if_pos hc]; simp only [List.lookup, beq_self_eq_true, Option.map_some, if_pos hc]
      · rw [if_neg hc]; simp only [List.lookup, beq_self_eq_true, Option.map_some, if_neg hc]
    · have qb : (x == n) = false := by simpa using q
      simp only [List.map_cons]
      by_cases hc : (k == NameKind.free && sc.kind == .function && sc.names.lookup n == some .cell) = true
      · rw [if_pos hc]; simp only [List.lookup, qb]; exact ih
      · rw [if_neg hc]; simp only [List.lookup, qb]; exact ih
noncomputable def closL (cells : List (Str × Addr)) : List (Str × NameKind) → List (Str × Addr) → List (Str × Addr)
  | [], acc => acc
  | (n, k) :: r, acc => closL cells r (if (k == NameKind.free) = true then (n, (cells.lookup n).getD 0) :: acc else acc)
theorem closL_forIn {env : Env} (f : Str × NameKind → List (Str × Addr) → Sem (ForInStep (List (Str × Addr))))
    (hf : ∀ n k cs, (k = .free → (env.cells.lookup n).isSome = true) → f (n, k) cs = pure (.yield (if (k == NameKind.free) = true then (n, (env.cells.lookup n).getD 0) :: cs else cs))) :
    ∀ (names : List (Str × NameKind)) (acc : List (Str × Addr)), (∀ x ∈ names, x.2 = .free → (env.cells.lookup x.1).isSome = true) → forIn names acc f = (pure (closL env.cells names acc) : Sem _)
  | [], acc, _ => by rw [List.forIn_nil]; rfl
  | (n, k) :: r, acc, h => by
    rw [List.forIn_cons, hf n k acc (h _ (.head _))]
    show (forIn r _ f : Sem _) = _
    exact closL_forIn f hf r _ fun x hx => h x (.tail _ hx)
theorem closureFor_eq {sc₀ : Scope} {env : Env} (h : ∀ x ∈ sc₀.names, x.2 = .free → (env.cells.lookup x.1).isSome = true) : closureFor sc₀ env = pure (closL env.cells sc₀.names []) := by
  simp only [closureFor]
  rw [closL_forIn (env := env) _ (fun n k cs hc => ?_) sc₀.names [] h]
  · rfl
  · by_cases q : (k == NameKind.free) = true
    · have q' : k = .free := by simpa using q
      obtain ⟨a, ha⟩ := Option.isSome_iff_exists.mp (hc q')
      simp only [q, if_true]
      unfold cellOf
      rw [ha]
      rfl
    · simp only [if_neg q]
theorem closL_lookup {cells : List (Str × Addr)} {x : Str} : ∀ (names : List (Str × NameKind)) (acc : List (Str × Addr)),
    (closL cells names acc).lookup x = if (x, NameKind.free) ∈ names then some ((cells.lookup x).getD 0) else acc.lookup x
  | [], acc => rfl
  | (n, k) :: r, acc => by
    unfold closL
    rw [closL_lookup r]
    by_cases h : (x, NameKind.free) ∈ r
    · rw [if_pos h, if_pos (.tail _ h)]
    · rw [if_neg h]
      by_cases q : (k == NameKind.free) = true
      · have q' : k = .free := by simpa using q
        subst q'
        rw [if_pos q]
        by_cases e : x = n
        · subst e; rw [if_pos (.head _)]; simp [List.lookup]
        · have eb : (x == n) = false := by simpa using e
          rw [if_neg (fun hm => by cases hm with | head => exact e rfl | tail _ hm => exact h hm)]
          simp only [List.lookup, eb]
      · rw [if_neg q, if_neg (fun hm => by cases hm with | head => exact q rfl | tail _ hm => exact h hm)]
theorem cellsFrom_append : ∀ (names : List (Str × NameKind)) (n : Nat) (acc : List (Str × Addr)), cellsFrom n names acc = cellsFrom n names [] ++ acc
  | [], _, _ => rfl
  | (x, k) :: r, n, acc => by
    unfold cellsFrom
    split
    · rw [cellsFrom_append r _ ((x, n) :: acc), cellsFrom_append r _ [(x, n)]]; simp
    · exact cellsFrom_append r n acc
theorem cellsFrom_none {x : Str} : ∀ (names : List (Str × NameKind)) (n : Nat), (x, NameKind.cell) ∉ names → (cellsFrom n names []).lookup x = none
  | [], _, _ => rfl
  | (y, k) :: r, n, h => by
    unfold cellsFrom
    have hr : (x, NameKind.cell) ∉ r := fun hm => h (.tail _ hm)
    split
    · rename_i hk
      have hk' : k = .cell := by simpa using hk
      have ne : (x == y) = false := by
        have : x ≠ y := fun e => h (by rw [e, ← hk']; exact .head _)
        simpa using this
      rw [cellsFrom_append, List.lookup_append, cellsFrom_none r _ hr]
      simp [List.lookup, ne]
    · exact cellsFrom_none r n hr
theorem mem_nodup_lookup {x : Str} {k : NameKind} : ∀ {names : List (Str × NameKind)}, (names.map (·.1)).Nodup → (x, k) ∈ names → names.lookup x = some k
  | (y, j) :: r, hn, h => by
    simp only [List.map_cons, List.nodup_cons] at hn
    cases h with
    | head => simp [List.lookup]
    | tail _ h =>
      have : (x == y) = false := by
        have : x ≠ y := fun e => hn.1 (e ▸ List.mem_map_of_mem (f := (·.1)) h)
        simpa using this
      simp only [List.lookup, this]
      exact mem_nodup_lookup hn.2 h
section
variable {M : Model} {A : Around} {E : Value → Shared → Prop} {s : Shared}
theorem wpAny_newCompEnv {scope : Scope} {globals : Addr} {cl : List (Str × Addr)} {qual : Str} {outer : Env} {Q : Env → Shared → Prop}
    (hQ : Q { scope := scope, locals := s.heap.objs.size, globals := globals, cells := cellsFrom (s.heap.objs.size + 1) scope.names cl, qual := qual, func := none, code := outer.code, frame := outer.frame, builtins := outer.builtins }
      { s with heap := pushCells (s.heap.push { cls := .type "dict", data := .dict #[] }) scope.names }) :
    wpAny M A (newFunctionEnv scope globals cl [] qual none .none (some outer)) Q E s := by
  simp only [newFunctionEnv, Option.isSome_some, if_true]
  refine wpAny_bind (wpAny_alloc ?_)
  refine wpAny_bind (wpAny_layCells _ (fun name kind cells => by cases hkc : kind == NameKind.cell <;> simp [hkc]) _ _ _ _ ?_)
  rw [show ({ s with heap := s.heap.push { cls := .type "dict", data := .dict #[] } } : Shared).heap.objs.size = s.heap.objs.size + 1 from Heap.size_push ..]
  simp only [List.forIn_nil]
  exact wpAny_pure hQ
end
noncomputable def dropN (sc₀ : Scope) (ε : Env1) : Env1 := ε.filter fun y => !(sc₀.names.lookup y.1 == some .local || sc₀.names.lookup y.1 == some .cell)
theorem dropN_lookup {sc₀ : Scope} {x : Str} : ∀ {ε : Env1} {w : W}, (dropN sc₀ ε).lookup x = some w → sc₀.names.lookup x ≠ some .local ∧ sc₀.names.lookup x ≠ some .cell ∧ ε.lookup x = some w
  | [], _, h => by cases h
  | (y, u) :: r, w, h => by
    unfold dropN at h
    rw [List.filter_cons] at h
    by_cases q : (!(sc₀.names.lookup y == some .local || sc₀.names.lookup y == some .cell)) = true
    · rw [if_pos q] at h
      by_cases e : x = y
      · subst e
        rw [lookup_cons_self] at h
        cases h
        simp only [Bool.not_eq_true', Bool.or_eq_false_iff, beq_eq_false_iff_ne] at q
        exact ⟨q.1, q.2, lookup_cons_self⟩
      · rw [lookup_cons_ne e] at h
        rw [lookup_cons_ne e]
        exact dropN_lookup (ε := r) h
    · rw [if_neg q] at h
      refine el03 (dropN_lookup (ε := r) (sc₀ := sc₀) h) fun h1 h2 h3 => ?_
      have e : x ≠ y := fun e => q (by subst e; simp only [Bool.not_eq_true', Bool.or_eq_false_iff, beq_eq_false_iff_ne]; exact ⟨h1, h2⟩)
      exact ⟨h1, h2, by rw [lookup_cons_ne e]; exact h3⟩
section
variable {C : Cx} {d : Nat} {sc sc₀ : Scope} {ε : Env1} {μ μ' : Mem} {k k' : PostW} {kb : Bool → Mem → Prop} {kl : List W → Mem → Prop} {kf kf' : PostF}
structure CEnv (C : Cx) (sc₀ : Scope) (F Z S : PMap) (env : Env) (ε : Env1) : Prop where
  rel : EnvRel C F (PUn Z S) env ε
  apart : ∀ a o, S a = some o → Z a = none
  loc : ∃ o, S env.locals = some o
  cne : ∀ x c, (env.kindOf x = some .cell ∨ env.kindOf x = some .free) → env.cells.lookup x = some c → c ≠ env.locals
  mine : ∀ x c, sc₀.names.lookup x = some .cell → env.cells.lookup x = some c → (∃ o, S c = some o) ∧ ∀ y, (env.kindOf y = some .cell ∨ env.kindOf y = some .free) → env.cells.lookup y = some c → x = y
  kl : ∀ x, sc₀.names.lookup x = some .local → env.kindOf x = some .local
  kc : ∀ x, sc₀.names.lookup x = some .cell → env.kindOf x = some .cell
theorem CEnv.mono {F F' Z S : PMap} {env : Env} (h : PLe F F') (c : CEnv C sc₀ F Z S env ε) : CEnv C sc₀ F' Z S env ε := ⟨c.rel.mono h, c.apart, c.loc, c.cne, c.mine, c.kl, c.kc⟩
theorem EnvRel.sub {F Z : PMap} {env : Env} {ε' : Env1} (he : ∀ x w, ε'.lookup x = some w → ε.lookup x = some w) (hR : EnvRel C F Z env ε) : EnvRel C F Z env ε' := by
  refine ⟨hR.kind, hR.glob, hR.blt, ?_, fun x k => ?_⟩
  · refine el34 (hR.ns) fun o es n hz hdt hsk hl => ?_
    exact ⟨o, es, n, hz, hdt, hsk, fun x w e => hl x w (he x w e)⟩
  · refine el34 (hR.cell x k) fun c o u hc hz hdt hl => ?_
    exact ⟨c, o, u, hc, hz, hdt, fun w e => hl w (he x w e)⟩
theorem CEnv.sub {F Z S : PMap} {env : Env} {ε' : Env1} (he : ∀ x w, ε'.lookup x = some w → ε.lookup x = some w) (c : CEnv C sc₀ F Z S env ε) : CEnv C sc₀ F Z S env ε' := ⟨c.rel.sub he, c.apart, c.loc, c.cne, c.mine, c.kl, c.kc⟩
theorem CEnv.store {F Z S₀ : PMap} {s : Shared} {env : Env} (hS : Sim C F (PUn Z S₀) μ s) (hO : CEnv C sc₀ F Z S₀ env ε) {x : Str} {w : W} {v : Value} (hw : WAt C.P F w v)
    (hk : sc₀.names.lookup x = some .local ∨ sc₀.names.lookup x = some .cell) {Q : Unit → Shared → Prop} {A : Around} {E : Value → Shared → Prop}
    (hQ : ∀ s' S', Sim C F (PUn Z S') μ s' → CEnv C sc₀ F Z S' env ((x, w) :: ε) → Q () s') :
    wpAny C.M A (storeName env x v) Q E s := by
  have hR := hO.rel
  rcases hk with hk | hk
  · have hk := hO.kl x hk
    refine el34 (hR.ns) fun o es n hz hdt hsk hl => ?_
    refine wpAny_storeName_local hk (hS.nsZ hz hdt hsk) (fun h' hns hsb => ?_) (by rw [hR.kind]; rfl)
    (refine el34 hns fun o' es' n' ho' hd' hk' hf' => ?_; try clear hns)
    obtain ⟨oL, hL⟩ := hO.loc
    have zL : Z env.locals = none := hO.apart _ _ hL
    refine hQ _ (PSet S₀ env.locals o') ?_ ⟨⟨hR.kind, hR.glob, hR.blt, ?_, ?_⟩, fun a ob e => ?_, ⟨o', PSet.self ..⟩, hO.cne, fun y c hy hc => ?_, hO.kl, hO.kc⟩
    · rw [PUn.set zL]; exact hS.setZ hz hsb ho' _
    · refine ⟨o', es', n', by rw [PUn.set zL]; exact PSet.self .., hd', hk', fun y u e ky => ?_⟩
      rw [hf']
      by_cases q : y = x
      · subst q
        rw [lookup_cons_self] at e; cases e
        exact ⟨v, if_pos rfl, hw⟩
      · rw [lookup_cons_ne q] at e
        refine el12 (hl y u e ky) fun u' a b => ?_
        exact ⟨u', (if_neg q).trans a, b⟩
    · intro y ky
      refine el34 (hR.cell y ky) fun c oc u hc hzc hdc hu => ?_
      have cne : c ≠ env.locals := hO.cne y c ky hc
      refine ⟨c, oc, u, hc, by rw [PUn.set zL, PSet.ne _ _ cne]; exact hzc, hdc, fun u' e => ?_⟩
      have q : y ≠ x := fun q => by subst q; rw [hk] at ky; rcases ky with h | h <;> cases h
      rw [lookup_cons_ne q] at e
      exact hu u' e
    · by_cases q : a = env.locals
      · subst q; exact zL
      · rw [PSet.ne _ _ q] at e; exact hO.apart a ob e
    · obtain ⟨⟨oc, h1⟩, h2⟩ := hO.mine y c hy hc
      exact ⟨⟨oc, by rw [PSet.ne _ _ (hO.cne y c (.inl (hO.kc y hy)) hc)]; exact h1⟩, h2⟩
  · have hmx := hk
    have hk := hO.kc x hk
    refine el34 (hR.cell x (.inl hk)) fun c oc u hc hzc hdc hu => ?_
    refine wpAny_storeName_cell hR.kind hk hc ⟨oc, hS.zz _ _ hzc, hdc⟩ fun h' hcell hsb => ?_
    (refine el12 hcell fun o' ho' hd' => ?_; try clear hcell)
    obtain ⟨⟨oS, hSc⟩, uniq⟩ := hO.mine x c hmx hc
    have cne := hO.cne x c (.inl hk) hc
    have zc : Z c = none := hO.apart _ _ hSc
    obtain ⟨oL, hL⟩ := hO.loc
    refine hQ _ (PSet S₀ c o') ?_ ⟨⟨hR.kind, hR.glob, hR.blt, ?_, ?_⟩, fun a ob e => ?_, ⟨oL, by rw [PSet.ne _ _ (Ne.symm cne)]; exact hL⟩, hO.cne, fun y c' hy hc' => ?_, hO.kl, hO.kc⟩
    · rw [PUn.set zc]; exact hS.setZ hzc hsb ho' _
    · refine el34 (hR.ns) fun o es n hz hdt hsk hl => ?_
      refine ⟨o, es, n, by rw [PUn.set zc, PSet.ne _ _ (Ne.symm cne)]; exact hz, hdt, hsk, fun y u' e ky => ?_⟩
      have q : y ≠ x := fun q => by subst q; rw [hk] at ky; cases ky
      rw [lookup_cons_ne q] at e
      exact hl y u' e ky
    · intro y ky
      by_cases q : y = x
      · subst q
        refine ⟨c, o', some v, hc, by rw [PUn.set zc]; exact PSet.self .., hd', fun u' e => ?_⟩
        rw [lookup_cons_self] at e; cases e
        exact ⟨v, rfl, hw⟩
      · refine el34 (hR.cell y ky) fun c' oc' u' hc' hzc' hdc' hu' => ?_
        have cc : c' ≠ c := fun e => q (uniq y ky (e ▸ hc')).symm
        refine ⟨c', oc', u', hc', by rw [PUn.set zc, PSet.ne _ _ cc]; exact hzc', hdc', fun u'' e => ?_⟩
        rw [lookup_cons_ne q] at e
        exact hu' u'' e
    · by_cases q : a = c
      · subst q; exact zc
      · rw [PSet.ne _ _ q] at e; exact hO.apart a ob e
    · obtain ⟨⟨ob, h1⟩, h2⟩ := hO.mine y c' hy hc'
      refine ⟨?_, h2⟩
      by_cases q : c' = c
      · subst q; exact ⟨o', PSet.self ..⟩
      · exact ⟨ob, by rw [PSet.ne _ _ q]; exact h1⟩
theorem clos_ok {F Z : PMap} {env : Env} (R : EnvRel C F Z env ε) (hfree : (sc₀.names.all fun x => x.2 != .free || (env.scope.names.lookup x.1 == some .cell || env.scope.names.lookup x.1 == some .free)) = true) :
    closureFor sc₀ env = pure (closL env.cells sc₀.names []) := closureFor_eq fun x hx e => by
  have := List.all_eq_true.mp hfree x hx
  rw [e] at this
  have this : env.kindOf x.1 = some .cell ∨ env.kindOf x.1 = some .free := by simpa [Env.kindOf] using this
  refine el32 (R.cell x.1 this) fun c o u hc _ => ?_
  rw [hc]; rfl
theorem CEnv.enter {F Z : PMap} {s : Shared} {env : Env} (S : Sim C F Z μ s) (R : EnvRel C F Z env ε) (hk : sc₀.kind = .function) (hn : (sc₀.names.map (·.1)).Nodup)
    (hfree : (sc₀.names.all fun x => x.2 != .free || (env.scope.names.lookup x.1 == some .cell || env.scope.names.lookup x.1 == some .free)) = true)
    {A : Around} {E : Value → Shared → Prop} {Q : Env → Shared → Prop}
    (hQ : ∀ (cenv : Env) (s' : Shared) (S₀ : PMap), cenv.scope = sc₀ → Z cenv.locals = none → Sim C F (PUn Z S₀) μ s' → CEnv C sc₀ F Z S₀ { cenv with scope := relS sc₀ env.scope } (dropN sc₀ ε) → Q cenv s') :
    wpAny C.M A (newFunctionEnv sc₀ env.globals (closL env.cells sc₀.names []) [] env.qual none .none (some env)) Q E s := by
  refine wpAny_newCompEnv ?_
  generalize hH : s.heap.push { cls := .type "dict", data := .dict #[] } = H
  have hHs : H.objs.size = s.heap.objs.size + 1 := by rw [← hH, Heap.size_push]
  have okc := cellsFrom_ok sc₀.names H (s.heap.objs.size + 1) [] ⟨fun _ _ hm => (nomatch hm), List.Pairwise.nil⟩ (by rw [hHs]; exact Nat.le_refl _)
  rw [hHs] at okc
  rw [cellsFrom_append]
  generalize hown : cellsFrom (s.heap.objs.size + 1) sc₀.names [] = own at okc ⊢
  generalize hh' : pushCells H sc₀.names = h' at okc ⊢
  have keep : ∀ b o, s.heap.get? b = some o → h'.get? b = some o := fun b o e => by rw [← hh']; exact pushCells_keeps _ _ b o (by rw [← hH]; exact Heap.get?_push_of_some _ e)
  have hL : h'.get? s.heap.objs.size = some { cls := .type "dict", data := .dict #[] } := by rw [← hh']; exact pushCells_keeps _ _ _ _ (by rw [← hH]; exact Heap.get?_push_size _ rfl)
  generalize hl : s.heap.objs.size = L at *
  have fresh : ∀ {b : Addr} {ob : Obj}, s.heap.get? b = some ob → b < L := fun e => hl ▸ Heap.lt_size e
  let S₀ : PMap := fun a => if a = L ∨ a ∈ own.map (·.2) then h'.get? a else none
  have above : ∀ a, a ∈ own.map (·.2) → L < a := fun a ha => by
    (refine el12 (List.mem_map.mp ha) fun qq0 hm qq2 => ?_; rcases qq0 with ⟨n, c⟩; subst qq2)
    exact (okc.empty n c hm).2
  have sLoc : S₀ L = h'.get? L := if_pos (.inl rfl)
  have sCell : ∀ c, c ∈ own.map (·.2) → S₀ c = h'.get? c := fun c hc => if_pos (.inr hc)
  have sEq : ∀ a o, S₀ a = some o → h'.get? a = some o := fun a o e => by
    by_cases q : a = L ∨ a ∈ own.map (·.2)
    · change (if a = L ∨ a ∈ own.map (·.2) then h'.get? a else none) = some o at e
      rw [if_pos q] at e; exact e
    · change (if a = L ∨ a ∈ own.map (·.2) then h'.get? a else none) = some o at e
      rw [if_neg q] at e; cases e
  have sNew : ∀ a o, S₀ a = some o → L ≤ a := fun a o e => by
    by_cases q : a = L ∨ a ∈ own.map (·.2)
    · rcases q with q | q
      · exact Nat.le_of_eq q.symm
      · exact Nat.le_of_lt (above a q)
    · change (if a = L ∨ a ∈ own.map (·.2) then h'.get? a else none) = some o at e
      rw [if_neg q] at e; cases e
  have zNone : ∀ a, L ≤ a → Z a = none := fun a ha => by
    cases e : Z a with
    | none => rfl
    | some o => exact absurd (fresh (S.zz _ _ e)) (Nat.not_lt.mpr ha)
  have un : ∀ a o, PUn Z S₀ a = some o → Z a = some o ∨ S₀ a = some o := fun a o e => by
    unfold PUn at e
    cases q : Z a with
    | none => rw [q] at e; exact .inr e
    | some o' => rw [q] at e; exact .inl e
  have unS : ∀ a, L ≤ a → PUn Z S₀ a = S₀ a := fun a ha => by unfold PUn; rw [zNone a ha]; rfl
  have unZ : ∀ a o, Z a = some o → PUn Z S₀ a = some o := fun a o e => by unfold PUn; rw [e]; rfl
  have lk : ∀ x, (relS sc₀ env.scope).names.lookup x = (sc₀.names.lookup x).map fun k => if (k == NameKind.free && env.scope.kind == .function && env.scope.names.lookup x == some .cell) then NameKind.cell else k := fun x => lookup_relS _
  have lkL : ∀ x, sc₀.names.lookup x = some .local → (relS sc₀ env.scope).names.lookup x = some .local := fun x h => by rw [lk, h]; rfl
  have lkC : ∀ x, sc₀.names.lookup x = some .cell → (relS sc₀ env.scope).names.lookup x = some .cell := fun x h => by rw [lk, h]; rfl
  have split : ∀ x, ((relS sc₀ env.scope).names.lookup x = some .cell ∨ (relS sc₀ env.scope).names.lookup x = some .free) →
      (sc₀.names.lookup x = some .cell) ∨ (sc₀.names.lookup x = some .free) := fun x h => by
    rw [lk] at h
    cases e : sc₀.names.lookup x with
    | none => rw [e] at h; rcases h with h | h <;> cases h
    | some k =>
      rw [e] at h
      cases k with
      | cell => exact .inl rfl
      | free => exact .inr rfl
      | _ => rcases h with h | h <;> cases h
  have lkO : ∀ x, sc₀.names.lookup x = some .cell → ∃ c, (own ++ closL env.cells sc₀.names []).lookup x = some c ∧ (x, c) ∈ own := fun x h => by
    have : ((cellsFrom (L + 1) sc₀.names []).lookup x).isSome = true := PySem.W.cellsFrom_some _ _ _ (.inl h)
    rw [hown] at this
    obtain ⟨c, hc⟩ := Option.isSome_iff_exists.mp this
    exact ⟨c, by rw [List.lookup_append, hc]; rfl, mem_of_lookup hc⟩
  have lkF : ∀ x, sc₀.names.lookup x = some .free → ∃ (c : Addr) (o : Obj) (u : Option Value), (own ++ closL env.cells sc₀.names []).lookup x = some c ∧ Z c = some o ∧ o.data = .cell u ∧ ∀ w, ε.lookup x = some w → ∃ v, u = some v ∧ WAt C.P F w v := fun x h => by
    have hm : (x, NameKind.free) ∈ sc₀.names := mem_of_lookup h
    have hno : (x, NameKind.cell) ∉ sc₀.names := fun hm' => by have := mem_nodup_lookup hn hm'; rw [h] at this; cases this
    have := List.all_eq_true.mp hfree _ hm
    have this : env.kindOf x = some .cell ∨ env.kindOf x = some .free := by simpa [Env.kindOf] using this
    refine el34 (R.cell x this) fun c o u hc hz hd hw => ?_
    refine ⟨c, o, u, ?_, hz, hd, hw⟩
    have e1 : own.lookup x = none := by rw [← hown]; exact cellsFrom_none _ _ hno
    rw [List.lookup_append, e1, closL_lookup, if_pos hm, hc]; rfl
  refine hQ _ _ S₀ rfl (zNone L (Nat.le_refl _)) ⟨S.base, fun a o e => keep a o (S.fz a o e), fun a o e => ?_, fun a o e => ?_, fun a y hm => ?_, S.nod, S.os, S.gens⟩
    ⟨⟨hk, R.glob, R.blt, ?_, fun y ky => ?_⟩, fun a o e => zNone a (sNew a o e), ⟨_, sLoc.trans hL⟩, fun y c ky hc => ?_, fun y c hy hc => ?_, lkL, lkC⟩
  · rcases un a o e with e | e
    · exact keep a o (S.zz a o e)
    · exact sEq a o e
  · rcases un a o e with e | e
    · exact S.dis a o e
    · cases q : F a with
      | none => rfl
      | some o' => exact absurd (fresh (S.fz _ _ q)) (Nat.not_lt.mpr (sNew a o e))
  · obtain ⟨h1, h2, ob, h3, h4⟩ := S.own a y hm
    refine ⟨h1, ?_, ob, keep a ob h3, h4⟩
    unfold PUn
    rw [h2]
    show S₀ a = none
    cases q : S₀ a with
    | none => rfl
    | some o' => exact absurd (fresh h3) (Nat.not_lt.mpr (sNew a o' q))
  · refine ⟨_, #[], _, by rw [unS _ (Nat.le_refl _), sLoc]; exact hL, rfl, fun e he => (by simp at he), fun y w e ky => ?_⟩
    exfalso
    refine el03 (dropN_lookup e) fun h1 h2 _ => ?_
    have ky : (relS sc₀ env.scope).names.lookup y = some .local := ky
    rw [lk] at ky
    cases q : sc₀.names.lookup y with
    | none => rw [q] at ky; cases ky
    | some k =>
      rw [q] at ky h1
      cases k with
      | «local» => exact h1 rfl
      | free =>
        simp only [Option.map_some] at ky
        split at ky <;> cases ky
      | _ => cases ky
  · rcases split y ky with h | h
    · refine el12 (lkO y h) fun c hc hm => ?_
      have hm' : c ∈ own.map (·.2) := List.mem_map_of_mem (f := (·.2)) hm
      obtain ⟨⟨o, ho, hd⟩, _⟩ := okc.empty y c hm
      refine ⟨c, o, none, hc, by rw [unS _ (Nat.le_of_lt (above c hm')), sCell c hm']; exact ho, hd, fun w e => ?_⟩
      exact absurd h (dropN_lookup e).2.1
    · refine el34 (lkF y h) fun c o u hc hz hd hw => ?_
      exact ⟨c, o, u, hc, unZ _ _ hz, hd, fun w e => hw w (dropN_lookup e).2.2⟩
  · rcases split y ky with h | h
    · refine el12 (lkO y h) fun c' hc' hm => ?_
      have : c = c' := Option.some.inj (hc.symm.trans hc')
      subst this
      exact Nat.ne_of_gt (above c (List.mem_map_of_mem (f := (·.2)) hm))
    · refine el33 (lkF y h) fun c' o u hc' hz _ => ?_
      have : c = c' := Option.some.inj (hc.symm.trans hc')
      subst this
      exact Nat.ne_of_lt (fresh (S.zz _ _ hz))
  · refine el12 (lkO y hy) fun c' hc' hm => ?_
    have : c = c' := Option.some.inj (hc.symm.trans hc')
    subst this
    have hm' : c ∈ own.map (·.2) := List.mem_map_of_mem (f := (·.2)) hm
    obtain ⟨⟨o, ho, hd⟩, _⟩ := okc.empty y c hm
    refine ⟨⟨o, by rw [sCell c hm']; exact ho⟩, fun z kz hz => ?_⟩
    rcases split z kz with h | h
    · refine el12 (lkO z h) fun c'' hc'' hm2 => ?_
      have : c = c'' := Option.some.inj (hz.symm.trans hc'')
      subst this
      exact name_of_addr okc.apart hm hm2
    · refine el33 (lkF z h) fun c'' o' u hc'' hzz _ => ?_
      have : c = c'' := Option.some.inj (hz.symm.trans hc'')
      subst this
      exact absurd (fresh (S.zz _ _ hzz)) (Nat.not_lt.mpr (Nat.le_of_lt (above c hm')))
end
end
section
open PySem PySem.Calls
section
variable {C : Cx} {d : Nat} {sc sc₀ : Scope} {ε : Env1} {μ μ' : Mem} {k k' : PostW} {kb : Bool → Mem → Prop} {kl : List W → Mem → Prop} {kf kf' : PostF}
theorem Sim.but {F Y Y' : PMap} {s : Shared} {a : Addr} (S : Sim C F Y μ s) (ha : ∃ o, Y a = some o) (le : PLe Y' Y) (hn : Y' a = none) {h' : Heap} (hk : ∀ b o, b ≠ a → s.heap.get? b = some o → h'.get? b = some o) (t : Nat) :
    Sim C F Y' μ { s with heap := h', toks := t } := by
  obtain ⟨oa, ha⟩ := ha
  have fa : F a = none := S.dis a oa ha
  refine ⟨S.base, fun b o e => hk b o (fun q => by rw [q, fa] at e; cases e) (S.fz b o e), fun b o e => hk b o (fun q => by rw [q, hn] at e; cases e) (S.zz b o (le b o e)), fun b o e => S.dis b o (le b o e), fun b x hm => ?_, S.nod, S.os, S.gens⟩
  obtain ⟨h1, h2, ob, h3, h4⟩ := S.own b x hm
  refine ⟨h1, ?_, ob, hk b ob (fun q => by rw [q, ha] at h2; cases h2) h3, h4⟩
  cases e : Y' b with
  | none => rfl
  | some o => rw [le b o e] at h2; cases h2
noncomputable def cTgt (C : Cx) (sc₀ : Scope) (t : Expr) (w : W) (bs : Env1) : Prop := (∀ y ∈ bs, sc₀.names.lookup y.1 = some .local ∨ sc₀.names.lookup y.1 = some .cell) ∧
  ∀ (A : Around) (env : Env) (F Z S : PMap) (ε : Env1) (μ : Mem) (s : Shared) (v : Value), A.handled = none → CEnv C sc₀ F Z S env ε → Sim C F (PUn Z S) μ s → WAt C.P F w v →
    wpAny C.M A (assign t env v) (fun _ s' => ∃ S', Sim C F (PUn Z S') μ s' ∧ CEnv C sc₀ F Z S' env (bs ++ ε)) (fun _ _ => False) s
theorem tgt_name {x : Str} {pos : Pos} {w : W} (hk : sc₀.names.lookup x = some .local ∨ sc₀.names.lookup x = some .cell) : cTgt C sc₀ (.Name x pos) w [(x, w)] := ⟨fun y hy => (by cases hy with | head => exact hk | tail _ h => cases h), fun A env F Z S ε μ s v hA hO hS hw =>
  wpAny_assign_Name (CEnv.store hS hO hw hk fun s' S' h1 h2 => ⟨S', h1, h2⟩)⟩
theorem bs_keep {bs : Env1} (h : ∀ y ∈ bs, sc₀.names.lookup y.1 = some .local ∨ sc₀.names.lookup y.1 = some .cell) : ∀ y w, (dropN sc₀ ε).lookup y = some w → (bs ++ dropN sc₀ ε).lookup y = some w := fun y w e => by
  have hn : bs.lookup y = none := by
    cases q : bs.lookup y with
    | none => rfl
    | some u =>
      refine el03 (dropN_lookup e) fun a b _ => ?_
      rcases h _ (mem_of_lookup q) with h | h
      · exact absurd h a
      · exact absurd h b
  rw [List.lookup_append, hn]; exact e
noncomputable def cIfs (C : Cx) (d : Nat) (sc : Scope) (ε : Env1) (μ : Mem) (ifs : List Expr) (kb : Bool → Mem → Prop) : Prop :=
  ∀ (A : Around) (env : Env) (F Z : PMap) (s : Shared), Rm A d → env.scope = sc → EnvRel C F Z env ε → Sim C F Z μ s →
    wpAny C.M A (forIn ifs true fun c r => if r = true then do let ok ← isTrue c env (eval c env); pure (ForInStep.yield ok) else pure (ForInStep.yield r)) (PostB C Z kb F) (fun _ _ => False) s
theorem ifs_nil (h : kb true μ) : cIfs C d sc ε μ [] kb := fun A env F Z s _ _ _ S => wpAny_pure ⟨F, μ, h, .refl _, S⟩
theorem ifs_one {e : Expr} (h : cT C d sc ε μ e kb) : cIfs C d sc ε μ [e] kb := fun A env F Z s hA hs R S => wpAny_tests_one (h A env F Z s hA hs R S)
noncomputable def cU (C : Cx) (d : Nat) (sc : Scope) (ε : Env1) (μ : Mem) (f : Env → Sem Unit) (k : Mem → Prop) : Prop :=
  ∀ (A : Around) (env : Env) (F Z : PMap) (s : Shared), Rm A d → env.scope = sc → EnvRel C F Z env ε → Sim C F Z μ s → wpAny C.M A (f env) (fun _ s' => PostU C Z k F s') (fun _ _ => False) s
noncomputable def emitL (elt : Expr) (acc : Value) (env : Env) : Sem Unit := (do let _ ← call (.builtin "list.append") [acc, ← eval elt env])
theorem u_list {elt : Expr} {acc : Addr} {kk : Mem → Prop} (h : cE C d sc ε μ elt fun w μ₁ => cCall C d μ₁ (.builtin "list.append") [.l acc, w] [] fun _ μ₂ => kk μ₂) : cU C d sc ε μ (emitL elt (.ref acc)) kk := fun A env F Z s hA hs R S => by
  refine wpAny_bind (wpBot (h A env F Z s hA hs R S) fun v s₁ hq => ?_)
  obtain ⟨w, F₁, μ₁, h₁, le₁, S₁, hv⟩ := hq
  refine wpAny_bind (wpBot (h₁ A F₁ Z s₁ [.ref acc, v] [] hA S₁ (.cons rfl (.cons hv .nil)) .nil) fun _ s₂ hq => ?_)
  obtain ⟨_, F₂, μ₂, h₂, le₂, S₂, _⟩ := hq
  exact wpAny_pure ⟨F₂, μ₂, h₂, le₁.trans le₂, S₂⟩
noncomputable def emitD (kx vx : Expr) (D : Addr) (env : Env) : Sem Unit := (do
  let kv ← eval kx env
  let vv ← holding [kv] (eval vx env)
  standAt { kx.pos with endLine := vx.pos.endLine, endCol := vx.pos.endCol }
  holding [kv, vv] (dictSet D kv vv))
noncomputable def cDSet (C : Cx) (d : Nat) (μ : Mem) (D : Addr) (x y : W) (k : Mem → Prop) : Prop :=
  ∀ (A : Around) (F Z : PMap) (s : Shared) (u v : Value), Rm A d → Sim C F Z μ s → WAt C.P F x u → WAt C.P F y v → wpAny C.M A (dictSet D u v) (fun _ s' => PostU C Z k F s') (fun _ _ => False) s
theorem u_dict {kx vx : Expr} {D : Addr} {kk : Mem → Prop} (h : cE C d sc ε μ kx fun x μ₁ => cE C d sc ε μ₁ vx fun y μ₂ => cDSet C d μ₂ D x y kk) : cU C d sc ε μ (emitD kx vx D) kk := fun A env F Z s hA hs R S => by
  refine wpAny_bind (wpBot (h A env F Z s hA hs R S) fun u s₁ hq => ?_)
  obtain ⟨x, F₁, μ₁, h₁, le₁, S₁, hu⟩ := hq
  refine wpAny_bind (wpAny_holding (wpBot (h₁ A env F₁ Z s₁ hA hs (R.mono le₁) S₁) fun v s₂ hq => ?_))
  obtain ⟨y, F₂, μ₂, h₂, le₂, S₂, hv⟩ := hq
  refine wpAny_bind (wpAny_standAt (wpAny_holding ?_))
  exact wpBot (h₂ A F₂ Z s₂ u v hA S₂ (hu.mono le₂) hv) fun _ s₃ ⟨F₃, μ₃, h₃, le₃, S₃⟩ => ⟨F₃, μ₃, h₃, (le₁.trans le₂).trans le₃, S₃⟩
noncomputable def compT (e target : Expr) (ifs : List Expr) (ipos : Pos) (emit : Env → Sem Unit) (it acc : Value) (env : Env) : Sem Fin := (do
  standAt ipos
  match ← pyNext it with
  | none => pure (.done .next)
  | some v =>
    letOwnedTupleGo target it v
    assign target env v
    let mut ok := true
    for c in ifs do
      if ok then ok ← isTrue c env (eval c env)
    if ok then
      emit env
    again (.compLoop e 0 it acc env))
theorem letGo_ok {F : PMap} {it : Addr} {items : List V} {J : Nat → Obj → Prop} (hit : Iter C F it items J) {i : Nat} {o : Obj} (hJ : J i o) {t : Expr} {v : Value} {A : Around} {Q : Unit → Shared → Prop} {E : Value → Shared → Prop} {s : Shared}
    (h3 : s.heap.get? it = some o) (hQ : Q () s) : wpAny C.M A (letOwnedTupleGo t (.ref it) v) Q E s := by
  refine el23 (hit.shape _ _ hJ) fun nm vs c1 c2 c3 => ?_
  unfold letOwnedTupleGo
  split
  all_goals first
    | exact wpAny_pure hQ
    | (cases v with
       | ref b =>
         refine wpAny_bind (wpAny_load h3 ?_)
         rw [c1, c2]
         show wpAny C.M A (if (_ && _) = true then _ else _) Q E s
         rw [c3, Bool.false_and, if_neg Bool.false_ne_true]
         exact wpAny_pure hQ
       | _ => exact wpAny_pure hQ)
theorem CEnv.reit {F Z S : PMap} {env : Env} {it : Addr} {o o' : Obj} {i : Nat} {F₂ : PMap} {items : List V} {J : Nat → Obj → Prop} (hit : Iter C F₂ it items J) (hJ : J i o) (c : CEnv C sc₀ F (PSet Z it o) S env ε) : CEnv C sc₀ F (PSet Z it o') S env ε := by
  have sit : S it = none := by
    cases e : S it with
    | none => rfl
    | some ob => have := c.apart _ _ e; rw [PSet.self] at this; cases this
  have tr : ∀ a ob, a ≠ it → PUn (PSet Z it o) S a = some ob → PUn (PSet Z it o') S a = some ob := fun a ob ne e => by
    rw [PUn.pset, PSet.ne _ _ ne] at e ⊢; exact e
  refine el23 (hit.shape _ _ hJ) fun nm vs c1 c2 c3 => ?_
  refine ⟨⟨c.rel.kind, c.rel.glob, c.rel.blt, ?_, fun y ky => ?_⟩, fun a ob e => ?_, c.loc, c.cne, c.mine, c.kl, c.kc⟩
  · refine el34 (c.rel.ns) fun ob es m h1 h2 h3 h4 => ?_
    obtain ⟨oL, hL⟩ := c.loc
    exact ⟨ob, es, m, tr _ _ (fun q => by rw [q, sit] at hL; cases hL) h1, h2, h3, h4⟩
  · refine el34 (c.rel.cell y ky) fun c' ob u h1 h2 h3 h4 => ?_
    refine ⟨c', ob, u, h1, tr _ _ (fun q => ?_) h2, h3, h4⟩
    rw [q, PUn.pset, PSet.self] at h2
    cases h2
    rw [c2] at h3; cases h3
  · have := c.apart a ob e
    have ne : a ≠ it := fun q => by rw [q, sit] at e; cases e
    rw [PSet.ne _ _ ne] at this ⊢; exact this
theorem comp_loop {A : Around} {Z F₂ : PMap} {s : Shared} {cenv : Env} {e target : Expr} {ifs : List Expr} {ipos : Pos} {emit : Env → Sem Unit} {it : Addr} {acc : Value} {items : List V} {J : Nat → Obj → Prop} {o : Obj} {S₀ : PMap} {Inv : Nat → Mem → Prop}
    (hden : ∀ env, C.M.den (.compLoop e 0 (.ref it) acc env) = (compT e target ifs ipos emit (.ref it) acc env).onRaise (fun x => do noteFrame x env; theTreesLotGoes x))
    (hw : ∀ env, A.under (.compLoop e 0 (.ref it) acc env) = A) (hq : ∀ env, (Code.compLoop e 0 (.ref it) acc env).quiet = true)
    (hA : Rm A d) (hsc : cenv.scope = sc) (hit : Iter C F₂ it items J) (hz : Z it = none) (hJ : J 0 o) (hS : Sim C F₂ (PUn (PSet Z it o) S₀) μ s) (hC : CEnv C sc₀ F₂ (PSet Z it o) S₀ cenv (dropN sc₀ ε)) (h0 : Inv 0 μ)
    (turn : ∀ i x μ', items[i]? = some x → Inv i μ' → ∃ bs, cTgt C sc₀ target (.v x) bs ∧ cIfs C d sc (bs ++ dropN sc₀ ε) μ' ifs fun b μ₂ => (b = true → cU C d sc (bs ++ dropN sc₀ ε) μ₂ emit (Inv (i + 1))) ∧ (b = false → Inv (i + 1) μ₂)) :
    codeAny C.M A (.compLoop e 0 (.ref it) acc cenv) (fun r s' => r = .ok .next ∧ ∃ F' S' μ' , Inv items.length μ' ∧ PLe F₂ F' ∧ Sim C F' (PUn Z S') μ' s' ∧ (∃ o, S' cenv.locals = some o) ∧ Z cenv.locals = none ∧ EnvRel C F' (PUn Z S') cenv (dropN sc₀ ε)) s := by
  refine codeAny_loop (hq cenv) (fun n s' => ∃ i μ' F' o' S', n = items.length - i ∧ i ≤ items.length ∧ PLe F₂ F' ∧ Sim C F' (PUn (PSet Z it o') S') μ' s' ∧ CEnv C sc₀ F' (PSet Z it o') S' cenv (dropN sc₀ ε) ∧ J i o' ∧ Inv i μ') (fun n s' hI => ?_) items.length
    ⟨0, μ, F₂, o, S₀, by lia, by lia, .refl _, hS, hC, hJ, h0⟩
  (refine el57 hI fun i μ' F' o' S' hn hi le' SS' hC' hJ' hInv => ?_; try clear hI)
  rw [hw, hden]
  refine wpAny_noted ?_
  unfold compT
  refine wpAny_bind (wpAny_standAt (wpAny_bind ?_))
  have hto : s'.heap.get? it = some o' := SS'.zz _ _ (by rw [PUn.pset]; exact PSet.self ..)
  have fz2 : PIn F₂ s'.heap := fun a ob e => SS'.fz _ _ (le' a ob e)
  have sit : S' it = none := by
    cases e : S' it with
    | none => rfl
    | some ob => have := hC'.apart _ _ e; rw [PSet.self] at this; cases this
  rcases Nat.lt_or_ge i items.length with hlt | hge
  · have hx : items[i]? = some items[i] := List.getElem?_eq_getElem hlt
    refine el12 (turn i items[i] μ' hx hInv) fun bs htg hifs => ?_
    refine hit.item i items[i] A s' _ _ o' hA.hd fz2 hto hJ' hx fun v h' o'' tk hv hsb ho'' hJ'' => ?_
    have q := SS'.setZ (a := it) (o := o') (by rw [PUn.pset]; exact PSet.self ..) hsb ho'' tk
    have e1 : PSet (PUn (PSet Z it o') S') it o'' = PUn (PSet Z it o'') S' := by rw [PUn.pset, PSet.twice, PUn.pset]
    rw [e1] at q
    have hC'' : CEnv C sc₀ F' (PSet Z it o'') S' cenv (dropN sc₀ ε) := hC'.reit hit hJ'
    refine wpAny_bind (letGo_ok hit hJ'' ho'' (wpAny_bind ?_))
    refine wpBot (htg.2 A cenv F' _ S' _ μ' _ v hA.hd hC'' q (Val.mono le' hv)) fun _ s₂ ⟨S₂, Sm₂, C₂⟩ => wpAny_bind ?_
    refine wpBot (hifs A cenv F' _ s₂ hA hsc C₂.rel Sm₂) fun b s₃ hq => ?_
    obtain ⟨F₃, μ₃, hb, le₃, Sm₃⟩ := hq
    have C₃ := C₂.mono le₃
    cases b with
    | false =>
      exact wpAny_pure ⟨rfl, items.length - (i + 1), by lia, i + 1, μ₃, F₃, o'', S₂, rfl, hlt, le'.trans le₃, Sm₃, C₃.sub (bs_keep htg.1), hJ'', hb.2 rfl⟩
    | true =>
      refine wpAny_bind (wpBot (hb.1 rfl A cenv F₃ _ s₃ hA hsc C₃.rel Sm₃) fun _ s₄ hq => ?_)
      obtain ⟨F₄, μ₄, hk₄, le₄, Sm₄⟩ := hq
      exact wpAny_pure ⟨rfl, items.length - (i + 1), by lia, i + 1, μ₄, F₄, o'', S₂, rfl, hlt, (le'.trans le₃).trans le₄, Sm₄, (C₃.mono le₄).sub (bs_keep htg.1), hJ'', hk₄⟩
  · have hx : items[i]? = none := List.getElem?_eq_none_iff.mpr hge
    have hie : i = items.length := Nat.le_antisymm hi hge
    refine hit.done i A s' _ _ o' hA.hd fz2 hto hJ' hx fun h' tk hk => wpAny_pure ⟨rfl, F', S', μ', hie ▸ hInv, le', ?_, hC'.loc, ?_, ?_⟩
    · refine SS'.but ⟨o', by rw [PUn.pset]; exact PSet.self ..⟩ (fun a ob e => ?_) ?_ hk tk
      · have ne : a ≠ it := fun q => by rw [q] at e; unfold PUn at e; rw [hz, sit] at e; cases e
        rw [PUn.pset, PSet.ne _ _ ne]; exact e
      · unfold PUn; rw [hz, sit]; rfl
    · obtain ⟨oL, hL⟩ := hC'.loc
      have := hC'.apart _ _ hL
      have ne : cenv.locals ≠ it := fun q => by rw [q, sit] at hL; cases hL
      rw [PSet.ne _ _ ne] at this; exact this
    · refine el23 (hit.shape _ _ hJ') fun nm vs c1 c2 c3 => ?_
      have rz : ∀ a ob, a ≠ it → PUn (PSet Z it o') S' a = some ob → PUn Z S' a = some ob := fun a ob ne e => by
        rw [PUn.pset, PSet.ne _ _ ne] at e; exact e
      refine ⟨hC'.rel.kind, hC'.rel.glob, hC'.rel.blt, ?_, fun y ky => ?_⟩
      · refine el34 (hC'.rel.ns) fun ob es m h1 h2 h3 h4 => ?_
        obtain ⟨oL, hL⟩ := hC'.loc
        exact ⟨ob, es, m, rz _ _ (fun q => by rw [q, sit] at hL; cases hL) h1, h2, h3, h4⟩
      · refine el34 (hC'.rel.cell y ky) fun c' ob u h1 h2 h3 h4 => ?_
        refine ⟨c', ob, u, h1, rz _ _ (fun q => ?_) h2, h3, h4⟩
        rw [q, PUn.pset, PSet.self] at h2
        cases h2
        rw [c2] at h3; cases h3
theorem PLe.unL {Z S : PMap} : PLe Z (PUn Z S) := fun a o e => by unfold PUn; rw [e]; rfl
structure CompOk (C : Cx) (sc₀ sc : Scope) (e target iter : Expr) (ifs : List Expr) (emit : Addr → Env → Sem Unit) (newAcc : Sem Value) (o₀ : Obj) (x₀ : O) (ipos : Pos) : Prop where
  cl : clausesOf e = [⟨target, iter, ifs, 0⟩]
  den : ∀ it acc env, C.M.den (.compLoop e 0 it (.ref acc) env) = (compT e target ifs ipos (emit acc) it (.ref acc) env).onRaise (fun x => do noteFrame x env; theTreesLotGoes x)
  start : ∀ it acc env, C.M.den (.compStart e 0 it (.ref acc) env) = (compStart e 0 it (.ref acc) env).onRaise (fun x => do noteFrame x env; standAt theWindowsPlace)
  wt : ∀ (A : Around) it acc env, A.under (.compLoop e 0 it acc env) = A
  wt' : ∀ (A : Around) it acc env, A.under (.compStart e 0 it acc env) = A
  q : ∀ it acc env, (Code.compLoop e 0 it acc env).quiet = true
  new : ∀ A s (Q : Value → Shared → Prop) E, Q (.ref s.heap.objs.size) { s with heap := s.heap.push o₀ } → wpAny C.M A newAcc Q E s
  at0 : ∀ F, OAt C.P F x₀ o₀
  nf : o₀.isFreed = false
  hk : sc₀.kind = .function
  hn : (sc₀.names.map (·.1)).Nodup
  hfree : (sc₀.names.all fun x => x.2 != .free || (sc.names.lookup x.1 == some .cell || sc.names.lookup x.1 == some .free)) = true
  hs : ∀ env x, foldedSetIterable iter env x = pure x
theorem comp_start {A : Around} {s : Shared} {env : Env} {e target iter : Expr} {ifs : List Expr} {emit : Addr → Env → Sem Unit} {newAcc : Sem Value} {o₀ : Obj} {x₀ : O} {ipos : Pos} (ok : CompOk C sc₀ sc e target iter ifs emit newAcc o₀ x₀ ipos)
    {it acc : Value} {a : Addr} (ha : acc = .ref a) {R : Result → Shared → Prop} (h0 : codeAny C.M A (.compLoop e 0 it acc env) R s) (h : ∀ Q E, Q it s → wpAny C.M A (pyIter it) Q E s) : codeAny C.M A (.compStart e 0 it acc env) R s := by
  subst ha
  refine codeAny_of_tree ?_
  rw [ok.wt', ok.start]
  refine wpAny_notedAt ?_
  unfold compStart
  rw [ok.cl]
  show wpAny _ _ (ask >>= _) _ _ s
  refine wpAny_bind (wpAny_askSetting (wpAny_ite ?_))
  split
  · first
      | exact wpAny_bind (wpAny_pure (wpAny_pure (And.intro (ok.q _ _ _) h0)))
      | exact wpAny_pure (And.intro (ok.q _ _ _) h0)
  · first
      | exact wpAny_bind (wpAny_rule (wpAny_bind (wpAny_standAt (wpAny_bind (h _ _ (wpAny_pure (And.intro (ok.q _ _ _) h0)))))))
      | (refine wpAny_bind (wpAny_rule ?_); show wpAny _ _ (standAt iter.pos >>= _) _ _ s; exact wpAny_bind (wpAny_standAt (wpAny_bind (h _ _ (wpAny_pure (And.intro (ok.q _ _ _) h0))))))
noncomputable def cItems (C : Cx) (d : Nat) (sc₀ sc : Scope) (ε : Env1) (μ : Mem) (target : Expr) (ifs : List Expr) (emit : Addr → Env → Sem Unit) (x₀ : O) (items : List V) (k : Addr → Mem → Prop) : Prop :=
  ∀ acc, ∃ Inv : Nat → Mem → Prop, Inv 0 ((acc, x₀) :: μ) ∧
    (∀ i x μ', items[i]? = some x → Inv i μ' → ∃ bs, cTgt C sc₀ target (.v x) bs ∧ cIfs C d (relS sc₀ sc) (bs ++ dropN sc₀ ε) μ' ifs fun b μ₂ => (b = true → cU C d (relS sc₀ sc) (bs ++ dropN sc₀ ε) μ₂ (emit acc) (Inv (i + 1))) ∧ (b = false → Inv (i + 1) μ₂)) ∧
    ∀ μ', Inv items.length μ' → k acc μ'
theorem comp_core {e target iter : Expr} {ifs : List Expr} {emit : Addr → Env → Sem Unit} {newAcc : Sem Value} {o₀ : Obj} {x₀ : O} {ipos : Pos} (ok : CompOk C sc₀ sc e target iter ifs emit newAcc o₀ x₀ ipos) {use : Option (Value → Sem Unit)} {pos : Pos}
    {A : Around} {env : Env} {F Z : PMap} {s : Shared} {Q : Value → Shared → Prop} {kk : Addr → Mem → Prop} (hA : Rm A d) (hsc : env.scope = sc) (R : EnvRel C F Z env ε) (S : Sim C F Z μ s)
    (h : cE C d sc ε μ iter fun w μ₁ => ∃ P, cIter C d μ₁ w P ∧ ∀ items, P items → cItems C d sc₀ sc ε μ₁ target ifs emit x₀ items kk)
    (hQ : ∀ a μ' F' s' L oL, kk a μ' → PLe F F' → Z L = none → (∃ es n, oL.data = .dict es n ∧ StrKeys es) → Sim C F' (PSet Z L oL) μ' s' → compPost C.M A (fun _ _ => False) use Q (.ref a) L (.ok .next) s') :
    wpAny C.M A (comprehension e sc₀ env pos newAcc false (eval iter env) use) Q (fun _ _ => False) s := by
  subst hsc
  refine wpAny_comprehension_free ok.cl (fun x => ok.hs env x) (clos_ok R ok.hfree) ok.hk (fun x hx hl => mem_nodup_lookup ok.hn (by rw [← hl]; exact hx)) ?_
  refine wpBot (h A env F Z s hA rfl R S) fun v s₁ hq => ?_
  obtain ⟨w, F₁, μ₁, ⟨P, hI, hF⟩, le₁, S₁, hw⟩ := hq
  refine wpBot (hI A F₁ _ s₁ v hA S₁ hw) fun itv s₂ hq => ?_
  obtain ⟨it, items, J, F₂, o, e₂, hP, le₂, S₂, hz, hJ, hit⟩ := hq
  subst e₂
  refine el13 (hF items hP s₂.heap.objs.size) fun Inv inv0 turn fin => ?_
  refine ok.new _ _ _ _ ?_
  have S₃ := S₂.pushM ok.nf (ok.at0 F₂)
  have R₃ : EnvRel C F₂ (PSet Z it o) env ε := (R.mono (le₁.trans le₂)).le fun a ob e => by
    have ne : a ≠ it := fun q => by rw [q, hz] at e; cases e
    rw [PSet.ne _ _ ne]; exact e
  refine CEnv.enter S₃ R₃ ok.hk ok.hn ok.hfree fun cenv s₄ S₀ hcs hzl S₄ hC => ?_
  have hto : s₄.heap.get? it = some o := S₄.zz _ _ (by rw [PUn.pset]; exact PSet.self ..)
  refine comp_start ok rfl ?_ fun Q E hq => hit.self 0 A s₄ Q E o hto hJ hq
  refine codeAny_mono (comp_loop (sc := relS sc₀ env.scope) (fun env => ok.den _ _ env) (fun env => ok.wt A _ _ env) (fun env => ok.q _ _ env) hA rfl hit hz hJ S₄ hC inv0 turn) fun r s₅ hq => ?_
  obtain ⟨hr, F', S', μ', hInv, le', S₅, ⟨oL, hL⟩, zL, R₅⟩ := hq
  subst hr
  have hL' : PUn Z S' cenv.locals = some oL := by unfold PUn; rw [show Z cenv.locals = none from zL]; exact hL
  refine el34 (R₅.ns) fun ob es n h1 h2 h3 _ => ?_
  have h1 : PUn Z S' cenv.locals = some ob := h1
  rw [hL'] at h1; cases h1
  refine hQ _ μ' F' s₅ cenv.locals oL (fin μ' hInv) ((le₁.trans le₂).trans le') zL ⟨es, n, h2, h3⟩ ⟨S₅.base, S₅.fz, fun a o e => ?_, fun a o e => ?_, fun a x hm => ?_, S₅.nod, S₅.os, S₅.gens⟩
  · refine S₅.zz a o ?_
    by_cases q : a = cenv.locals
    · rw [q, PSet.self] at e; rw [q, hL']; exact e
    · rw [PSet.ne _ _ q] at e; exact PLe.unL a o e
  · refine S₅.dis a o ?_
    by_cases q : a = cenv.locals
    · rw [q, PSet.self] at e; rw [q, hL']; exact e
    · rw [PSet.ne _ _ q] at e; exact PLe.unL a o e
  · refine el03 (S₅.own a x hm) fun h1 h2 h3 => ?_
    refine ⟨h1, ?_, h3⟩
    have q : a ≠ cenv.locals := fun q => by rw [q, hL'] at h2; cases h2
    rw [PSet.ne _ _ q]
    cases e : Z a with
    | none => rfl
    | some o => rw [PLe.unL a o e] at h2; cases h2
theorem cE_comp {e target iter : Expr} {ifs : List Expr} {emit : Addr → Env → Sem Unit} {newAcc : Sem Value} {o₀ : Obj} {x₀ : O} {ipos pos : Pos} (ok : CompOk C sc₀ sc e target iter ifs emit newAcc o₀ x₀ ipos)
    (hev : ∀ env, eval e env = comprehension e sc₀ env pos newAcc false (eval iter env))
    (h : cE C d sc ε μ iter fun w μ₁ => ∃ P, cIter C d μ₁ w P ∧ ∀ items, P items → cItems C d sc₀ sc ε μ₁ target ifs emit x₀ items fun a μ' => k (.l a) μ') : cE C d sc ε μ e k := fun A env F Z s hA hs R S => by
  rw [hev]
  refine comp_core ok hA hs R S h fun a μ' F' s' L oL hk le zL ⟨es, n, hd, hsk⟩ S' => ?_
  refine ⟨nsFind es, S'.nsZ (PSet.self ..) hd hsk, fun h' hs => ?_⟩
  exact ⟨.l a, F', μ', hk, le, S'.but ⟨oL, PSet.self ..⟩ (fun b ob e => by
    have ne : b ≠ L := fun q => by rw [q, zL] at e; cases e
    rw [PSet.ne _ _ ne]; exact e) zL (fun b o ne e => (hs.2 b ne).trans e) s'.toks, rfl⟩
theorem cS1_comp {x : Str} {px spos : Pos} {e target iter : Expr} {ifs : List Expr} {emit : Addr → Env → Sem Unit} {newAcc : Sem Value} {o₀ : Obj} {x₀ : O} {ipos pos : Pos} (ok : CompOk C sc₀ sc e target iter ifs emit newAcc o₀ x₀ ipos)
    (hex : ∀ env : Env, env.scope = sc → exec (.Assign [.Name x px] e spos) env = (do standAt spos; let _ ← comprehension e sc₀ env pos newAcc false (eval iter env) (some (assign (.Name x px) env)); pure .next))
    (hk : sc.names.lookup x = some .local ∨ sc.names.lookup x = some .cell)
    (h : cE C d sc ε μ iter fun w μ₁ => ∃ P, cIter C d μ₁ w P ∧ ∀ items, P items → cItems C d sc₀ sc ε μ₁ target ifs emit x₀ items fun a μ' => kf .next ((x, .l a) :: ε) μ') : cS1 C d sc ε μ (.Assign [.Name x px] e spos) kf := fun A env F Z s hA hs SS => by
  rw [hex env hs]
  (refine el13 SS fun S₀ hS hR hO => ?_; try clear SS)
  refine wpAny_bind (wpAny_standAt (wpAny_bind (comp_core (Q := fun _ s' => wpAny C.M A (pure Flow.next) (PostS C Z env kf F) (fun _ _ => False) s') ok hA hs hR hS h fun a μ' F' s' L oL hkk le zL hoL S' => ?_)))
  (refine el22 hoL fun es n hd hsk => ?_; try clear hoL)
  have zl : Z L = none ∧ S₀ L = none := by
    unfold PUn at zL
    cases e : Z L with
    | none => rw [e] at zL; exact ⟨rfl, zL⟩
    | some _ => rw [e] at zL; cases zL
  have SS' : SimS C F' (PSet Z L oL) μ' s' env ε := by
    refine ⟨S₀, by rw [PUn.pset]; exact S', (hR.mono le).le fun a ob e => ?_, fun a ob e => ?_, hO.loc, hO.cell, hO.inj⟩
    · have ne : a ≠ L := fun q => by rw [q, zL] at e; cases e
      rw [PUn.pset, PSet.ne _ _ ne]; exact e
    · have ne : a ≠ L := fun q => by rw [q, zl.2] at e; cases e
      rw [PSet.ne _ _ ne]; exact hO.apart a ob e
  show wpAny C.M A (assign (.Name x px) env (.ref a)) _ _ s'
  refine wpAny_assign_Name (SS'.store (w := .l a) rfl (by subst hs; exact hk) fun s'' SS'' => ?_)
  (refine el13 SS'' fun S₂ a1 a2 a3 => ?_; try clear SS'')
  refine ⟨nsFind es, ?_, fun h' hsb => ?_⟩
  · exact Sim.nsZ (μ := μ') a1 (by rw [PUn.pset]; exact PSet.self ..) hd hsk
  · refine wpAny_pure ⟨.next, _, μ', F', hkk, rfl, le, ?_⟩
    exact SimS.leave ⟨S₂, a1, a2, a3⟩ zl.1 (fun b o ne e => (hsb.2 b ne).trans e) s''.toks
end
end
section
open PySem PySem.Calls
/-! ## freezing -/
inductive FrzW (a : Addr) (d : V) : W → W → Prop
  | same (w : W) : FrzW a d w w
  | put : FrzW a d (.l a) (.v d)
inductive FrzL (a : Addr) (d : V) : List W → List W → Prop
  | nil : FrzL a d [] []
  | cons {x y : W} {xs ys : List W} : FrzW a d x y → FrzL a d xs ys → FrzL a d (x :: xs) (y :: ys)
inductive FrzN {α : Type} (a : Addr) (d : V) : List (α × W) → List (α × W) → Prop
  | nil : FrzN a d [] []
  | cons {n : α} {x y : W} {xs ys : List (α × W)} : FrzW a d x y → FrzN a d xs ys → FrzN a d ((n, x) :: xs) ((n, y) :: ys)
inductive FrzO (a : Addr) (d : V) : O → O → Prop
  | same (o : O) : FrzO a d o o
  | list {xs ys : List W} : FrzL a d xs ys → FrzO a d (.list xs) (.list ys)
  | dict {xs ys : List (Key × W)} : FrzN a d xs ys → FrzO a d (.dict xs) (.dict ys)
  | ns {xs ys : List (Str × W)} : FrzN a d xs ys → FrzO a d (.ns xs) (.ns ys)
inductive FrzT (a : Addr) (d : V) : Mem → Mem → Prop
  | nil : FrzT a d [] []
  | cons {b : Addr} {x y : O} {xs ys : Mem} : FrzO a d x y → FrzT a d xs ys → FrzT a d ((b, x) :: xs) ((b, y) :: ys)
inductive Rem (b : Addr) : Mem → Mem → Prop
  | here {o : O} {μ : Mem} : Rem b ((b, o) :: μ) μ
  | there {p : Addr × O} {μ μ' : Mem} : Rem b μ μ' → Rem b (p :: μ) (p :: μ')
theorem FrzN.refl {α : Type} {a : Addr} {d : V} : ∀ (xs : List (α × W)), FrzN a d xs xs
  | [] => .nil
  | (_, _) :: r => .cons (.same _) (FrzN.refl r)
theorem FrzT.refl {a : Addr} {d : V} : ∀ (xs : Mem), FrzT a d xs xs
  | [] => .nil
  | (_, _) :: r => .cons (.same _) (FrzT.refl r)
theorem FrzT.append {a : Addr} {d : V} {x y x' y' : Mem} (h : FrzT a d x y) (h' : FrzT a d x' y') : FrzT a d (x ++ x') (y ++ y') := by
  induction h with
  | nil => exact h'
  | cons a _ ih => exact .cons a ih
theorem Rem.sub {b : Addr} {μ μ' : Mem} (h : Rem b μ μ') : μ'.Sublist μ := by
  induction h with
  | here => exact List.sublist_cons_self ..
  | there _ ih => exact ih.cons_cons _
theorem Rem.gone {b : Addr} {μ μ' : Mem} (h : Rem b μ μ') (hn : (μ.map (·.1)).Nodup) : ∀ o, (b, o) ∉ μ' := by
  induction h with
  | here =>
    simp only [List.map_cons, List.nodup_cons] at hn
    exact fun o hm => hn.1 (List.mem_map_of_mem (f := (·.1)) hm)
  | @there p μ μ' hr ih =>
    simp only [List.map_cons, List.nodup_cons] at hn
    intro o hm
    rcases List.mem_cons.mp hm with q | q
    · have hb : b ∈ μ.map (·.1) := by
        clear ih hn hm
        induction hr with
        | here => exact .head _
        | there _ ih => exact .tail _ ih
      exact hn.1 (by rw [← q]; exact hb)
    · exact ih hn.2 o q
section
variable {P : Params} {F F' : PMap} {a : Addr} {d : V}
theorem FrzW.at (le : PLe F F') (hv : Val P F' d (.ref a)) {w w' : W} {v : Value} (h : FrzW a d w w') (x : WAt P F w v) : WAt P F' w' v := by
  cases h with
  | same => exact x.mono le
  | put => refine WAt.i_l x ?_; exact hv
theorem FrzL.at (le : PLe F F') (hv : Val P F' d (.ref a)) {xs ys : List W} (h : FrzL a d xs ys) : ∀ {vs : List Value}, WsAt P F xs vs → WsAt P F' ys vs := by
  induction h with
  | nil => intro vs x; refine WsAt.i_nil x ?_; exact .nil
  | cons p _ ih => intro vs x; cases x with | cons q r => exact .cons (p.at le hv q) (ih r)
theorem FrzN.atD (le : PLe F F') (hv : Val P F' d (.ref a)) {xs ys : List (Key × W)} (h : FrzN a d xs ys) : ∀ {vs : List DictEntry}, EntsW P F xs vs → EntsW P F' ys vs := by
  induction h with
  | nil => intro vs x; cases x; exact .nil
  | cons p _ ih => intro vs x; cases x with | cons q1 q2 q3 r => exact .cons (q1.mono le) q2 (p.at le hv q3) (ih r)
theorem FrzN.keys {α : Type} {xs ys : List (α × W)} (h : FrzN a d xs ys) : ys.map (·.1) = xs.map (·.1) := by
  induction h with
  | nil => rfl
  | cons _ _ ih => simp [ih]
theorem FrzN.lookup {xs ys : List (Str × W)} (h : FrzN a d xs ys) {x : Str} {w' : W} : ys.lookup x = some w' → ∃ w, xs.lookup x = some w ∧ FrzW a d w w' := by
  induction h with
  | nil => intro e; cases e
  | @cons n p q xs ys hp _ ih =>
    intro e
    by_cases c : x = n
    · subst c; rw [lookup_cons_self] at e; cases e; exact ⟨_, lookup_cons_self, hp⟩
    · rw [lookup_cons_ne c] at e; rw [lookup_cons_ne c]; exact ih e
theorem FrzO.at (le : PLe F F') (hv : Val P F' d (.ref a)) {x y : O} {o : Obj} (h : FrzO a d x y) (ho : OAt P F x o) : OAt P F' y o := by
  cases h with
  | same => exact ho.mono le
  | list h => (refine el22 ho fun ws n b c => ?_; try clear ho); exact ⟨ws, n, b, h.at le hv c⟩
  | dict h => (refine el03 ho fun e qq1 dd => ?_; try clear ho; rcases qq1 with ⟨es, n, b, c⟩); exact ⟨e, ⟨es, n, b, h.atD le hv c⟩, by rw [h.keys]; exact dd⟩
  | @ns xs ys h =>
    (refine el24 ho fun es n b c z dd => ?_; try clear ho)
    refine ⟨es, n, b, c, ?_, fun x w q => ?_⟩
    · have := congrArg List.length h.keys
      simp only [List.length_map] at this
      lia
    · refine el12 (h.lookup q) fun w₀ e f => ?_
      refine el12 (dd x w₀ e) fun v g1 g2 => ?_
      exact ⟨v, g1, f.at le hv g2⟩
end
noncomputable def Fz (C : Cx) (ρ : W → W → Prop) (μ μ' : Mem) : Prop :=
  ∀ F Z s, Sim C F Z μ s → ∃ F', PLe F F' ∧ Sim C F' Z μ' s ∧ ∀ w w' v, ρ w w' → WAt C.P F w v → WAt C.P F' w' v
theorem PSet.le {F : PMap} {a : Addr} {o : Obj} (h : F a = none) : PLe F (PSet F a o) := fun b ob e => by
  have ne : b ≠ a := fun q => by rw [q, h] at e; cases e
  rw [PSet.ne _ _ ne]; exact e
theorem Sim.moveF {C : Cx} {F Z : PMap} {μ μ' : Mem} {s : Shared} {a : Addr} {o : O} (S : Sim C F Z μ s) (hr : Rem a μ μ') (hm : (a, o) ∈ μ) :
    ∃ ob, s.heap.get? a = some ob ∧ OAt C.P F o ob ∧ F a = none ∧ Sim C (PSet F a ob) Z μ' s := by
  obtain ⟨h1, h2, ob, h3, h4⟩ := S.own a o hm
  refine ⟨ob, h3, h4, h1, ⟨fun b p e => PSet.le h1 b p (S.base b p e), fun b p e => ?_, S.zz, fun b p e => ?_, fun b x hx => ?_, S.nod.sublist (hr.sub.map _), S.os, S.gens⟩⟩
  · by_cases q : b = a
    · subst q; rw [PSet.self] at e; cases e; exact h3
    · rw [PSet.ne _ _ q] at e; exact S.fz b p e
  · have q : b ≠ a := fun q => by rw [q, h2] at e; cases e
    rw [PSet.ne _ _ q]; exact S.dis b p e
  · obtain ⟨g1, g2, og, g3, g4⟩ := S.own b x (hr.sub.subset hx)
    have q : b ≠ a := fun q => by subst q; exact hr.gone S.nod.1 x hx
    exact ⟨by rw [PSet.ne _ _ q]; exact g1, g2, og, g3, g4.mono (PSet.le h1)⟩
theorem Sim.subst {C : Cx} {F Z : PMap} {μ μ' : Mem} {s : Shared} {a : Addr} {d : V} (S : Sim C F Z μ s) (hv : Val C.P F d (.ref a)) (h : FrzT a d μ μ') : Sim C F Z μ' s := by
  have hk : μ'.map (·.1) = μ.map (·.1) := by
    clear S
    induction h with
    | nil => rfl
    | cons _ _ ih => simp [ih]
  refine ⟨S.base, S.fz, S.zz, S.dis, fun b y hm => ?_, hk ▸ S.nod, S.os, S.gens⟩
  have : ∃ x, (b, x) ∈ μ ∧ FrzO a d x y := by
    clear S hk
    induction h with
    | nil => cases hm
    | cons p _ ih =>
      rcases List.mem_cons.mp hm with q | q
      · cases q; exact ⟨_, .head _, p⟩
      · refine el12 (ih q) fun x h1 h2 => ?_; exact ⟨x, .tail _ h1, h2⟩
  (refine el12 this fun x hx hf => ?_; try clear this)
  obtain ⟨h1, h2, ob, h3, h4⟩ := S.own b x hx
  exact ⟨h1, h2, ob, h3, hf.at (.refl _) hv h4⟩
noncomputable def frozenD : List (Key × W) → Option (List (Key × V))
  | [] => some []
  | (k, .v x) :: r => (frozenD r).map ((k, x) :: ·)
  | (_, .l _) :: _ => none
theorem Ents.of {P : Params} {F : PMap} : ∀ {xs : List (Key × W)} {ds : List (Key × V)} {vs : List DictEntry}, frozenD xs = some ds → EntsW P F xs vs → Ents P F ds vs
  | [], _, _, e, .nil => by cases e; exact .nil
  | (n, .v x) :: r, ds, _, e, .cons a b c dd => by
    unfold frozenD at e
    cases q : frozenD r with
    | none => rw [q] at e; cases e
    | some t => rw [q] at e; cases e; exact .cons a b c (Ents.of q dd)
  | (_, .l _) :: _, _, _, e, _ => by cases e
theorem frozenD_keys : ∀ {xs : List (Key × W)} {ds : List (Key × V)}, frozenD xs = some ds → ds.map (·.1) = xs.map (·.1)
  | [], _, e => by cases e; rfl
  | (n, .v x) :: r, ds, e => by
    unfold frozenD at e
    cases q : frozenD r with
    | none => rw [q] at e; cases e
    | some t => rw [q] at e; cases e; simp [frozenD_keys q]
  | (_, .l _) :: _, _, e => by cases e
theorem frozen_map : ∀ (vs : List V), frozen (vs.map .v) = some vs
  | [] => rfl
  | x :: r => by simp [frozen, frozen_map r]
theorem frozenD_map : ∀ (vs : List (Key × V)), frozenD (vs.map fun p => (p.1, .v p.2)) = some vs
  | [] => rfl
  | (k, x) :: r => by simp [frozenD, frozenD_map r]
inductive Done : O → V → Prop
  | list {ws : List W} {vs : List V} : frozen ws = some vs → Done (.list ws) (.list vs)
  | dict {kvs : List (Key × W)} {ds : List (Key × V)} : frozenD kvs = some ds → Done (.dict kvs) (.dict ds)
  | set {ks : List Key} : Done (.set ks) (.set ks)
theorem fz_obj {C : Cx} {a : Addr} {o : O} {d : V} {μ μ₁ μ₂ : Mem} (hm : (a, o) ∈ μ) (hd : Done o d) (hr : Rem a μ μ₁) (ht : FrzT a d μ₁ μ₂) : Fz C (FrzW a d) μ μ₂ := fun F Z s S => by
  have lo : (a == sysModules) = false := by
    have : mainGlobals < a := S.nod.2 a (List.mem_map_of_mem (f := (·.1)) hm)
    have h1 : (3 : Nat) < a := this
    have h2 : ¬ a = sysModules := fun q => by rw [q] at h1; exact absurd h1 (by decide)
    simpa using h2
  refine el14 (S.moveF hr hm) fun ob h1 h2 h3 S' => ?_
  have le := PSet.le (o := ob) h3
  have hv : Val C.P (PSet F a ob) d (.ref a) := by
    cases hd with
    | list e => (refine el22 h2 fun ws n qq2 hw => ?_; try clear h2; subst qq2); exact .list (PSet.self ..) (Vals.of e (hw.mono le))
    | dict e => (refine el03 h2 fun hx qq1 hn => ?_; try clear h2; rcases qq1 with ⟨es, n, hd, he⟩); exact .dict lo (PSet.self ..) hx hd (Ents.of e (he.mono le)) (by rw [frozenD_keys e]; exact hn)
    | set => obtain ⟨hx, es, n, t, hd, hl, he, hok⟩ := h2; exact .set (PSet.self ..) hx hd hl (fun i k q => let ⟨v, x, y⟩ := he i k q; ⟨v, x, y.mono le⟩) hok
  exact ⟨_, le, S'.subst hv ht, fun w w' v hw x => hw.at le hv x⟩
theorem Flds.ofN {P : Params} {F : PMap} {es : Array DictEntry} {fs : List (Str × W)} (h : ∀ x w, fs.lookup x = some w → ∃ v, nsFind es x = some v ∧ WAt P F w v) : ∀ {gs : List (Str × V)}, (∀ p ∈ gs, fs.lookup p.1 = some (.v p.2)) → Flds P F es gs
  | [], _ => .nil
  | (x, v) :: r, hp => by
    refine el12 (h x (.v v) (hp _ (.head _))) fun w h1 h2 => ?_
    exact .cons h1 h2 (Flds.ofN h fun p q => hp p (.tail _ q))
theorem fz_inst {C : Cx} {a dd c : Addr} {fs : List (Str × W)} {gs : List (Str × V)} {μ μ₁ μ₂ μ₃ : Mem} (hm : (a, O.inst c dd) ∈ μ₁) (hm2 : (dd, O.ns fs) ∈ μ) (hg : ∀ p ∈ gs, fs.lookup p.1 = some (.v p.2)) (hr : Rem dd μ μ₁) (hr2 : Rem a μ₁ μ₂)
    (ht : FrzT a (.inst c gs) μ₂ μ₃) : Fz C (FrzW a (.inst c gs)) μ μ₃ := fun F Z s S => by
  (refine el14 (S.moveF hr hm2) fun od h1 qq2 h3 S' => ?_; rcases qq2 with ⟨es, n, hdd, hk, hz, hf⟩)
  refine el14 (S'.moveF hr2 hm) fun ob g1 g2 g3 S'' => ?_
  have le1 := PSet.le (o := od) h3
  have le2 := PSet.le (o := ob) g3
  have le := le1.trans le2
  cases g2
  have hv : Val C.P (PSet (PSet F dd od) a _) (.inst c gs) (.ref a) := .inst (PSet.self ..) (le2 _ _ (PSet.self ..)) hdd hk (Flds.ofN (fun x w e => let ⟨v, p, q⟩ := hf x w e; ⟨v, p, q.mono le⟩) hg)
  exact ⟨_, le, S''.subst hv ht, fun w w' v hw x => hw.at le hv x⟩
theorem Fz.refl {C : Cx} {μ : Mem} : Fz C (fun w w' => w = w') μ μ := fun F Z s S => ⟨F, .refl _, S, fun w w' v e x => e ▸ x⟩
theorem Fz.weak {C : Cx} {μ μ' : Mem} (h : μ'.Sublist μ) : Fz C (fun w w' => w = w') μ μ' := fun F Z s S => ⟨F, .refl _, ⟨S.base, S.fz, S.zz, S.dis, fun a o q => S.own a o (h.subset q), S.nod.sublist (h.map _), S.os, S.gens⟩, fun w w' v e x => e ▸ x⟩
section
variable {C : Cx} {d : Nat} {sc sc₀ : Scope} {ε ε' : Env1} {μ μ' : Mem} {k k' : PostW} {kb : Bool → Mem → Prop} {kl : List W → Mem → Prop} {kf kf' : PostF} {ρ : W → W → Prop}
inductive RelN (ρ : W → W → Prop) : Env1 → Env1 → Prop
  | nil : RelN ρ [] []
  | cons {n : Str} {x y : W} {xs ys : Env1} : ρ x y → RelN ρ xs ys → RelN ρ ((n, x) :: xs) ((n, y) :: ys)
theorem RelN.lookup (h : RelN ρ ε ε') {x : Str} {w' : W} : ε'.lookup x = some w' → ∃ w, ε.lookup x = some w ∧ ρ w w' := by
  induction h with
  | nil => intro e; cases e
  | @cons n p q xs ys hp _ ih =>
    intro e
    by_cases c : x = n
    · subst c; rw [lookup_cons_self] at e; cases e; exact ⟨_, lookup_cons_self, hp⟩
    · rw [lookup_cons_ne c] at e; rw [lookup_cons_ne c]; exact ih e
theorem EnvRel.fz {F F' Z : PMap} {env : Env} (R : EnvRel C F Z env ε) (h : RelN ρ ε ε') (hv : ∀ w w' v, ρ w w' → WAt C.P F w v → WAt C.P F' w' v) : EnvRel C F' Z env ε' := by
  refine ⟨R.kind, R.glob, R.blt, ?_, fun x k => ?_⟩
  · refine el34 (R.ns) fun o es n hz hdt hsk hl => ?_
    refine ⟨o, es, n, hz, hdt, hsk, fun x w e q => ?_⟩
    refine el12 (h.lookup e) fun w₀ e₀ r => ?_
    refine el12 (hl x w₀ e₀ q) fun v h1 h2 => ?_
    exact ⟨v, h1, hv _ _ _ r h2⟩
  · refine el34 (R.cell x k) fun c o u hc hz hdt hl => ?_
    refine ⟨c, o, u, hc, hz, hdt, fun w e => ?_⟩
    refine el12 (h.lookup e) fun w₀ e₀ r => ?_
    refine el12 (hl w₀ e₀) fun v h1 h2 => ?_
    exact ⟨v, h1, hv _ _ _ r h2⟩
@[reducible] noncomputable def fzK (C : Cx) (k : PostW) : PostW := fun x μ₁ => ∃ (ρ : W → W → Prop) (x' : W) (μ₂ : Mem), Fz C ρ μ₁ μ₂ ∧ ρ x x' ∧ k x' μ₂
theorem cS.fz {st : List Stmt} (hz : Fz C ρ μ μ') (he : RelN ρ ε ε') (h : cS C d sc ε' μ' st kf) : cS C d sc ε μ st kf := fun A env F Z s hA hs SS => by
  (refine el13 SS fun S₀ hS hR hO => ?_; try clear SS)
  refine el13 (hz F _ s hS) fun F' le S' hv => ?_
  exact wpBot (h A env F' Z s hA hs ⟨S₀, S', hR.fz he hv, hO⟩) fun _ _ p => p.trans le
theorem cE.fzR {e : Expr} (h : cE C d sc ε μ e (fzK C k)) : cE C d sc ε μ e k := fun A env F Z s hA hs R S =>
  wpBot (h A env F Z s hA hs R S) fun v s' ⟨x, F₁, μ₁, ⟨ρ, x', μ₂, hz, hx, hk⟩, le₁, S₁, hw⟩ => by
    refine el13 (hz F₁ Z s' S₁) fun F' le S' hv => ?_
    exact ⟨x', F', μ₂, hk, le₁.trans le, S', hv _ _ _ hx hw⟩
theorem cCall.fzR {fv : Value} {xs : List W} {kws : List (Str × W)} (h : cCall C d μ fv xs kws (fzK C k)) : cCall C d μ fv xs kws k := fun A F Z s vs kvs hA S a b =>
  wpBot (h A F Z s vs kvs hA S a b) fun v s' ⟨x, F₁, μ₁, ⟨ρ, x', μ₂, hz, hx, hk⟩, le₁, S₁, hw⟩ => by
    refine el13 (hz F₁ Z s' S₁) fun F' le S' hv => ?_
    exact ⟨x', F', μ₂, hk, le₁.trans le, S', hv _ _ _ hx hw⟩
inductive RelL (ρ : W → W → Prop) : List W → List W → Prop
  | nil : RelL ρ [] []
  | cons {x y : W} {xs ys : List W} : ρ x y → RelL ρ xs ys → RelL ρ (x :: xs) (y :: ys)
theorem compL_ok {elt target iter : Expr} {ifs : List Expr} {pos : Pos} (hk : sc₀.kind = .function) (hn : (sc₀.names.map (·.1)).Nodup)
    (hfree : (sc₀.names.all fun x => x.2 != .free || (sc.names.lookup x.1 == some .cell || sc.names.lookup x.1 == some .free)) = true) (hs : ∀ env x, foldedSetIterable iter env x = pure x) :
    CompOk C sc₀ sc (.ListComp elt [⟨target, iter, ifs, 0⟩] sc₀ pos) target iter ifs (fun acc => emitL elt (.ref acc)) (newList []) { cls := .type "list", data := .seq #[] } (.list []) iter.pos where
  cl := rfl
  den := fun it acc env => by
    show (compTurn (.ListComp elt [⟨target, iter, ifs, 0⟩] sc₀ pos) 0 it (.ref acc) env).onRaise _ = _
    rw [compTurn_list]; rfl
  start := fun _ _ _ => rfl
  wt := fun A it acc env => Around.under_of_weight rfl
  wt' := fun A it acc env => Around.under_of_weight rfl
  q := fun _ _ _ => rfl
  new := fun A s Q E h => wpAny_newObj_type h
  at0 := fun F => ⟨_, _, rfl, .nil⟩
  nf := rfl
  hk := hk
  hn := hn
  hfree := hfree
  hs := hs
theorem compD_ok {kx vx target iter : Expr} {ifs : List Expr} {pos : Pos} (hk : sc₀.kind = .function) (hn : (sc₀.names.map (·.1)).Nodup)
    (hfree : (sc₀.names.all fun x => x.2 != .free || (sc.names.lookup x.1 == some .cell || sc.names.lookup x.1 == some .free)) = true) (hs : ∀ env x, foldedSetIterable iter env x = pure x) :
    CompOk C sc₀ sc (.DictComp kx vx [⟨target, iter, ifs, 0⟩] sc₀ pos) target iter ifs (fun acc => emitD kx vx acc) newDict { cls := .type "dict", data := .dict #[] } (.dict []) iter.pos where
  cl := rfl
  den := fun it acc env => by
    show (compTurn (.DictComp kx vx [⟨target, iter, ifs, 0⟩] sc₀ pos) 0 it (.ref acc) env).onRaise _ = _
    rw [compTurn_dict]; rfl
  start := fun _ _ _ => rfl
  wt := fun A it acc env => Around.under_of_weight rfl
  wt' := fun A it acc env => Around.under_of_weight rfl
  q := fun _ _ _ => rfl
  new := fun A s Q E h => wpAny_newObj_type h
  at0 := fun F => ⟨⟨rfl, rfl, rfl⟩, ⟨#[], _, rfl, .nil⟩, List.nodup_nil⟩
  nf := rfl
  hk := hk
  hn := hn
  hfree := hfree
  hs := hs
end
end
section
open PySem PySem.Calls
/-! ## keys -/
theorem Val.strs {P : Params} {F : PMap} {xs : List Str} {vs : List Value} (h : Vals P F (xs.map V.str) vs) : StrsAt xs vs := by
  induction xs generalizing vs with
  | nil => refine Vals.i_nil h ?_; exact .nil
  | cons x r ih => refine Vals.i_cons h fun w ws h1 h2 => ?_; refine Val.i_str h1 fun t => ?_; exact .cons (ih h2)
theorem StrsAt.vals {P : Params} {F : PMap} {xs : List Str} {vs : List Value} (h : StrsAt xs vs) : Vals P F (xs.map V.str) vs := by
  induction h with
  | nil => exact .nil
  | cons _ ih => exact .cons (.str _ _) ih
theorem Val.strTup {P : Params} {F : PMap} {xs : List Str} {v : Value} (h : Val P F (.tup (xs.map V.str)) v) : StrTup F xs v := by
  refine Val.i_tup h fun a ws n h1 h4 => ?_; exact ⟨_, _, _, rfl, h1, Val.strs h4⟩
theorem StrTup.val {P : Params} {F : PMap} {xs : List Str} {v : Value} (h : StrTup F xs v) : Val P F (.tup (xs.map V.str)) v := by
  (refine el33 h fun a ws n qq3 h1 h2 => ?_; try clear h; subst qq3); exact .tup h1 h2.vals
theorem Val.key {P : Params} {F : PMap} {k : Key} {v : Value} (h : Val P F k.val v) : KeyAt F k v := by
  cases k with
  | s x => exact Val.i_str h fun t => ⟨t, rfl⟩
  | t xs => exact Val.strTup h
  | p xs ys =>
    refine Val.i_tup h fun a ws n h1 h4 => ?_
    obtain ⟨l⟩ := ws
    have h5 : Vals P F _ l := h4
    revert h1
    clear h4
    refine Vals.i_cons h5 fun p ps hp hq => ?_
    refine Vals.i_cons hq fun q qs hp2 hq2 => ?_
    refine Vals.i_nil hq2 ?_
    exact fun h1 => ⟨_, _, _, _, rfl, h1, Val.strTup hp, Val.strTup hp2⟩
theorem KeyAt.val {P : Params} {F : PMap} {k : Key} {v : Value} (h : KeyAt F k v) : Val P F k.val v := by
  cases k with
  | s x => obtain ⟨t, e⟩ := h; rw [e]; exact .str _ _
  | t xs => exact StrTup.val h
  | p xs ys => (refine el44 h fun a u w n e h1 x y => ?_; try clear h); rw [e]; exact .tup h1 (.cons x.val (.cons y.val .nil))
theorem StrsAt.items {prog : Program} {w : World} {xs : List Str} {vs : List Value} (h : StrsAt xs vs) : ItemsAre (strKind prog w) xs vs := by
  induction h with
  | nil => exact .nil
  | cons _ ih => exact .cons (strKind_is _ _ _ _) ih
theorem StrTup.isKey {prog : Program} {w : World} {F : PMap} {h : Heap} (hF : PIn F h) {xs : List Str} {v : Value} (x : StrTup F xs v) : ∃ a, v = .ref a ∧ IsTupleKey (strKind prog w) h xs a := by
  (refine el33 x fun a ws n e h1 h2 => ?_; try clear x)
  exact ⟨a, e, _, ws, n, hF _ _ h1, rfl, rfl, h2.items⟩
section
variable {prog : Program} {w : World} {A : Around} {E : Value → Shared → Prop} {s : Shared} {F : PMap}
theorem hash_key {k : Key} {v : Value} {Q : Int → Shared → Prop} (hA : A.units < cLine) (hF : PIn F s.heap) (hk : KeyAt F k v) (hp : k.kind ≠ 2) (h : ∀ t, Q (k.hash w.params) { s with toks := t }) : wpAny (model prog w) A (pyHash v) Q E s := by
  cases k with
  | s x => obtain ⟨t, rfl⟩ := hk; exact (strKind prog w).pyHash (strKind_is _ _ _ _) (h _)
  | t xs =>
    (refine el12 (StrTup.isKey (prog := prog) (w := w) hF hk) fun a qq1 hx => ?_; subst qq1)
    exact (tupleKind (strKind prog w)).pyHash hA hx (h _)
  | p _ _ => exact absurd rfl hp
theorem EntsW.get {P : Params} {kvs : List (Key × W)} {es : List DictEntry} (h : EntsW P F kvs es) : ∀ {i : Nat} {e : DictEntry}, es[i]? = some e → ∃ k w, kvs[i]? = some (k, w) ∧ KeyAt F k e.key ∧ e.hash = k.hash P ∧ WAt P F w e.val := by
  induction h with
  | nil => intro i e q; cases i <;> cases q
  | cons a b c _ ih =>
    intro i e q
    cases i with
    | zero => cases q; exact ⟨_, _, rfl, a, b, c⟩
    | succ i => exact ih q
theorem EntsW.get' {P : Params} {kvs : List (Key × W)} {es : List DictEntry} (h : EntsW P F kvs es) : ∀ {i : Nat} {k : Key} {w : W}, kvs[i]? = some (k, w) → ∃ e, es[i]? = some e ∧ KeyAt F k e.key ∧ e.hash = k.hash P ∧ WAt P F w e.val := by
  induction h with
  | nil => intro i k w q; cases i <;> cases q
  | cons a b c _ ih =>
    intro i k w q
    cases i with
    | zero => cases q; exact ⟨_, rfl, a, b, c⟩
    | succ i => exact ih q
theorem EntsW.length {P : Params} {kvs : List (Key × W)} {es : List DictEntry} (h : EntsW P F kvs es) : es.length = kvs.length := by
  induction h with
  | nil => rfl
  | cons _ _ _ _ ih => simp [ih]
theorem EntsW.tups {kvs : List (Key × W)} {es : List DictEntry} (hF : PIn F s.heap) (h : EntsW w.params F kvs es) : (∀ p ∈ kvs, p.1.kind = 1) →
    ∃ xs : List (List Str × Addr × Value), es = xs.map (entryOfKey (tupleKind (strKind prog w))) ∧ (∀ x ∈ xs, (tupleKind (strKind prog w)).is s.heap x.1 x.2.1) ∧ kvs.map (·.1) = xs.map fun x => Key.t x.1 := by
  induction h with
  | nil => exact fun _ => ⟨[], rfl, (fun x hx => by cases hx), rfl⟩
  | @cons k u e kvs es a b c _ ih =>
    intro hk
    refine el13 (ih fun p hp => hk p (.tail _ hp)) fun xs h1 h2 h3 => ?_
    have hk1 := hk _ (.head _)
    cases k with
    | s x => cases hk1
    | p _ _ => cases hk1
    | t ys =>
      refine el12 (StrTup.isKey (prog := prog) (w := w) hF a) fun ad he hx => ?_
      refine ⟨(ys, ad, e.val) :: xs, ?_, fun x hm => ?_, ?_⟩
      · rw [List.map_cons, ← h1]
        obtain ⟨eh, ek, ev⟩ := e
        cases he; cases b; rfl
      · rcases List.mem_cons.mp hm with q | q
        · subst q; exact hx
        · exact h2 x q
      · simp [h3]
theorem find_key {kvs : List (Key × W)} {k : Key} {v : Value} {a : Addr} {ob : Obj} {es : Array DictEntry} {n : Nat} {Q : Option Nat → Shared → Prop} (hA : A.units < cLine) (hF : PIn F s.heap)
    (hkd : ∀ p ∈ kvs, p.1.kind = k.kind) (hp : k.kind ≠ 2) (ho : s.heap.get? a = some ob) (hd : ob.data = .dict es n) (he : EntsW w.params F kvs es.toList) (hn : (kvs.map (·.1)).Nodup) (hk : KeyAt F k v)
    (hnone : k ∉ kvs.map (·.1) → Q none s) (hsome : ∀ j u, kvs[j]? = some (k, u) → Q (some j) s) : wpAny (model prog w) A (dictFind a v (k.hash w.params)) Q E s := by
  cases k with
  | s x =>
    obtain ⟨t, rfl⟩ := hk
    have keyS : ∀ (i : Nat) (e : DictEntry), es.toList[i]? = some e → ∃ y u, kvs[i]? = some (Key.s y, u) ∧ (∃ t, e.key = .str y t) ∧ e.hash = (Key.s y).hash w.params := fun i e q => by
      refine el24 (he.get q) fun k' u h1 h2 h3 _ => ?_
      have hk1 := hkd _ (List.mem_of_getElem? h1)
      cases k' with
      | s y => exact ⟨y, u, h1, h2, h3⟩
      | t _ => cases hk1
      | p _ _ => cases hk1
    refine wpAny_dictFind_of (knd := strKind prog w) (strKind_is _ _ _ _) ho hd (fun e hm => ?_) ?_
    · obtain ⟨i, hi⟩ := List.mem_iff_getElem?.mp (Array.mem_toList_iff.mpr hm)
      (refine el23 (keyS i e hi) fun y u _ qq3 h3 => ?_; rcases qq3 with ⟨t', h2⟩)
      exact ⟨y, by rw [h2]; exact strKind_is _ _ _ _, h3⟩
    · cases hi : es.findIdx? fun e => (strKind prog w).is x e.key with
      | none =>
        refine hnone fun hm => ?_
        (refine el12 (List.mem_map.mp hm) fun qq0 hmem e => ?_; rcases qq0 with ⟨k', u⟩)
        obtain ⟨i, hi'⟩ := List.mem_iff_getElem?.mp hmem
        have e : k' = Key.s x := e
        subst e
        (refine el13 (he.get' hi') fun en h1 qq2 _ => ?_; rcases qq2 with ⟨t', h2⟩)
        have := Array.findIdx?_eq_none_iff.mp hi en (Array.mem_toList_iff.mp (List.mem_of_getElem? h1))
        rw [h2] at this
        have q : (strKind prog w).is x (.str x t') = true := strKind_is _ _ _ _
        rw [q] at this; cases this
      | some j =>
        have hj := Array.findIdx?_eq_some_iff_getElem.mp hi
        (refine el12 hj fun hlt hpj _ => ?_; try clear hj)
        (refine el23 (keyS j es[j] (by rw [Array.getElem?_toList]; exact Array.getElem?_eq_getElem hlt)) fun y u h1 qq3 _ => ?_; rcases qq3 with ⟨t', h2⟩)
        rw [h2] at hpj
        have hxy : x = y := (strKind prog w).inj _ _ _ hpj (strKind_is _ _ _ _)
        subst hxy
        exact hsome j u h1
  | t ks =>
    (refine el12 (StrTup.isKey (prog := prog) (w := w) hF hk) fun ad qq1 hx => ?_; subst qq1)
    refine el13 (EntsW.tups (prog := prog) hF he hkd) fun xs h1 h2 h3 => ?_
    have hnx : (xs.map (·.1)).Nodup := by
      rw [h3] at hn
      refine (List.pairwise_map.mp hn |> fun q => List.pairwise_map.mpr (q.imp fun hne e => hne (by rw [e])))
    refine wpAny_dictFind_heap (knd := tupleKind (strKind prog w)) hA hx ho hd h1 h2 hnx (fun hno => hnone fun hm => ?_) fun j p hj => ?_
    · rw [h3] at hm
      refine el12 (List.mem_map.mp hm) fun y hy e => ?_
      cases e
      obtain ⟨j, hj⟩ := List.mem_iff_getElem?.mp hy
      exact hno j y.2 hj
    · have : (kvs.map (·.1))[j]? = some (Key.t ks) := by rw [h3, List.getElem?_map, hj]; rfl
      rw [List.getElem?_map] at this
      cases q : kvs[j]? with
      | none => rw [q] at this; cases this
      | some p =>
        rw [q] at this
        obtain ⟨k', u⟩ := p
        have this : k' = Key.t ks := Option.some.inj this
        subst this
        exact hsome j u q
  | p _ _ => exact absurd rfl hp
structure DAt (w : World) (F : PMap) (s : Shared) (a : Addr) (kvs : List (Key × W)) (ob : Obj) (es : Array DictEntry) (n : Nat) : Prop where
  hF : PIn F s.heap
  ho : s.heap.get? a = some ob
  hx : ob.ExactDict
  hd : ob.data = .dict es n
  he : EntsW w.params F kvs es.toList
  hn : (kvs.map (·.1)).Nodup
theorem DAt.typeIs {a : Addr} {kvs : List (Key × W)} {ob : Obj} {es : Array DictEntry} {n : Nat} (D : DAt w F s a kvs ob es n) : s.TypeIs (.ref a) "dict" := ⟨ob, D.ho, D.hx.1⟩
theorem get_key {kvs : List (Key × W)} {k : Key} {v : Value} {a : Addr} {ob : Obj} {es : Array DictEntry} {n : Nat} {Q : Option Value → Shared → Prop} (hA : A.units < cLine) (D : DAt w F s a kvs ob es n)
    (hkd : ∀ p ∈ kvs, p.1.kind = k.kind) (hp : k.kind ≠ 2) (hk : KeyAt F k v)
    (hnone : k ∉ kvs.map (·.1) → ∀ t, Q none { s with toks := t }) (hsome : ∀ u x t, (k, u) ∈ kvs → WAt w.params F u x → Q (some x) { s with toks := t }) : wpAny (model prog w) A (dictGet a v) Q E s := by
  unfold dictGet
  try with_reducible refine wpAny_holding ?_
  refine wpAny_bind (hash_key hA D.hF hk hp fun t => ?_)
  refine wpAny_bind (find_key (s := { s with toks := t }) hA D.hF hkd hp D.ho D.hd D.he D.hn hk (fun hm => wpAny_pure (hnone hm t)) fun j u hj => ?_)
  refine wpAny_bind (wpAny_dictEntries (s := { s with toks := t }) D.ho D.hd ?_)
  refine el14 (D.he.get' hj) fun e h1 _ _ h4 => ?_
  rw [← Array.getElem?_toList, h1]
  exact wpAny_pure (hsome u e.val t (List.mem_of_getElem? hj) h4)
end
noncomputable def kput : List (Key × W) → Key → W → List (Key × W)
  | [], k, w => [(k, w)]
  | (k', w') :: r, k, w => if k' = k then (k', w) :: r else (k', w') :: kput r k w
theorem kput_new : ∀ {kvs : List (Key × W)} {k : Key} {w : W}, k ∉ kvs.map (·.1) → kput kvs k w = kvs ++ [(k, w)]
  | [], _, _, _ => rfl
  | (k', w') :: r, k, w, h => by
    have h1 : k' ≠ k := fun e => h (by simp [e])
    have h2 : k ∉ r.map (·.1) := fun m => h (by simp only [List.map_cons]; exact .tail _ m)
    unfold kput
    rw [if_neg h1, kput_new h2]; rfl
theorem kput_old : ∀ {kvs : List (Key × W)} {k : Key} {u w : W} {j : Nat}, (kvs.map (·.1)).Nodup → kvs[j]? = some (k, u) → kput kvs k w = kvs.modify j fun p => (p.1, w)
  | (k', w') :: r, k, u, w, 0, _, h => by cases h; simp [kput]
  | (k', w') :: r, k, u, w, j + 1, hn, h => by
    simp only [List.map_cons, List.nodup_cons] at hn
    have hm : k ∈ r.map (·.1) := List.mem_map_of_mem (f := (·.1)) (List.mem_of_getElem? (show r[j]? = some (k, u) from h))
    have h1 : k' ≠ k := fun e => hn.1 (e ▸ hm)
    unfold kput
    rw [if_neg h1, kput_old hn.2 (show r[j]? = some (k, u) from h)]
    rfl
theorem kput_keys : ∀ {kvs : List (Key × W)} {k : Key} {w : W}, (kput kvs k w).map (·.1) = if k ∈ kvs.map (·.1) then kvs.map (·.1) else kvs.map (·.1) ++ [k]
  | [], k, w => by simp [kput]
  | (k', w') :: r, k, w => by
    unfold kput
    by_cases e : k' = k
    · subst e; simp
    · rw [if_neg e, List.map_cons, kput_keys]
      by_cases m : k ∈ r.map (·.1)
      · rw [if_pos m, if_pos (by simp only [List.map_cons]; exact .tail _ m)]; rfl
      · rw [if_neg m, if_neg (by
          intro q
          simp only [List.map_cons] at q
          cases q with
          | head => exact e rfl
          | tail _ q => exact m q)]; rfl
theorem kput_nodup {kvs : List (Key × W)} {k : Key} {w : W} (h : (kvs.map (·.1)).Nodup) : ((kput kvs k w).map (·.1)).Nodup := by
  rw [kput_keys]
  by_cases m : k ∈ kvs.map (·.1)
  · rw [if_pos m]; exact h
  · rw [if_neg m, List.nodup_append]
    exact ⟨h, by simp, fun x hx y hy e => m (by simp only [List.mem_singleton] at hy; rw [← hy, ← e]; exact hx)⟩
theorem EntsW.push {P : Params} {F : PMap} {kvs : List (Key × W)} {es : List DictEntry} (h : EntsW P F kvs es) {k : Key} {w : W} {e : DictEntry} (a : KeyAt F k e.key) (b : e.hash = k.hash P) (c : WAt P F w e.val) : EntsW P F (kvs ++ [(k, w)]) (es ++ [e]) := by
  induction h with
  | nil => exact .cons a b c .nil
  | cons x y z _ ih => exact .cons x y z ih
theorem EntsW.modify {P : Params} {F : PMap} {kvs : List (Key × W)} {es : List DictEntry} (h : EntsW P F kvs es) {w : W} {v : Value} (c : WAt P F w v) : ∀ j, EntsW P F (kvs.modify j fun p => (p.1, w)) (es.modify j fun e => { e with val := v }) := by
  induction h with
  | nil => intro j; cases j <;> exact .nil
  | cons x y z r ih =>
    intro j
    cases j with
    | zero => exact .cons x y c r
    | succ j => exact .cons x y z (ih j)
section
variable {prog : Program} {w : World} {A : Around} {E : Value → Shared → Prop} {s : Shared} {F : PMap}
theorem set_key {kvs : List (Key × W)} {k : Key} {v x : Value} {u : W} {a : Addr} {ob : Obj} {es : Array DictEntry} {n : Nat} {Q : Unit → Shared → Prop} (hA : A.units < cLine) (D : DAt w F s a kvs ob es n)
    (hkd : ∀ p ∈ kvs, p.1.kind = k.kind) (hp : k.kind ≠ 2) (hk : KeyAt F k v) (hu : WAt w.params F u x) (hz : kvs.length ≤ 100000)
    (hQ : ∀ h' ob' t, Heap.SameBut a s.heap h' → h'.get? a = some ob' → OAt w.params F (.dict (kput kvs k u)) ob' → Q () { s with heap := h', toks := t }) : wpAny (model prog w) A (dictSet a v x) Q E s := by
  have hsz : es.size = kvs.length := by rw [← Array.length_toList, D.he.length]
  unfold dictSet
  try with_reducible refine wpAny_holding ?_
  refine wpAny_bind (hash_key hA D.hF hk hp fun t => ?_)
  unfold dictSetHashed
  try with_reducible refine wpAny_holding ?_
  refine wpAny_bind (find_key (s := { s with toks := t }) hA D.hF hkd hp D.ho D.hd D.he D.hn hk (fun hm => ?_) fun j u' hj => ?_)
  · refine wpAny_bind (wpAny_rule (wpAny_updateDictKeys (f := fun es => es.push ⟨k.hash w.params, v, x⟩) (hf := by rw [Array.size_push]; exact Nat.le_refl _) (hz := by rw [hsz]; show _ ≤ 2 ^ 24; lia) (s := { s with toks := t }) D.ho D.hd (hQ _ _ t (Heap.SameBut.update ..) (Heap.get?_update_self _ D.ho (Obj.isFreed_of_dict (Obj.data_mapDictKeys D.hd _))) ?_)))
    refine ⟨D.hx.mapDictKeys _, ⟨_, _, Obj.data_mapDictKeys D.hd _, ?_⟩, kput_nodup D.hn⟩
    rw [kput_new hm, Array.toList_push]
    exact D.he.push hk rfl hu
  · refine wpAny_bind (wpAny_rule (wpAny_bind (wpAny_updateDict (f := fun es => es.modify j fun e => { e with val := x }) (hz := by rw [Array.size_modify]; exact Nat.le_refl _) (s := { s with toks := t }) D.ho D.hd (wpAny_point (hQ _ _ t (Heap.SameBut.update ..) (Heap.get?_update_self _ D.ho (Obj.isFreed_of_dict (Obj.data_mapDict D.hd _))) ?_)))))
    refine ⟨D.hx.mapDict _, ⟨_, _, Obj.data_mapDict D.hd _, ?_⟩, kput_nodup D.hn⟩
    rw [kput_old D.hn hj, Array.toList_modify]
    exact D.he.modify hu j
end
end
section
open PySem PySem.Calls
/-! ## walking over a dict's keys, whatever they are -/
section
variable {prog : Program} {w : World} {A : Around} {E : Value → Shared → Prop} {s : Shared}
theorem iterD {d : Addr} {od : Obj} {es : Array DictEntry} {ep : Nat} {Q : Value → Shared → Prop} (hd : (d == sysModules) = false) (ho : s.heap.get? d = some od) (hc : od.cls = .type "dict") (hdat : od.data = .dict es ep)
    (hQ : Q (.ref s.heap.objs.size) { s with heap := s.heap.push { cls := .type "dict_keyiterator", data := .fields #[.ref d, .int 0 0, .int es.size 0, .int ep 0] } }) :
    wpAny (model prog w) A (pyIter (.ref d)) Q E s := by
  have hT : s.TypeIs (.ref d) "dict" := ⟨od, ho, hc⟩
  refine wpAny_pyIter_slot hT PySem.F.slot_dict_iter (wpAny_call_entry PySem.F.slot_dict_iter hT PySem.F.entry_dict_iter ?_ (PySem.F.args_dict_iter_1 _))
  unfold Builtin.«dict.__iter__»
  refine wpAny_bind ?_
  unfold Builtin.Dict.dictSlotNone
  refine wpAny_bind (wpAny_notOrdered_dict hT ?_)
  show wpAny _ _ (pure (Value.ref d)) _ _ s
  refine wpAny_pure ?_
  show wpAny _ _ (Builtin.Dict.showsAll d >>= _) _ _ s
  unfold Builtin.Dict.showsAll
  rw [if_neg (by rw [hd]; exact Bool.false_ne_true)]
  refine wpAny_bind (wpAny_pure ?_)
  refine wpAny_bind (wpAny_dictEntries ho hdat ?_)
  refine wpAny_bind (wpAny_dictEpoch ho hdat ?_)
  refine wpAny_bind (wpAny_newObj_type (wpAny_pure ⟨_, rfl, "dict_keyiterator", _, ⟨_, Heap.get?_push_size _ rfl, rfl⟩, PySem.F.slot_dict_keyiterator_next.lookup, ?_⟩))
  simpa [rawInt] using hQ
theorem nextD_item {it d : Addr} {i ep : Nat} {od : Obj} {es : Array DictEntry} {e : DictEntry} {Q : Option Value → Shared → Prop} (hit : s.heap.IsKeyIter it d i es.size ep) (hod : s.heap.get? d = some od) (hdd : od.data = .dict es ep)
    (hx : es[i]? = some e) (hQ : ∀ h', h'.IsKeyIter it d (i + 1) es.size ep → Heap.SameBut it s.heap h' → Q (some e.key) { s with heap := h' }) : wpAny (model prog w) A (pyNext (.ref it)) Q E s := by
  refine el13 (id hit) fun o ho hc hd => ?_
  unfold pyNext
  refine wpAny_bind (wpAny_attempt (wpAny_callSpecial?_slot (name := Str.ofString "__next__") hit.typeIs PySem.F.slot_dict_keyiterator_next
    (wpAny_call_entry PySem.F.slot_dict_keyiterator_next hit.typeIs PySem.F.entry_dict_keyiterator_next ?_ (PySem.F.args_dict_keyiterator_next_1 _))))
  refine wpAny_bind (wpAny_pure ?_)
  refine wpAny_bind ?_
  refine wpAny_bind ?_
  first | refine wpAny_bind (wpAny_typeNameOfWhole_keyiter hit.typeIs (wpAny_pure ?_)) | refine wpAny_bind (wpAny_typeNameOf_keyiter hit.typeIs (wpAny_pure ?_))
  refine wpAny_bind (wpAny_fieldsOf ho hd ?_)
  have hown : Builtin.Dict_items.ownsTuple "dict_keyiterator" = false := by decide
  rw [if_neg (show ¬ (Builtin.Dict_items.ownsTuple "dict_keyiterator" = true) from hown ▸ Bool.false_ne_true)]
  show wpAny _ _ (if (Value.ref d == Value.none) = true then _ else _) _ _ s
  rw [if_neg (show ¬ ((Value.ref d == Value.none) = true) from Bool.false_ne_true)]
  refine wpAny_bind (wpAny_pure ?_)
  refine wpAny_bind (wpAny_dictEntries hod hdd ?_)
  rw [if_neg (by simp)]
  refine wpAny_bind (wpAny_pure ?_)
  refine wpAny_bind (wpAny_dictEpoch hod hdd ?_)
  rw [if_neg (by simp)]
  refine wpAny_pure ?_
  dsimp only
  rw [if_neg (show ¬ ((i : Int) < 0) from by lia), Int.toNat_natCast, hx]
  dsimp only
  refine wpAny_bind ?_
  first | refine wpAny_bind (wpAny_typeNameOfWhole_keyiter hit.typeIs (wpAny_pure ?_)) | refine wpAny_bind (wpAny_typeNameOf_keyiter hit.typeIs (wpAny_pure ?_))
  refine wpAny_bind (wpAny_isOneOf_keyiter hit.typeIs ?_)
  show wpAny _ _ (setField (.ref it) 1 (rawInt ((i : Int) + 1)) >>= _) _ _ s
  refine wpAny_bind (wpAny_setField ho hd (by simp) ?_)
  have hit' : (s.heap.update it (Obj.mapFields (·.setIfInBounds 1 (rawInt ((i : Int) + 1))))).IsKeyIter it d (i + 1) es.size ep :=
    ⟨_, Heap.get?_update_self _ ho (Obj.isFreed_of_fields (Obj.data_mapFields hd _)), (Obj.cls_mapFields ..).trans hc, by rw [Obj.data_mapFields hd]; simp [rawInt]⟩
  refine wpAny_bind (wpAny_holding ?_)
  refine wpAny_bind (wpAny_isOneOf_keyiter (s := { s with heap := s.heap.update it (Obj.mapFields (·.setIfInBounds 1 (rawInt ((i : Int) + 1)))) }) hit'.typeIs ?_)
  show wpAny _ _ (pure e.key) _ _ _
  exact wpAny_pure (wpAny_pure ⟨_, rfl, wpAny_pure (hQ _ hit' (Heap.SameBut.update ..))⟩)
theorem nextD_end {it d : Addr} {i ep : Nat} {od : Obj} {es : Array DictEntry} {Q : Option Value → Shared → Prop} (hh : A.handled = none) (hit : s.heap.IsKeyIter it d i es.size ep) (hod : s.heap.get? d = some od) (hdd : od.data = .dict es ep)
    (hx : es[i]? = none) (hQ : ∀ h', Heap.ExtBut it s.heap h' → Q none { s with heap := h' }) : wpAny (model prog w) A (pyNext (.ref it)) Q E s := by
  refine el13 (id hit) fun o ho hc hd => ?_
  unfold pyNext
  refine wpAny_bind (wpAny_attempt (wpAny_callSpecial?_slot (name := Str.ofString "__next__") hit.typeIs PySem.F.slot_dict_keyiterator_next
    (wpAny_call_entry PySem.F.slot_dict_keyiterator_next hit.typeIs PySem.F.entry_dict_keyiterator_next ?_ (PySem.F.args_dict_keyiterator_next_1 _))))
  refine wpAny_bind (wpAny_pure ?_)
  refine wpAny_bind ?_
  refine wpAny_bind ?_
  first | refine wpAny_bind (wpAny_typeNameOfWhole_keyiter hit.typeIs (wpAny_pure ?_)) | refine wpAny_bind (wpAny_typeNameOf_keyiter hit.typeIs (wpAny_pure ?_))
  refine wpAny_bind (wpAny_fieldsOf ho hd ?_)
  have hown : Builtin.Dict_items.ownsTuple "dict_keyiterator" = false := by decide
  rw [if_neg (show ¬ (Builtin.Dict_items.ownsTuple "dict_keyiterator" = true) from hown ▸ Bool.false_ne_true)]
  show wpAny _ _ (if (Value.ref d == Value.none) = true then _ else _) _ _ s
  rw [if_neg (show ¬ ((Value.ref d == Value.none) = true) from Bool.false_ne_true)]
  refine wpAny_bind (wpAny_pure ?_)
  refine wpAny_bind (wpAny_dictEntries hod hdd ?_)
  rw [if_neg (by simp)]
  refine wpAny_bind (wpAny_pure ?_)
  refine wpAny_bind (wpAny_dictEpoch hod hdd ?_)
  rw [if_neg (by simp)]
  refine wpAny_pure ?_
  dsimp only
  rw [if_neg (show ¬ ((i : Int) < 0) from by lia), Int.toNat_natCast, hx]
  dsimp only
  refine wpAny_bind ?_
  first | refine wpAny_bind (wpAny_typeNameOfWhole_keyiter hit.typeIs (wpAny_pure ?_)) | refine wpAny_bind (wpAny_typeNameOf_keyiter hit.typeIs (wpAny_pure ?_))
  show wpAny _ _ (setField (.ref it) 0 .none >>= _) _ _ s
  refine wpAny_bind (wpAny_setField ho hd (by simp) ?_)
  show wpAny _ _ (newExc (.type "StopIteration") [] >>= _) _ _ _
  refine wpAny_bind ?_
  unfold newExc newTuple
  refine wpAny_bind (wpAny_newObj_type ?_ (by size_fits))
  refine wpAny_bind (m := firstArgMember _ _) (wpAny_of_eq (a := Value.none) (by first | rfl | (unfold firstArgMember; rfl)) ?_)
  refine wpAny_newObj_type ?_ (by size_fits)
  unfold raiseNew
  refine wpAny_bind (wpAny_handled ?_)
  rw [show A.in1.handled = none from hh]
  refine wpAny_bind (wpAny_pure (wpAny_throw ?_))
  refine wpAny_bind (wpAny_isInstance (T := "StopIteration") (b := true) ⟨_, Heap.get?_push_size _ rfl, rfl⟩ isSubtype_stop ?_)
  exact wpAny_pure (hQ _ (((Heap.SameBut.update ..).extBut.push _).push _))
theorem truthyD {d : Addr} {od : Obj} {es : Array DictEntry} {ep : Nat} {Q : Bool → Shared → Prop} (hd : (d == sysModules) = false) (ho : s.heap.get? d = some od) (hc : od.cls = .type "dict") (hdat : od.data = .dict es ep) (hfit : es.size < 100000000)
    (h : ∀ t, Q (!es.isEmpty) { s with toks := t }) : wpAny (model prog w) A (truthy (.ref d)) Q E s := by
  have hT : s.TypeIs (.ref d) "dict" := ⟨od, ho, hc⟩
  have hne : ((es.size : Int) != 0) = !es.isEmpty := by
    cases e : es.isEmpty with
    | true => have := Array.isEmpty_iff_size_eq_zero.mp e; rw [this]; rfl
    | false =>
      have : es.size ≠ 0 := fun q => by have := Array.isEmpty_iff_size_eq_zero.mpr q; rw [e] at this; cases this
      simpa using (by lia : ¬ (es.size : Int) = 0)
  have mlen : MeetsIn prog w (Builtin.«dict.__len__» ⟨[.ref d], []⟩) (fun _ R s' => s'.heap = s.heap ∧ R (.ok (.ret (.int es.size s'.toks))) { s' with toks := s'.toks + 1 }) :=
    .of_wp fun A R s' ⟨e, h⟩ => by
      show wpAny _ _ (dictSize d >>= _) _ _ s'
      unfold dictSize
      refine wpAny_bind (wpAny_bind (wpAny_dictEntries (by rw [e]; exact ho) hdat (wpAny_pure ?_)))
      show wpAny _ _ (Builtin.Dict.pendingCount d >>= _) _ _ s'
      refine wpAny_bind (wpAny_pendingCount_other hd ?_)
      refine wpAny_ret_mkInt ?_
      rw [Nat.add_zero]; exact h
  have key : wpAny (model prog w) A (runValue (.builtin "len" ⟨[.ref d], []⟩)) (fun r s' => r = .int es.size (s.toks + 1) ∧ Q (!es.isEmpty) s') E s := by
    refine wpAny_runValue (codeAny_builtin entry_len ?_)
    rw [Around.under_plainId plain_len _]
    show wpAny _ _ (Builtin.«len» ⟨[.ref d], []⟩) _ _ _
    unfold Builtin.«len»
    refine wpAny_bind (m := oneArg "len" _) (wpAny_pure ?_)
    refine wpAny_bind (m := callSpecial? (.ref d) (Str.ofString "__len__")) (wpAny_callSpecial?_slot (name := Str.ofString "__len__") hT PySem.F.slot_dict_len
      (call_meetsIn PySem.F.slot_dict_len hT PySem.F.entry_dict_len (PySem.F.args_dict_len_1 _) mlen ⟨rfl, ?_⟩))
    show wpAny _ _ _ _ _ { s with toks := s.toks + 1 }
    refine wpAny_bind (wpAny_holding (wpAny_pure ?_))
    refine wpAny_bind (wpAny_letGo ?_)
    show wpAny _ _ (if ((es.size : Nat) : Int) < 0 then _ else _) _ _ _
    rw [if_neg (by lia)]
    show wpAny _ _ (if ((es.size : Nat) : Int) ≥ 2 ^ 63 then _ else _) _ _ _
    rw [if_neg (by lia)]
    exact wpAny_bind (wpAny_mkInt (wpAny_pure ⟨rfl, h _⟩))
  unfold truthy
  first
    | refine wpAny_bind (wpAny_callSpecial?_none (name := Str.ofString "__bool__") hT noBool_dict ?_)
    | refine wpAny_bind (wpAny_pure (wpAny_bind (wpAny_callSpecial?_none (name := Str.ofString "__bool__") hT noBool_dict ?_)))
  first
    | refine wpAny_bind (wpAny_specialOf (name := Str.ofString "__len__") hT PySem.F.slot_dict_len.lookup ?_)
    | refine wpAny_bind (wpAny_pure (wpAny_bind (wpAny_specialOf (name := Str.ofString "__len__") hT PySem.F.slot_dict_len.lookup ?_)))
  first
    | exact wpAny_bind (wpAny_mono key (fun r s' h' => by obtain ⟨rfl, hq⟩ := h'; exact wpAny_pure (hne ▸ hq)) fun _ _ e => e)
    | exact wpAny_bind (wpAny_pure (wpAny_bind (wpAny_mono key (fun r s' h' => by obtain ⟨rfl, hq⟩ := h'; exact wpAny_pure (hne ▸ hq)) fun _ _ e => e)))
end
end
section
open PySem PySem.Calls
section
variable {prog : Program} {w : World} {A : Around} {E : Value → Shared → Prop} {s : Shared} {F : PMap} {kvs : List (Key × W)} {k : Key} {v : Value} {a : Addr} {ob : Obj} {es : Array DictEntry} {n : Nat}
theorem containsD {Q : Bool → Shared → Prop} (hA : A.units + 1 < cLine) (lo : (a == sysModules) = false) (D : DAt w F s a kvs ob es n) (hkd : ∀ p ∈ kvs, p.1.kind = k.kind) (hp : k.kind ≠ 2) (hk : KeyAt F k v)
    (h : ∀ t, Q (decide (k ∈ kvs.map (·.1))) { s with toks := t }) : wpAny (model prog w) A (contains (.ref a) v) Q E s := by
  unfold contains
  try with_reducible refine wpAny_holding ?_
  refine wpAny_bind (wpAny_specialOf D.typeIs slot_dict_contains.lookup ?_)
  show wpAny _ _ (if (some (Value.builtin "dict.__contains__") == some Value.none) = true then _ else _) _ E s
  rw [if_neg (by rw [beq_builtin_none]; exact Bool.false_ne_true)]
  refine wpAny_bind (wpAny_callSpecialUnlessNone?_slot (name := Str.ofString "__contains__") D.typeIs slot_dict_contains
    (wpAny_call_entry slot_dict_contains D.typeIs entry_dict_contains ?_ (args_dict_contains _ _)))
  show wpAny _ _ (dictGet a v >>= _) _ _ s
  refine wpAny_bind (get_key (A := A.in1) hA D hkd hp hk (fun hm t => ?_) fun u x t hm hw => ?_)
  · have h' := h t
    rw [decide_eq_false hm] at h'
    show wpAny _ _ (Builtin.Dict.pendingKey? a v >>= _) _ _ _
    exact wpAny_bind (wpAny_pendingKey_other lo (wpAny_pure ⟨_, rfl, wpAny_truthy_bool h'⟩))
  · have h' := h t
    rw [decide_eq_true (List.mem_map_of_mem (f := (·.1)) hm)] at h'
    exact wpAny_pure ⟨_, rfl, wpAny_truthy_bool h'⟩
theorem getItemD {u : W} {Q : Value → Shared → Prop} (hA : A.units + 1 < cLine) (D : DAt w F s a kvs ob es n) (hkd : ∀ p ∈ kvs, p.1.kind = k.kind) (hp : k.kind ≠ 2) (hk : KeyAt F k v) (hm : (k, u) ∈ kvs)
    (h : ∀ x t, WAt w.params F u x → Q x { s with toks := t }) : wpAny (model prog w) A (getItem (.ref a) v) Q E s := by
  unfold getItem
  try with_reducible refine wpAny_holding ?_
  refine wpAny_bind (wpAny_sequenceKey D.typeIs (by decide) ?_)
  refine wpAny_bind (wpAny_callSpecial?_slot (name := Str.ofString "__getitem__") D.typeIs slot_dict_getitem
    (wpAny_call_entry slot_dict_getitem D.typeIs entry_dict_getitem ?_ (args_dict_getitem _ _)))
  show wpAny _ _ (dictGet a v >>= _) _ _ s
  refine wpAny_bind (get_key (A := A.in1) hA D hkd hp hk (fun hno t => ?_) fun u' x t hm' hw => ?_)
  · exact absurd (List.mem_map_of_mem (f := (·.1)) hm) hno
  · have e : u' = u := by
      obtain ⟨i, hi⟩ := List.mem_iff_getElem?.mp hm
      obtain ⟨j, hj⟩ := List.mem_iff_getElem?.mp hm'
      have hi' : (kvs.map (·.1))[i]? = some k := by rw [List.getElem?_map, hi]; rfl
      have hj' : (kvs.map (·.1))[j]? = some k := by rw [List.getElem?_map, hj]; rfl
      have : i = j := (List.getElem?_inj (List.getElem?_eq_some_iff.mp hi').1 D.hn).mp (hi'.trans hj'.symm)
      subst this
      rw [hi] at hj; cases hj; rfl
    subst e
    exact wpAny_pure ⟨x, rfl, wpAny_pure (h x t hw)⟩
theorem setItemD {x : Value} {u : W} {Q : Unit → Shared → Prop} (hA : A.units + 1 < cLine) (D : DAt w F s a kvs ob es n) (hkd : ∀ p ∈ kvs, p.1.kind = k.kind) (hp : k.kind ≠ 2) (hk : KeyAt F k v) (hu : WAt w.params F u x) (hz : kvs.length ≤ 100000)
    (hQ : ∀ h' ob' t, Heap.SameBut a s.heap h' → h'.get? a = some ob' → OAt w.params F (.dict (kput kvs k u)) ob' → Q () { s with heap := h', toks := t }) : wpAny (model prog w) A (setItem (.ref a) v x) Q E s := by
  unfold setItem
  try with_reducible refine wpAny_holding ?_
  refine wpAny_bind (wpAny_sequenceKey D.typeIs (by decide) ?_)
  refine wpAny_bind (wpAny_callSpecial?_slot (name := Str.ofString "__setitem__") D.typeIs slot_dict_setitem
    (wpAny_call_entry slot_dict_setitem D.typeIs entry_dict_setitem ?_ (args_dict_setitem _ _ _)))
  show wpAny _ _ (Builtin.Dict.notOrdered "__setitem__" ⟨[.ref a, v, x], []⟩ >>= _) _ _ s
  refine wpAny_bind (wpAny_notOrdered_dict D.typeIs ?_)
  show wpAny _ _ (dictSet a v x >>= _) _ _ s
  exact wpAny_bind (set_key (A := A.in1) hA D hkd hp hk hu hz fun h' ob' t a1 a2 a3 => wpAny_pure ⟨.none, rfl, wpAny_pure (hQ h' ob' t a1 a2 a3)⟩)
theorem callGetD {dflt : Value} {Q : Value → Shared → Prop} (hA : A.units + 1 < cLine) (lo : (a == sysModules) = false) (D : DAt w F s a kvs ob es n) (hkd : ∀ p ∈ kvs, p.1.kind = k.kind) (hp : k.kind ≠ 2) (hk : KeyAt F k v)
    (hnone : k ∉ kvs.map (·.1) → ∀ t, Q dflt { s with toks := t }) (hsome : ∀ u x t, (k, u) ∈ kvs → WAt w.params F u x → Q x { s with toks := t }) : wpAny (model prog w) A (call (.builtin "dict.get") [.ref a, v, dflt]) Q E s := by
  refine wpAny_call_entry PySem.F.slot_dict_get D.typeIs PySem.F.entry_dict_get ?_ (PySem.F.args_dict_get_3 _ _ _)
  show wpAny _ _ (dictGet a v >>= _) _ _ s
  refine wpAny_bind (get_key (A := A.in1) hA D hkd hp hk (fun hno t => ?_) fun u x t hm hw => ?_)
  · show wpAny _ _ (Builtin.Dict.missed a v >>= _) _ _ _
    exact wpAny_bind (wpAny_missed_other lo (wpAny_pure ⟨dflt, rfl, hnone hno t⟩))
  · exact wpAny_pure ⟨x, rfl, hsome u x t hm hw⟩
theorem callSetDefaultD {x : Value} {u : W} {Q : Value → Shared → Prop} (hA : A.units + 1 < cLine) (lo : (a == sysModules) = false) (D : DAt w F s a kvs ob es n) (hkd : ∀ p ∈ kvs, p.1.kind = k.kind) (hp : k.kind ≠ 2) (hk : KeyAt F k v) (hu : WAt w.params F u x) (hz : kvs.length ≤ 100000)
    (hsome : ∀ u y t, (k, u) ∈ kvs → WAt w.params F u y → Q y { s with toks := t })
    (hnone : k ∉ kvs.map (·.1) → ∀ h' ob' t, Heap.SameBut a s.heap h' → h'.get? a = some ob' → OAt w.params F (.dict (kput kvs k u)) ob' → Q x { s with heap := h', toks := t }) : wpAny (model prog w) A (call (.builtin "dict.setdefault") [.ref a, v, x]) Q E s := by
  have hsz : es.size = kvs.length := by rw [← Array.length_toList, D.he.length]
  refine wpAny_call_entry PySem.F.slot_dict_setdefault D.typeIs PySem.F.entry_dict_setdefault ?_ (PySem.F.args_dict_setdefault_3 _ _ _)
  unfold Builtin.«dict.setdefault»
  refine wpAny_bind ?_
  unfold Builtin.Dict.keyAndDefault
  refine wpAny_bind (wpAny_notOrdered_dict D.typeIs ?_)
  show wpAny _ _ (pure (a, v, some x)) _ _ s
  refine wpAny_pure ?_
  show wpAny _ _ (if (a == sysModules) = true then _ else (dictSetDefault a v x >>= _)) _ _ s
  rw [if_neg (by rw [lo]; exact Bool.false_ne_true)]
  refine wpAny_bind ?_
  unfold dictSetDefault
  try with_reducible refine wpAny_holding ?_
  refine wpAny_bind (hash_key (A := A.in1) hA D.hF hk hp fun t => ?_)
  refine wpAny_bind (find_key (A := A.in1) (s := { s with toks := t }) hA D.hF hkd hp D.ho D.hd D.he D.hn hk (fun hm => ?_) fun j u' hj => ?_)
  · refine wpAny_bind (wpAny_rule (wpAny_bind (wpAny_updateDictKeys (f := fun es => es.push ⟨k.hash w.params, v, x⟩) (hf := by rw [Array.size_push]; exact Nat.le_refl _) (hz := by rw [hsz]; show _ ≤ 2 ^ 24; lia) (s := { s with toks := t }) D.ho D.hd
      (wpAny_pure (wpAny_pure ⟨x, rfl, hnone hm _ _ t (Heap.SameBut.update ..) (Heap.get?_update_self _ D.ho (Obj.isFreed_of_dict (Obj.data_mapDictKeys D.hd _))) ?_⟩)))))
    refine ⟨D.hx.mapDictKeys _, ⟨_, _, Obj.data_mapDictKeys D.hd _, ?_⟩, kput_nodup D.hn⟩
    rw [kput_new hm, Array.toList_push]
    exact D.he.push hk rfl hu
  · refine wpAny_bind (wpAny_dictEntries (s := { s with toks := t }) D.ho D.hd ?_)
    refine el14 (D.he.get' hj) fun e h1 _ _ h4 => ?_
    rw [← Array.getElem?_toList, h1]
    exact wpAny_bind (wpAny_rule (wpAny_pure (wpAny_pure ⟨e.val, rfl, hsome u' e.val t (List.mem_of_getElem? hj) h4⟩)))
end
/-! ## on the account -/
noncomputable def Has (μ : Mem) : W → O → Prop
  | .l a, o => (a, o) ∈ μ
  | .v (.list vs), o => o = .list (vs.map .v)
  | .v (.dict kvs), o => o = .dict (kvs.map fun p => (p.1, .v p.2))
  | .v (.set ks), o => o = .set ks
  | _, _ => False
theorem Ents.w {P : Params} {F : PMap} : ∀ {kvs : List (Key × V)} {es : List DictEntry}, Ents P F kvs es → EntsW P F (kvs.map fun p => (p.1, W.v p.2)) es
  | _, _, .nil => .nil
  | _, _, .cons a b c d => .cons a b c (Ents.w d)
section
variable {C : Cx} {d : Nat} {sc : Scope} {ε : Env1} {μ μ' : Mem} {k k' : PostW} {kb : Bool → Mem → Prop} {kl : List W → Mem → Prop} {kf kf' : PostF}
theorem Sim.noSys {F Z : PMap} {s : Shared} (S : Sim C F Z μ s) {a : Addr} {o : O} (hm : (a, o) ∈ μ) : (a == sysModules) = false := by
  have : mainGlobals < a := S.nod.2 a (List.mem_map_of_mem (f := (·.1)) hm)
  have h1 : (3 : Nat) < a := this
  have h2 : ¬ a = sysModules := fun q => by rw [q] at h1; exact absurd h1 (by decide)
  simpa using h2
theorem Has.dict {F Z : PMap} {s : Shared} (S : Sim C F Z μ s) {x : W} {kvs : List (Key × W)} {v : Value} (h : Has μ x (.dict kvs)) (hw : WAt C.P F x v) : ∃ a ob es n, v = .ref a ∧ (a == sysModules) = false ∧ DAt C.w F s a kvs ob es n := by
  cases x with
  | l a =>
    refine WAt.i_l hw ?_
    obtain ⟨_, _, ob, h3, hx, ⟨es, n, hd, he⟩, hn⟩ := S.own a _ h
    exact ⟨a, ob, es, n, rfl, S.noSys h, S.fz, h3, hx, hd, he, hn⟩
  | v y =>
    cases y with
    | dict l =>
      injection (show O.dict kvs = O.dict _ from h) with e; subst e
      exact Val.i_dict hw fun a o es n h0 h1 h2 h3 h4 h5 => ⟨_, _, _, _, rfl, h0, S.fz, S.fz _ _ h1, h2, h3, h4.w, by rw [List.map_map]; exact h5⟩
    | list => exact nomatch (show O.dict kvs = O.list _ from h)
    | set => exact nomatch (show O.dict kvs = O.set _ from h)
    | _ => exact False.elim h
theorem v_inD {x : W} {kvs : List (Key × W)} {key : Key} (hH : Has μ x (.dict kvs)) (hkd : ∀ p ∈ kvs, p.1.kind = key.kind) (hp : key.kind ≠ 2) (h : k (.v (.bool (decide (key ∈ kvs.map (·.1))))) μ) : cV2 C d μ (.v key.val) x (compareOp .In) k := fun A F Z s u v hA S hu hv => by
  (refine el43 (hH.dict S hv) fun a ob es n qq4 lo D => ?_; subst qq4)
  show wpAny _ _ (do return Value.bool (← contains (.ref a) u)) _ _ s
  exact wpAny_bind (containsD (by have := hA.un; lia) lo D hkd hp (Val.key hu) fun t => wpAny_pure ⟨_, F, μ, h, .refl _, S.tok t, .bool _⟩)
theorem v_notInD {x : W} {kvs : List (Key × W)} {key : Key} (hH : Has μ x (.dict kvs)) (hkd : ∀ p ∈ kvs, p.1.kind = key.kind) (hp : key.kind ≠ 2) (h : k (.v (.bool (!decide (key ∈ kvs.map (·.1))))) μ) : cV2 C d μ (.v key.val) x (compareOp .NotIn) k := fun A F Z s u v hA S hu hv => by
  (refine el43 (hH.dict S hv) fun a ob es n qq4 lo D => ?_; subst qq4)
  show wpAny _ _ (do return Value.bool (!(← contains (.ref a) u))) _ _ s
  exact wpAny_bind (containsD (by have := hA.un; lia) lo D hkd hp (Val.key hu) fun t => wpAny_pure ⟨_, F, μ, h, .refl _, S.tok t, .bool _⟩)
theorem v_itemD {x u : W} {kvs : List (Key × W)} {key : Key} (hH : Has μ x (.dict kvs)) (hkd : ∀ p ∈ kvs, p.1.kind = key.kind) (hp : key.kind ≠ 2) (hm : (key, u) ∈ kvs) (h : k u μ) : cV2 C d μ x (.v key.val) getItem k := fun A F Z s y v hA S hu hv => by
  (refine el43 (hH.dict S hu) fun a ob es n qq4 lo D => ?_; subst qq4)
  exact getItemD (by have := hA.un; lia) D hkd hp (Val.key hv) hm fun x t hx => ⟨u, F, μ, h, .refl _, S.tok t, hx⟩
theorem sub_dict {x : W} {kvs : List (Key × W)} (hH : Has μ x (.dict kvs)) : SubOk C μ x := ⟨"dict", _, slot_dict_getitem.lookup, fun F Z s v S hv => by
  (refine el43 (hH.dict S hv) fun a ob es n qq4 lo D => ?_; subst qq4); exact ⟨D.typeIs, fun _ e => by cases e⟩⟩
theorem m_dict {x : W} {kvs : List (Key × W)} {name : Str} {id : String} {kk : Value → List W → Mem → Prop} (hH : Has μ x (.dict kvs)) (slot : Slot "dict" name id) (hty : typeOf (.builtin id) = pure (.type "method_descriptor")) (h : kk (.builtin id) [x] μ) :
    cMeth C d μ x name kk := fun A F Z s v pl hA S hv => by
  (refine el43 (hH.dict S hv) fun a ob es n qq4 lo D => ?_; subst qq4)
  exact getMethod_builtin D.typeIs PySem.F.plainAttrs_dict slot hty (fun b e => by cases e; exact ⟨_, D.ho, D.hx.2.1⟩) ⟨[x], F, μ, h, .refl _, S, .cons hv .nil⟩
theorem c_getD {x dflt : W} {kvs : List (Key × W)} {key : Key} (hH : Has μ x (.dict kvs)) (hkd : ∀ p ∈ kvs, p.1.kind = key.kind) (hp : key.kind ≠ 2) (hnone : key ∉ kvs.map (·.1) → k dflt μ) (hsome : ∀ u, (key, u) ∈ kvs → k u μ) :
    cCall C d μ (.builtin "dict.get") [x, .v key.val, dflt] [] k := fun A F Z s vs kws hA S hv hkw => by
  refine KwAt.i_nil hkw ?_
  refine WsAt.i3 hv fun v1 v2 v3 h1 h2 h3 => ?_
  (refine el43 (hH.dict S h1) fun a ob es n qq4 lo D => ?_; subst qq4)
  exact callGetD (by have := hA.un; lia) lo D hkd hp (Val.key h2) (fun hno t => ⟨dflt, F, μ, hnone hno, .refl _, S.tok t, h3⟩) fun u x t hm hx => ⟨u, F, μ, hsome u hm, .refl _, S.tok t, hx⟩
theorem c_setdefaultD {a : Addr} {w : W} {kvs : List (Key × W)} {key : Key} (hH : (a, O.dict kvs) ∈ μ) (hkd : ∀ p ∈ kvs, p.1.kind = key.kind) (hp : key.kind ≠ 2) (hz : kvs.length ≤ 100000)
    (hnone : key ∉ kvs.map (·.1) → ∃ μ', UpdAt a (.dict kvs) (.dict (kput kvs key w)) μ μ' ∧ k w μ') (hsome : ∀ u, (key, u) ∈ kvs → k u μ) :
    cCall C d μ (.builtin "dict.setdefault") [.l a, .v key.val, w] [] k := fun A F Z s vs kws hA S hv hkw => by
  refine KwAt.i_nil hkw ?_
  refine WsAt.i3 hv fun v1 v2 v3 h1 h2 h3 => ?_
  refine el43 (Has.dict S (x := .l a) hH h1) fun a' ob es n e lo D => ?_
  obtain rfl : a' = a := Value.ref.inj (e.symm.trans h1)
  rw [e]
  exact callSetDefaultD (by have := hA.un; lia) lo D hkd hp (Val.key h2) h3 hz (fun u y t hm hy => ⟨u, F, μ, hsome u hm, .refl _, S.tok t, hy⟩) fun hno h' ob' t a1 a2 a3 => by
    refine el12 (hnone hno) fun μ' hU hk => ?_
    exact ⟨w, F, μ', hk, .refl _, S.updM hU a1 a2 a3 t, h3⟩
theorem si_dict {a : Addr} {kvs : List (Key × W)} {key : Key} {w : W} {kk : Mem → Prop} (hU : UpdAt a (.dict kvs) (.dict (kput kvs key w)) μ μ') (hkd : ∀ p ∈ kvs, p.1.kind = key.kind) (hp : key.kind ≠ 2) (hz : kvs.length ≤ 100000) (h : kk μ') :
    cSetI C d μ (.l a) (.v key.val) w kk := fun A F Z s u b v hA S hu hb hv => by
  refine WAt.i_l hu ?_
  refine el43 (Has.dict S (x := .l a) hU.mem rfl) fun a' ob es n e lo D => ?_
  cases e
  exact setItemD (by have := hA.un; lia) D hkd hp (Val.key hb) hv hz fun h' ob' t a1 a2 a3 => ⟨F, μ', h, .refl _, S.updM hU a1 a2 a3 t⟩
theorem ds_dict {a : Addr} {kvs : List (Key × W)} {key : Key} {w : W} {kk : Mem → Prop} (hU : UpdAt a (.dict kvs) (.dict (kput kvs key w)) μ μ') (hkd : ∀ p ∈ kvs, p.1.kind = key.kind) (hp : key.kind ≠ 2) (hz : kvs.length ≤ 100000) (h : kk μ') :
    cDSet C d μ a (.v key.val) w kk := fun A F Z s b v hA S hb hv => by
  refine el43 (Has.dict S (x := .l a) hU.mem rfl) fun a' ob es n e lo D => ?_
  cases e
  exact set_key (by have := hA.un; lia) D hkd hp (Val.key hb) hv hz fun h' ob' t a1 a2 a3 => ⟨F, μ', h, .refl _, S.updM hU a1 a2 a3 t⟩
theorem t_dict {x : W} {kvs : List (Key × W)} (hH : Has μ x (.dict kvs)) (hz : kvs.length ≤ 100000) (h : kb (!kvs.isEmpty) μ) : cB1 C d μ x truthy kb := fun A F Z s v hA S hv => by
  (refine el43 (hH.dict S hv) fun a ob es n qq4 lo D => ?_; subst qq4)
  have hsz : es.size = kvs.length := by rw [← Array.length_toList, D.he.length]
  refine truthyD lo D.ho D.hx.1 D.hd (by rw [hsz]; lia) fun t => ⟨F, μ, ?_, .refl _, S.tok t⟩
  have : es.isEmpty = kvs.isEmpty := by
    obtain ⟨l⟩ := es
    cases l <;> cases kvs <;> simp_all
  rw [this]; exact h
theorem it_dict {kvs : List (Key × V)} : cIter C d μ (.v (.dict kvs)) (· = kvs.map fun p => p.1.val) := fun A F Z s v hA S hv => by
  refine Val.i_dict hv fun a o es n h0 h1 h2 h3 h4 h5 => ?_
  have hes := h4.w
  have hsz : es.size = kvs.length := by rw [← Array.length_toList, hes.length, List.length_map]
  refine iterD h0 (S.fz _ _ h1) h2.1 h3 ⟨s.heap.objs.size, _, fun i o => o.cls = .type "dict_keyiterator" ∧ o.data = .fields #[.ref a, .int i 0, .int es.size 0, .int n 0], F, _, rfl, rfl, .refl _, S.pushZ rfl, (fresh_none S).2.1, ⟨rfl, rfl⟩, ?_⟩
  refine ⟨fun i o h => ⟨_, _, h.1, h.2, by decide⟩, fun i x A s' Q E o hh hF ho hJ hx hQ => ?_, fun i A s' Q E o hh hF ho hJ hx hQ => ?_, fun i A s' Q E o ho hJ h => wpAny_pyIter_keyiter ⟨o, ho, hJ.1, hJ.2⟩ h⟩
  · rw [List.getElem?_map] at hx
    cases q : kvs[i]? with
    | none => rw [q] at hx; cases hx
    | some p =>
      obtain ⟨k', u⟩ := p
      rw [q] at hx; cases hx
      refine el13 (hes.get' (i := i) (k := k') (w := .v u) (by rw [List.getElem?_map, q]; rfl)) fun e g1 g2 _ => ?_
      refine nextD_item ⟨o, ho, hJ.1, hJ.2⟩ (hF _ _ h1) h3 (e := e) (by rw [← Array.getElem?_toList]; exact g1) fun h' hit hs => ?_
      (refine el13 hit fun o' ho' hc' hd' => ?_; try clear hit)
      exact hQ e.key h' o' s'.toks g2.val hs ho' ⟨hc', hd'⟩
  · refine nextD_end hh ⟨o, ho, hJ.1, hJ.2⟩ (hF _ _ h1) h3 ?_ fun h' hs => hQ h' s'.toks fun b ob ne e => hs b ob ne e
    rw [Array.getElem?_eq_none_iff, hsz]
    have := List.getElem?_eq_none_iff.mp hx
    rw [List.length_map] at this; exact this
theorem cE_dict0 {pos : Pos} (h : ∀ a, k (.l a) ((a, .dict []) :: μ)) : cE C d sc ε μ (.Dict [] [] pos) k := fun A env F Z s hA hs R S => by
  exact wpAny_Dict_empty ⟨_, F, _, h _, .refl _, S.pushM (x := .dict []) rfl ⟨⟨rfl, rfl, rfl⟩, ⟨#[], _, rfl, .nil⟩, List.nodup_nil⟩, rfl⟩
end
end
section
open PySem
/-! ## the road of the search covers the table -/
noncomputable def gg (x : Nat) : Nat := x * 5 + 1
noncomputable def ggN : Nat → Nat → Nat
  | 0, x => x
  | n + 1, x => ggN n (gg x)
theorem ggN_add (m n x : Nat) : ggN (m + n) x = ggN n (ggN m x) := by
  induction m generalizing x with
  | zero => rw [Nat.zero_add]; rfl
  | succ m ih => rw [Nat.succ_add]; exact ih (gg x)
theorem gg_pow (k : Nat) : ∃ m, ∀ y, ggN (2 ^ k) y = y + (4 * y + 1) * (2 ^ k * (2 * m + 1)) := by
  induction k with
  | zero => exact ⟨0, fun y => by show gg y = _; unfold gg; lia⟩
  | succ k ih =>
    obtain ⟨m, hm⟩ := ih
    generalize hc : 2 ^ k * (2 * m + 1) = c at hm
    refine ⟨m + (2 * m + 1) * c, fun y => ?_⟩
    rw [show 2 ^ (k + 1) = 2 ^ k + 2 ^ k by rw [Nat.pow_succ]; lia, ggN_add, hm, hm]
    have e1 : (2 ^ k + 2 ^ k) * (2 * (m + (2 * m + 1) * c) + 1) = 2 * c * (1 + 2 * c) := by
      have e2 : 2 * (m + (2 * m + 1) * c) + 1 = (2 * m + 1) * (1 + 2 * c) := by grind
      rw [e2]
      have e3 : (2 ^ k + 2 ^ k) * ((2 * m + 1) * (1 + 2 * c)) = 2 * (2 ^ k * (2 * m + 1)) * (1 + 2 * c) := by
        generalize 2 ^ k = p
        generalize 2 * m + 1 = q
        grind
      rw [e3, hc]
    rw [e1]
    grind
theorem mod_two (p x : Nat) : x % (2 * p) = x % p ∨ x % (2 * p) = x % p + p := by
  have h := Nat.mod_mul (a := p) (b := 2) (x := x)
  have h2 : x / p % 2 = 0 ∨ x / p % 2 = 1 := by lia
  rw [Nat.mul_comm p 2] at h
  rcases h2 with q | q
  · rw [q, Nat.mul_zero] at h; exact .inl h
  · rw [q, Nat.mul_one] at h; exact .inr h
theorem gg_cover (k : Nat) : ∀ x j, ∃ n, n < 2 ^ k ∧ ggN n x % 2 ^ k = j % 2 ^ k := by
  induction k with
  | zero => exact fun x j => ⟨0, by decide, by simp [Nat.mod_one]⟩
  | succ k ih =>
    intro x j
    refine el12 (ih x j) fun n hn he => ?_
    have hp : 2 ^ (k + 1) = 2 * 2 ^ k := by rw [Nat.pow_succ]; lia
    obtain ⟨m, hm⟩ := gg_pow k
    by_cases h : ggN n x % 2 ^ (k + 1) = j % 2 ^ (k + 1)
    · exact ⟨n, by lia, h⟩
    · refine ⟨n + 2 ^ k, by lia, ?_⟩
      rw [ggN_add, hm]
      generalize ggN n x = y at *
      have pos : 0 < 2 ^ k := Nat.two_pow_pos k
      generalize hP : 2 ^ k = p at *
      have e2 : (4 * y + 1) * (p * (2 * m + 1)) = p + 2 * p * ((4 * y + 1) * m + 2 * y) := by grind
      rw [e2, hp]
      rw [hp] at h
      have e3 : (y + (p + 2 * p * ((4 * y + 1) * m + 2 * y))) % (2 * p) = (y + p) % (2 * p) := by
        rw [← Nat.add_assoc, Nat.add_mul_mod_self_left]
      rw [e3]
      have hy := mod_two p y
      have hj := mod_two p j
      have hlt : y % p < p := Nat.mod_lt _ pos
      have hyp : (y + p) % (2 * p) = (y % (2 * p) + p) % (2 * p) := by rw [Nat.mod_add_mod]
      rw [hyp]
      rcases hy with q | q
      · rcases hj with r | r
        · exact absurd (by lia) h
        · rw [q, Nat.mod_eq_of_lt (by lia)]; lia
      · rcases hj with r | r
        · rw [q, show y % p + p + p = y % p + 2 * p by lia, Nat.add_mod_right, Nat.mod_eq_of_lt (by lia)]; lia
        · exact absurd (by lia) h
noncomputable def lpN (mask : Nat) (x : Nat × Nat) : Nat → Nat × Nat
  | 0 => x
  | n + 1 => SetTable.leap mask (lpN mask x n).1 (lpN mask x n).2
theorem lpN_snd (mask i q : Nat) (n : Nat) : (lpN mask (i, q) n).2 = q / 32 ^ n := by
  induction n with
  | zero => simp [lpN]
  | succ n ih => show (lpN mask (i, q) n).2 / 32 = _; rw [ih, Nat.div_div_eq_div_mul, Nat.pow_succ]
theorem ggN_succ (n x : Nat) : ggN (n + 1) x = gg (ggN n x) := by rw [ggN_add]; rfl
theorem lpN_far {mask k i q : Nat} (hm : mask + 1 = 2 ^ k) (hq : q < 2 ^ 64) (m : Nat) : (lpN mask (i, q) (13 + m)).1 % 2 ^ k = ggN m (lpN mask (i, q) 13).1 % 2 ^ k := by
  induction m with
  | zero => rfl
  | succ m ih =>
    show ((lpN mask (i, q) (13 + m)).1 * 5 + 1 + (lpN mask (i, q) (13 + m)).2 / 32) % (mask + 1) % 2 ^ k = _
    rw [lpN_snd, hm, Nat.mod_mod, ggN_succ]
    have z : q / 32 ^ (13 + m) = 0 := by
      apply Nat.div_eq_of_lt
      have : 32 ^ 13 ≤ 32 ^ (13 + m) := Nat.pow_le_pow_right (by decide) (by lia)
      have : (2 : Nat) ^ 64 < 32 ^ 13 := by decide
      lia
    rw [z]
    show ((lpN mask (i, q) (13 + m)).1 * 5 + 1 + 0 / 32) % 2 ^ k = (ggN m (lpN mask (i, q) 13).1 * 5 + 1) % 2 ^ k
    rw [Nat.add_mod, Nat.add_mod _ 1, Nat.mul_mod, ih]
    simp [Nat.add_mod, Nat.mul_mod]
theorem lpN_fst_lt {mask i q : Nat} (hi : i ≤ mask) : ∀ n, (lpN mask (i, q) n).1 ≤ mask
  | 0 => hi
  | n + 1 => by
    have : (SetTable.leap mask (lpN mask (i, q) n).1 (lpN mask (i, q) n).2).1 < mask + 1 := Nat.mod_lt _ (by lia)
    show (SetTable.leap mask _ _).1 ≤ mask
    lia
theorem lpN_cover {mask k i q j : Nat} (hm : mask + 1 = 2 ^ k) (hq : q < 2 ^ 64) (hi : i ≤ mask) (hj : j ≤ mask) : ∃ n, n < SetTable.turns mask ∧ (lpN mask (i, q) n).1 = j := by
  refine el12 (gg_cover k (lpN mask (i, q) 13).1 j) fun m h1 h2 => ?_
  refine ⟨13 + m, by unfold SetTable.turns; lia, ?_⟩
  have h3 := lpN_far (i := i) hm hq m
  rw [h2, Nat.mod_eq_of_lt (by have := lpN_fst_lt (q := q) hi (13 + m); lia), Nat.mod_eq_of_lt (by lia)] at h3
  exact h3
theorem bits_lt (h : Int) : SetTable.bits h < 2 ^ 64 := by
  unfold SetTable.bits
  have h1 : 0 ≤ h % (2 ^ 64 : Int) := Int.emod_nonneg _ (by decide)
  have h2 : h % (2 ^ 64 : Int) < 2 ^ 64 := Int.emod_lt_of_pos _ (by decide)
  lia
theorem prb_run {t : SetTable} {h : Int} {n i q r : Nat} (h0 : prb t h n = { j := i, more := r, i := i, perturb := q, dummy := none }) : ∀ m, m ≤ r → prb t h (n + m) = { j := i + m, more := r - m, i := i, perturb := q, dummy := none }
  | 0, _ => h0
  | m + 1, hm => by
    show t.advance (prb t h (n + m)) = _
    rw [prb_run h0 m (by lia)]
    unfold SetTable.advance
    rw [if_pos (by show r - m > 0; lia)]
    simp only [SetTable.Probe.mk.injEq, and_true, true_and]
    lia
noncomputable def blk (mask : Nat) (x : Nat × Nat) : SetTable.Probe := ⟨x.1, SetTable.runEnd mask x.1 - x.1, x.1, x.2, none⟩
theorem prb_block {t : SetTable} {h : Int} : ∀ L, ∃ n, n ≤ 10 * L ∧ prb t h n = blk t.mask (lpN t.mask (SetTable.bits h % (t.mask + 1), SetTable.bits h) L)
  | 0 => ⟨0, by lia, rfl⟩
  | L + 1 => by
    refine el12 (prb_block (t := t) (h := h) L) fun n hn he => ?_
    generalize hx : lpN t.mask (SetTable.bits h % (t.mask + 1), SetTable.bits h) L = x at he
    have hr : SetTable.runEnd t.mask x.1 - x.1 ≤ 9 := by unfold SetTable.runEnd; split <;> lia
    have := prb_run he _ (Nat.le_refl _)
    refine ⟨n + (SetTable.runEnd t.mask x.1 - x.1) + 1, by lia, ?_⟩
    show t.advance (prb t h _) = _
    rw [this]
    unfold SetTable.advance
    rw [if_neg (by show ¬ (SetTable.runEnd t.mask x.1 - x.1 - (SetTable.runEnd t.mask x.1 - x.1) > 0); lia)]
    have e : lpN t.mask (SetTable.bits h % (t.mask + 1), SetTable.bits h) (L + 1) = SetTable.leap t.mask x.1 x.2 := by show SetTable.leap _ _ _ = _; rw [hx]
    rw [e]; rfl
theorem prb_cover {t : SetTable} {h : Int} {k j : Nat} (hm : t.mask + 1 = 2 ^ k) (hj : j ≤ t.mask) : ∃ n, n < 10 * SetTable.turns t.mask ∧ (prb t h n).j = j := by
  refine el12 (lpN_cover (i := SetTable.bits h % (t.mask + 1)) (q := SetTable.bits h) hm (bits_lt h) (by have := Nat.mod_lt (SetTable.bits h) (show 0 < t.mask + 1 by lia); lia) hj) fun L h1 h2 => ?_
  refine el12 (prb_block (t := t) (h := h) L) fun n h3 h4 => ?_
  exact ⟨n, by lia, by rw [h4]; exact h2⟩
theorem prb_le {t : SetTable} {h : Int} : ∀ n, (prb t h n).j + (prb t h n).more ≤ t.mask ∧ (prb t h n).dummy = none
  | 0 => by
    refine ⟨?_, rfl⟩
    show SetTable.bits h % (t.mask + 1) + (SetTable.runEnd t.mask (SetTable.bits h % (t.mask + 1)) - SetTable.bits h % (t.mask + 1)) ≤ t.mask
    have := Nat.mod_lt (SetTable.bits h) (show 0 < t.mask + 1 by lia)
    unfold SetTable.runEnd; split <;> lia
  | n + 1 => by
    obtain ⟨h1, h2⟩ := prb_le (t := t) (h := h) n
    show (t.advance (prb t h n)).j + (t.advance (prb t h n)).more ≤ t.mask ∧ (t.advance (prb t h n)).dummy = none
    unfold SetTable.advance
    split
    · refine ⟨?_, h2⟩
      show (prb t h n).j + 1 + ((prb t h n).more - 1) ≤ _
      lia
    · refine ⟨?_, h2⟩
      show (SetTable.leap t.mask (prb t h n).i (prb t h n).perturb).1 + (SetTable.runEnd t.mask (SetTable.leap t.mask (prb t h n).i (prb t h n).perturb).1 - (SetTable.leap t.mask (prb t h n).i (prb t h n).perturb).1) ≤ t.mask
      have : (SetTable.leap t.mask (prb t h n).i (prb t h n).perturb).1 < t.mask + 1 := Nat.mod_lt _ (by lia)
      unfold SetTable.runEnd; split <;> lia
/-! ## the places, in order -/
theorem below_go {xs : Array Nat} {j : Nat} (hs : xs.toList.Pairwise (· < ·)) : ∀ (fuel lo hi : Nat), lo ≤ hi → hi ≤ xs.size → hi - lo ≤ fuel → (∀ i, i < lo → xs.getD i j < j) → (∀ i, hi ≤ i → i < xs.size → j ≤ xs.getD i j) →
    SetTable.below.go xs j fuel lo hi ≤ xs.size ∧ (∀ i, i < SetTable.below.go xs j fuel lo hi → xs.getD i j < j) ∧ (∀ i, SetTable.below.go xs j fuel lo hi ≤ i → i < xs.size → j ≤ xs.getD i j)
  | 0, lo, hi, h1, h2, h3, h4, h5 => by
    unfold SetTable.below.go
    exact ⟨by lia, h4, fun i a b => h5 i (by lia) b⟩
  | fuel + 1, lo, hi, h1, h2, h3, h4, h5 => by
    have mono : ∀ a b, a < b → b < xs.size → xs.getD a j < xs.getD b j := fun a b hab hb => by
      have := List.pairwise_iff_getElem.mp hs a b (by simp; lia) (by simpa using hb) hab
      simpa [Array.getD, hb, show a < xs.size by lia] using this
    unfold SetTable.below.go
    split
    · rename_i hlt
      dsimp only
      split
      · rename_i hc
        refine below_go hs fuel _ hi (by lia) h2 (by lia) (fun i hi' => ?_) h5
        rcases Nat.lt_or_ge i ((lo + hi) / 2) with q | q
        · exact Nat.lt_trans (mono i _ q (by lia)) hc
        · rw [show i = (lo + hi) / 2 by lia]; exact hc
      · rename_i hc
        refine below_go hs fuel lo _ (by lia) (by lia) (by lia) h4 (fun i hi' hb => ?_)
        rcases Nat.lt_or_ge ((lo + hi) / 2) i with q | q
        · have := mono _ i q hb; lia
        · rw [show i = (lo + hi) / 2 by lia]; lia
    · exact ⟨by lia, h4, fun i a b => h5 i (by lia) b⟩
theorem below_spec {xs : Array Nat} {j : Nat} (hs : xs.toList.Pairwise (· < ·)) : SetTable.below xs j ≤ xs.size ∧ (∀ i x, i < SetTable.below xs j → xs[i]? = some x → x < j) ∧ (∀ i x, SetTable.below xs j ≤ i → xs[i]? = some x → j ≤ x) := by
  obtain ⟨h1, h2, h3⟩ := below_go hs xs.size 0 xs.size (by lia) (by lia) (by lia) (fun i hi => absurd hi (by lia)) (fun i a b => absurd b (by lia))
  refine ⟨h1, fun i x hi hx => ?_, fun i x hi hx => ?_⟩
  · have := h2 i hi
    obtain ⟨hb, e⟩ := Array.getElem?_eq_some_iff.mp hx
    simpa [Array.getD, hb, e] using this
  · obtain ⟨hb, e⟩ := Array.getElem?_eq_some_iff.mp hx
    have := h3 i hi hb
    simpa [Array.getD, hb, e] using this
theorem below_at {xs : Array Nat} {j i : Nat} (hs : xs.toList.Pairwise (· < ·)) (h : xs[i]? = some j) : SetTable.below xs j = i := by
  refine el03 (below_spec (j := j) hs) fun h1 h2 h3 => ?_
  obtain ⟨hb, e⟩ := Array.getElem?_eq_some_iff.mp h
  rcases Nat.lt_trichotomy (SetTable.below xs j) i with q | q | q
  · have hx : xs[SetTable.below xs j]? = some xs[SetTable.below xs j] := Array.getElem?_eq_getElem (by lia)
    have := h3 _ _ (Nat.le_refl _) hx
    have := List.pairwise_iff_getElem.mp hs _ i (by simp; lia) (by simpa using hb) q
    simp only [Array.getElem_toList] at this
    lia
  · exact q
  · have := h2 i j q h; lia
theorem slot_live {t : SetTable} {i j : Nat} (hs : t.place.toList.Pairwise (· < ·)) (h : t.place.toList[i]? = some j) : t.slot j = .live i := by
  have h' : t.place[i]? = some j := by rw [← Array.getElem?_toList]; exact h
  unfold SetTable.slot
  rw [below_at hs h']
  simp [h']
theorem slot_empty {t : SetTable} {j : Nat} (hd : t.dummies = #[]) (h : j ∉ t.place.toList) : t.slot j = .empty := by
  unfold SetTable.slot
  have h1 : (t.place[SetTable.below t.place j]? == some j) = false := by
    cases e : t.place[SetTable.below t.place j]? with
    | none => rfl
    | some x =>
      have : x ≠ j := fun q => h (by subst q; exact Array.mem_toList_iff.mpr (Array.mem_of_getElem? e))
      simpa using this
  dsimp only
  rw [h1, hd]
  simp [SetTable.has]
theorem probe_go {t : SetTable} {hashAt : Nat → Int} {h : Int} (hd : t.dummies = #[]) (hs : t.place.toList.Pairwise (· < ·)) {m₀ : Nat} (he : (prb t h m₀).j ∉ t.place.toList) : ∀ (fuel m : Nat), m ≤ m₀ → m₀ - m < fuel →
    (∃ m₁, m ≤ m₁ ∧ m₁ ≤ m₀ ∧ (∀ x, m ≤ x → x < m₁ → ∃ i : Nat, t.place.toList[i]? = some (prb t h x).j ∧ hashAt i ≠ h) ∧ (prb t h m₁).j ∉ t.place.toList ∧ SetTable.probe.go t hashAt h fuel (prb t h m) = some (.empty (prb t h m₁).j none)) ∨
    (∃ m₁ i, m ≤ m₁ ∧ m₁ < m₀ ∧ (∀ x, m ≤ x → x < m₁ → ∃ i : Nat, t.place.toList[i]? = some (prb t h x).j ∧ hashAt i ≠ h) ∧ t.place.toList[i]? = some (prb t h m₁).j ∧ hashAt i = h ∧ SetTable.probe.go t hashAt h fuel (prb t h m) = some (.candidate (prb t h m₁).j i (prb t h (m₁ + 1))))
  | 0, m, _, h2 => absurd h2 (by lia)
  | fuel + 1, m, h1, h2 => by
    by_cases hm : (prb t h m).j ∈ t.place.toList
    · have hne : m ≠ m₀ := fun e => he (e ▸ hm)
      obtain ⟨i, hi⟩ := List.mem_iff_getElem?.mp hm
      have hsl := slot_live hs hi
      by_cases hh : hashAt i = h
      · refine .inr ⟨m, i, Nat.le_refl _, by lia, fun x a b => absurd b (by lia), hi, hh, ?_⟩
        unfold SetTable.probe.go
        rw [hsl]
        simp [hh, prb]
      · refine Or.elim (probe_go hd hs he fuel (m + 1) (by lia) (by lia) (hashAt := hashAt)) (fun q => el15 q fun m₁ a1 a2 a3 a4 a5 => ?_) fun q => el26 q fun m₁ i' a1 a2 a3 a4 a5 a6 => ?_
        · refine .inl ⟨m₁, by lia, a2, fun x b1 b2 => ?_, a4, ?_⟩
          · rcases Nat.lt_or_ge m x with q | q
            · exact a3 x (by lia) b2
            · rw [show x = m by lia]; exact ⟨i, hi, hh⟩
          · unfold SetTable.probe.go
            rw [hsl]
            simp only [beq_iff_eq, hh, if_false]
            exact a5
        · refine .inr ⟨m₁, i', by lia, a2, fun x b1 b2 => ?_, a4, a5, ?_⟩
          · rcases Nat.lt_or_ge m x with q | q
            · exact a3 x (by lia) b2
            · rw [show x = m by lia]; exact ⟨i, hi, hh⟩
          · unfold SetTable.probe.go
            rw [hsl]
            simp only [beq_iff_eq, hh, if_false]
            exact a6
    · refine .inl ⟨m, Nat.le_refl _, h1, fun x a b => absurd b (by lia), hm, ?_⟩
      unfold SetTable.probe.go
      rw [slot_empty hd hm, (prb_le (t := t) (h := h) m).2]
theorem exists_free : ∀ (n : Nat) (l : List Nat), l.length < n → ∃ j, j < n ∧ j ∉ l
  | 0, _, h => absurd h (by lia)
  | n + 1, l, h => by
    by_cases hn : n ∈ l
    · refine el12 (exists_free n (l.erase n) (by rw [List.length_erase_of_mem hn]; have := List.length_pos_of_mem hn; lia)) fun j h1 h2 => ?_
      exact ⟨j, by lia, fun hm => h2 ((List.mem_erase_of_ne (by lia)).mpr hm)⟩
    · exact ⟨n, by lia, hn⟩
theorem TabOk.free {hs : List Int} {t : SetTable} (T : TabOk hs t) (h : Int) : ∃ m, m < 10 * SetTable.turns t.mask ∧ (prb t h m).j ∉ t.place.toList := by
  refine el12 (T.mask) fun k hk hm => ?_
  have hr := T.room
  refine el12 (exists_free (t.mask + 1) t.place.toList (by simp; lia)) fun j h1 h2 => ?_
  refine el12 (prb_cover (h := h) hm (show j ≤ t.mask by lia)) fun n h3 h4 => ?_
  exact ⟨n, h3, by rw [h4]; exact h2⟩
end
section
open PySem PySem.Calls
theorem prb_mask {t t' : SetTable} (h : t'.mask = t.mask) (x : Int) : ∀ n, prb t' x n = prb t x n
  | 0 => by show t'.probeStart x = t.probeStart x; unfold SetTable.probeStart; rw [h]
  | n + 1 => by
    show t'.advance (prb t' x n) = t.advance (prb t x n)
    rw [prb_mask h x n]; unfold SetTable.advance; rw [h]
noncomputable def ins {α : Type} (l : List α) (p : Nat) (x : α) : List α := l.take p ++ x :: l.drop p
theorem ins_get {α : Type} {l : List α} {p : Nat} {x : α} (hp : p ≤ l.length) (i : Nat) : (ins l p x)[i]? = if i < p then l[i]? else if i = p then some x else l[i - 1]? := by
  unfold ins
  have hl : (l.take p).length = p := by rw [List.length_take]; lia
  by_cases h1 : i < p
  · rw [if_pos h1, List.getElem?_append_left (by lia), List.getElem?_take, if_pos h1]
  · rw [if_neg h1, List.getElem?_append_right (by lia), hl]
    by_cases h2 : i = p
    · subst h2; simp
    · rw [if_neg h2]
      obtain ⟨m, rfl⟩ : ∃ m, i = p + 1 + m := ⟨i - p - 1, by lia⟩
      rw [show p + 1 + m - p = m + 1 by lia, List.getElem?_cons_succ, List.getElem?_drop]
      congr 1
      lia
theorem ins_pair {α β : Type} {l : List α} {r : List β} {p : Nat} {x : α} {y : β} (hp : p ≤ l.length) (hq : p ≤ r.length) {i : Nat} {u : α} {v : β} (h1 : (ins l p x)[i]? = some u) (h2 : (ins r p y)[i]? = some v) :
    (u = x ∧ v = y) ∨ ∃ i₀ : Nat, l[i₀]? = some u ∧ r[i₀]? = some v := by
  rw [ins_get hp] at h1
  rw [ins_get hq] at h2
  by_cases a : i < p
  · rw [if_pos a] at h1 h2; exact .inr ⟨i, h1, h2⟩
  · rw [if_neg a] at h1 h2
    by_cases b : i = p
    · rw [if_pos b] at h1 h2; cases h1; cases h2; exact .inl ⟨rfl, rfl⟩
    · rw [if_neg b] at h1 h2; exact .inr ⟨i - 1, h1, h2⟩
theorem ins_map {α β : Type} (f : α → β) (l : List α) (p : Nat) (x : α) : (ins l p x).map f = ins (l.map f) p (f x) := by unfold ins; simp
theorem ins_perm {α : Type} (l : List α) (p : Nat) (x : α) : (ins l p x).Perm (x :: l) := by
  unfold ins
  refine List.perm_middle.trans ?_
  rw [List.take_append_drop]
theorem ins_length {α : Type} (l : List α) (p : Nat) (x : α) : (ins l p x).length = l.length + 1 := (ins_perm l p x).length_eq
theorem ins_mem {α : Type} {l : List α} {p : Nat} {x y : α} : y ∈ ins l p x ↔ y = x ∨ y ∈ l := by rw [(ins_perm l p x).mem_iff, List.mem_cons]
theorem TabOk.ins {hs : List Int} {t : SetTable} (T : TabOk hs t) {h : Int} {m : Nat} (hm : m < 10 * SetTable.turns t.mask) (hj : (prb t h m).j ∉ t.place.toList) (hb : ∀ x, x < m → (prb t h x).j ∈ t.place.toList) (hroom : (hs.length + 1) * 5 < t.mask * 3) :
    (t.put (prb t h m).j).2 ≤ hs.length ∧ TabOk (ins hs (t.put (prb t h m).j).2 h) (t.put (prb t h m).j).1 ∧ (t.put (prb t h m).j).1.mask = t.mask ∧ (t.put (prb t h m).j).1.led = t.led ∧ (t.put (prb t h m).j).1.dummies = #[] := by
  generalize hjj : (prb t h m).j = j at hj
  have hle : j ≤ t.mask := by have := (prb_le (t := t) (h := h) m).1; lia
  refine el03 (below_spec (j := j) T.asc) fun b1 b2 b3 => ?_
  have e2 : (t.put j).2 = SetTable.below t.place j := rfl
  generalize hp : SetTable.below t.place j = p at b1 b2 b3
  have epl : (t.put j).1.place.toList = Mine.ins t.place.toList p j := by
    show (SetTable.insertAt t.place (SetTable.below t.place j) j).toList = _
    rw [hp, SetTable.toList_insertAt]; rfl
  have edu : (t.put j).1.dummies = #[] := by
    show (if SetTable.has t.dummies j then _ else t.dummies) = #[]
    rw [T.dum]; simp [SetTable.has]
  have hlen : t.place.toList.length = hs.length := by rw [Array.length_toList]; exact T.size
  have hpl : p ≤ hs.length := by rw [← T.size]; exact b1
  rw [e2, hp]
  refine ⟨hpl, ⟨edu, T.mask, T.cap, ?_, ?_, ?_, fun x hx => ?_, fun i h' j' h1 h2 => ?_⟩, rfl, rfl, edu⟩
  · rw [← Array.length_toList, epl, ins_length, ins_length, hlen]
  · show (t.put j).1.place.size * 5 < t.mask * 3
    rw [← Array.length_toList, epl, ins_length, hlen]; exact hroom
  · rw [epl]
    unfold Mine.ins
    have hsrt := T.asc
    refine List.pairwise_append.mpr ⟨hsrt.sublist (List.take_sublist ..), List.pairwise_cons.mpr ⟨fun y hy => ?_, hsrt.sublist (List.drop_sublist ..)⟩, fun x hx y hy => ?_⟩
    · obtain ⟨i, hi⟩ := List.mem_iff_getElem?.mp hy
      rw [List.getElem?_drop] at hi
      have := b3 (p + i) y (by lia) (by rw [← Array.getElem?_toList]; exact hi)
      have ne : j ≠ y := fun e => hj (e ▸ List.mem_of_getElem? hi)
      lia
    · obtain ⟨i, hi⟩ := List.mem_iff_getElem?.mp hx
      rw [List.getElem?_take] at hi
      have hip : i < p := by
        rcases Nat.lt_or_ge i p with q | q
        · exact q
        · rw [if_neg (by lia)] at hi; cases hi
      rw [if_pos hip] at hi
      have h1 := b2 i x hip (by rw [← Array.getElem?_toList]; exact hi)
      rcases List.mem_cons.mp hy with q | q
      · lia
      · obtain ⟨i', hi'⟩ := List.mem_iff_getElem?.mp q
        rw [List.getElem?_drop] at hi'
        have := b3 (p + i') y (by lia) (by rw [← Array.getElem?_toList]; exact hi')
        lia
  · rw [epl] at hx
    rcases ins_mem.mp hx with q | q
    · subst q; exact hle
    · exact T.le x q
  · rw [epl] at h2
    have km : (t.put j).1.mask = t.mask := rfl
    rcases ins_pair (by lia) (by rw [hlen]; lia) h1 h2 with ⟨q1, q2⟩ | ⟨i₀, q1, q2⟩
    · subst q1; subst q2
      refine ⟨m, hm, by rw [prb_mask km]; exact hjj, fun x hx => ?_⟩
      rw [prb_mask km, epl]
      exact ins_mem.mpr (.inr (hb x hx))
    · refine el13 (T.path i₀ h' j' q1 q2) fun n a1 a2 a3 => ?_
      refine ⟨n, a1, by rw [prb_mask km]; exact a2, fun x hx => ?_⟩
      rw [prb_mask km, epl]
      exact ins_mem.mpr (.inr (a3 x hx))
structure SAt (w : World) (F : PMap) (s : Shared) (a : Addr) (ks : List Key) (ob : Obj) (es : Array (Int × Value)) (n : Nat) (t : SetTable) : Prop where
  hF : PIn F s.heap
  ho : s.heap.get? a = some ob
  hx : ob.ExactSet
  hd : ob.data = .set es n t
  hl : es.toList.length = ks.length
  he : ∀ (i : Nat) (k : Key), ks[i]? = some k → ∃ v, es.toList[i]? = some (k.hash w.params, v) ∧ KeyAt F k v
  ok : SetOk w.params ks t
section
variable {prog : Program} {w : World} {A : Around} {E : Value → Shared → Prop} {s : Shared} {F : PMap} {ks : List Key} {k : Key} {v : Value} {a : Addr} {ob : Obj} {es : Array (Int × Value)} {n : Nat} {t : SetTable}
theorem SAt.tok (D : SAt w F s a ks ob es n t) (x : Nat) : SAt w F { s with toks := x } a ks ob es n t := ⟨D.hF, D.ho, D.hx, D.hd, D.hl, D.he, D.ok⟩
theorem SAt.typeIs (D : SAt w F s a ks ob es n t) : s.TypeIs (.ref a) "set" := ⟨ob, D.ho, D.hx.1⟩
theorem SAt.size (D : SAt w F s a ks ob es n t) : es.size = ks.length := by rw [← Array.length_toList, D.hl]
theorem SAt.fits (D : SAt w F s a ks ob es n t) : t.fits es.size = true := by rw [D.size]; exact D.ok.fits
theorem SAt.state (D : SAt w F s a ks ob es n t) {Q : (Array (Int × Value) × Nat × SetTable) → Shared → Prop} (h : Q (es, n, t) s) : wpAny (model prog w) A (setState a) Q E s := wpAny_setState_of D.ho D.hd D.fits h
theorem SAt.plen (D : SAt w F s a ks ob es n t) : t.place.toList.length = ks.length := by rw [Array.length_toList, D.ok.tab.size, List.length_map]
theorem SAt.at (D : SAt w F s a ks ob es n t) {i j : Nat} (h : t.place.toList[i]? = some j) : ∃ k v, ks[i]? = some k ∧ es.toList[i]? = some (k.hash w.params, v) ∧ KeyAt F k v := by
  have hi : i < ks.length := by rw [← D.plen]; exact (List.getElem?_eq_some_iff.mp h).1
  have hk : ks[i]? = some ks[i] := List.getElem?_eq_getElem hi
  refine el12 (D.he i _ hk) fun v h1 h2 => ?_
  exact ⟨_, v, hk, h1, h2⟩
theorem eq_key {k' : Key} {u : Value} {Q : Bool → Shared → Prop} (hA : A.units < cLine) (hF : PIn F s.heap) (hu : KeyAt F k' u) (hk : KeyAt F k v) (hkd : k'.kind = k.kind) (hp : k.kind ≠ 2) (h : Q (decide (k' = k)) s) : wpAny (model prog w) A (eqBool u v) Q E s := by
  cases k with
  | s x =>
    cases k' with
    | s y =>
      obtain ⟨t, rfl⟩ := hk; obtain ⟨t', rfl⟩ := hu
      refine (strKind prog w).eqBool (strKind_is _ _ _ _) (strKind_is _ _ _ _) ?_
      rw [show decide (y = x) = decide (Key.s y = Key.s x) from decide_eq_decide.mpr ⟨congrArg Key.s, fun q => by injection q⟩]; exact h
    | _ => cases hkd
  | t xs =>
    cases k' with
    | t ys =>
      (refine el12 (StrTup.isKey (prog := prog) (w := w) hF hk) fun b qq1 hx => ?_; subst qq1)
      (refine el12 (StrTup.isKey (prog := prog) (w := w) hF hu) fun c qq1 hy => ?_; subst qq1)
      refine (tupleKind (strKind prog w)).eqBool hA hy hx ?_
      rw [show decide (ys = xs) = decide (Key.t ys = Key.t xs) from decide_eq_decide.mpr ⟨congrArg Key.t, fun q => by injection q⟩]; exact h
    | _ => cases hkd
  | p _ _ => exact absurd rfl hp
theorem quiet_key {Q : Bool → Shared → Prop} (hF : PIn F s.heap) (hk : KeyAt F k v) (h1 : k.kind = 1) (h : Q true s) : wpAny (model prog w) A (eqIsQuiet 8 v) Q E s := by
  cases k with
  | t xs => (refine el12 (StrTup.isKey (prog := prog) (w := w) hF hk) fun b qq1 hx => ?_; subst qq1); exact (tupleKind (strKind prog w)).quiet hx h
  | _ => cases h1
theorem noClass_str {d : Nat} {x : Str} {tk : Tok} {Q : Bool → Shared → Prop} (h : Q false s) : wpAny (model prog w) A (ofAClassStatement d (.str x tk)) Q E s := by
  cases d <;> (unfold ofAClassStatement; exact wpAny_pure h)
theorem noClass_key {Q : Bool → Shared → Prop} (hF : PIn F s.heap) (hk : KeyAt F k v) (h1 : k.kind = 1) (h : Q false s) : wpAny (model prog w) A (ofAClassStatement 8 v) Q E s := by
  cases k with
  | t xs =>
    (refine el33 hk fun b ws m qq3 g1 g2 => ?_; try clear hk; subst qq3)
    have hg := hF _ _ g1
    unfold ofAClassStatement
    refine wpAny_bind (wpAny_typeOf (T := "tuple") ⟨_, hg, rfl⟩ ?_)
    dsimp only
    rw [if_pos (by decide)]
    refine wpAny_bind (wpAny_pure ?_)
    rw [if_neg (by decide)]
    refine wpAny_bind (wpAny_seqItems hg rfl ?_)
    dsimp only
    refine wpAny_bind ?_
    rw [← Array.forIn_toList]
    refine wpAny_forIn_list _ (fun rest r s' => r.1 = none ∧ s' = s ∧ ∀ y ∈ rest, ∃ x tk, y = Value.str x tk) _ ?_ ?_ _ _ ⟨rfl, rfl, ?_⟩
    · rintro y rest r s' ⟨hr, rfl, hall⟩
      (refine el21 (hall y (.head _)) fun x tk qq2 => ?_; subst qq2)
      refine wpAny_bind (noClass_str ?_)
      (first | rw [if_neg Bool.false_ne_true] | simp only [Bool.false_eq_true, if_false])
      exact wpAny_pure ⟨rfl, rfl, fun z hz => hall z (.tail _ hz)⟩
    · rintro ⟨r1, r2⟩ s' ⟨hr, rfl, _⟩
      simp only at hr
      subst hr
      exact wpAny_pure h
    · intro y hy
      clear h h1 hg g1
      generalize ws.toList = l at g2 hy
      induction g2 with
      | nil => cases hy
      | cons _ ih => rcases List.mem_cons.mp hy with q | q; exact ⟨_, _, q⟩; exact ih q
  | _ => cases h1
theorem ref_key (hk : KeyAt F k v) (h1 : k.kind = 1) : ∃ b, v = .ref b := by
  cases k with
  | t xs => (refine el32 hk fun b _ _ e _ => ?_; try clear hk); exact ⟨b, e⟩
  | _ => cases h1
theorem unseen_key {ys : List Value} {Q : Bool → Shared → Prop} (hF : PIn F s.heap) (hk : KeyAt F k v) (h1 : k.kind = 1) (hy : ∀ y ∈ ys, ∃ k', KeyAt F k' y ∧ k'.kind = 1) (h : Q false s) : wpAny (model prog w) A (searchCouldBeSeen v ys) Q E s := by
  unfold searchCouldBeSeen
  refine wpAny_bind ?_
  refine wpAny_forIn_list _ (fun rest r s' => r.1 = none ∧ s' = s ∧ ∀ y ∈ rest, ∃ k', KeyAt F k' y ∧ k'.kind = 1) _ ?_ ?_ _ _ ⟨rfl, rfl, hy⟩
  · rintro y rest r s' ⟨hr, rfl, hall⟩
    refine el12 (hall y (.head _)) fun k' hk' h1' => ?_
    have hrest : ∀ z ∈ rest, ∃ k', KeyAt F k' z ∧ k'.kind = 1 := fun z hz => hall z (.tail _ hz)
    obtain ⟨b, rfl⟩ := ref_key hk h1
    obtain ⟨c, rfl⟩ := ref_key hk' h1'
    dsimp only
    by_cases hbc : ((b == c) || (carriedByValue (.ref b) && carriedByValue (.ref c))) = true
    · rw [if_pos hbc]; exact wpAny_pure ⟨rfl, rfl, hrest⟩
    · rw [if_neg hbc]
      refine wpAny_bind (quiet_key hF hk h1 ?_)
      (first | rw [if_neg (show ¬ ((!true) = true) from Bool.false_ne_true)] | simp only [Bool.not_true, Bool.false_eq_true, if_false])
      refine wpAny_bind (quiet_key hF hk' h1' ?_)
      (first | rw [if_neg (show ¬ ((!true) = true) from Bool.false_ne_true)] | simp only [Bool.not_true, Bool.false_eq_true, if_false])
      refine wpAny_bind (noClass_key hF hk h1 ?_)
      (first | rw [if_neg Bool.false_ne_true] | simp only [Bool.false_eq_true, if_false])
      refine wpAny_bind (noClass_key hF hk' h1' ?_)
      (first | rw [if_neg Bool.false_ne_true] | simp only [Bool.false_eq_true, if_false])
      exact wpAny_pure ⟨rfl, rfl, hrest⟩
  · rintro ⟨r1, r2⟩ s' ⟨hr, rfl, _⟩
    simp only at hr
    subst hr
    exact wpAny_pure h
theorem notGave (D : SAt w F s a ks ob es n t) : t.gaveWay = false := by
  refine el12 (D.ok.tab.mask) fun k hk hm => ?_
  unfold SetTable.gaveWay
  have : 2 ^ k = 2 * 2 ^ (k - 1) := by rw [← Nat.pow_succ', show (k - 1).succ = k by lia]
  have : t.mask % 2 = 1 := by lia
  rw [this]; rfl
theorem search_key {adding : Bool} {Q : SetFound → Shared → Prop} {h : Int} (hh : k.hash w.params = h) (hA : A.units < cLine) (D : SAt w F s a ks ob es n t) (hk : KeyAt F k v) (h1 : k.kind = 1) (hkd : ∀ k' ∈ ks, k'.kind = k.kind)
    (hthere : k ∈ ks → ∀ r, (adding = false → r.isSome = true) → Q (.there r) s) (hfree : k ∉ ks → ∀ m, m < 10 * SetTable.turns t.mask → (prb t (h) m).j ∉ t.place.toList → (∀ x, x < m → (prb t (h) x).j ∈ t.place.toList) → Q (.free (prb t (h) m).j false) s) :
    ∀ (fuel m : Nat) (stand : Option SetTable.Probe), stand.getD (t.probeStart (h)) = prb t (h) m → (∀ x, x < m → ∃ i : Nat, ∃ k', t.place.toList[i]? = some (prb t (h) x).j ∧ ks[i]? = some k' ∧ k' ≠ k) →
      m ≤ 10 * SetTable.turns t.mask → 10 * SetTable.turns t.mask - m < fuel → wpAny (model prog w) A (setSearchFrom a v (h) adding fuel stand) Q E s
  | 0, _, _, _, _, _, hf => absurd hf (by lia)
  | fuel + 1, m, stand, hst, hbefore, hmle, hf => by
    refine el12 (D.ok.tab.free h) fun m₀ hm₀ hfr => ?_
    have T := D.ok.tab
    have hm0 : m ≤ m₀ := by
      rcases Nat.lt_or_ge m₀ m with q | q
      · refine el22 (hbefore m₀ q) fun i k' e _ => ?_
        exact absurd (List.mem_of_getElem? e) hfr
      · exact q
    unfold setSearchFrom
    refine wpAny_bind (D.state ?_)
    dsimp only
    rw [notGave D]
    (first | rw [if_neg Bool.false_ne_true] | simp only [Bool.false_eq_true, if_false])
    rw [hst]
    have hashAt : ∀ (i : Nat) (k' : Key), ks[i]? = some k' → (es[i]?.map (·.1)).getD 0 = k'.hash w.params := fun i k' e => by
      refine el12 (D.he i k' e) fun u g1 _ => ?_
      rw [← Array.getElem?_toList, g1]; rfl
    refine Or.elim (probe_go (hashAt := fun i => (es[i]?.map (·.1)).getD 0) (h := h) T.dum T.asc hfr (10 * SetTable.turns t.mask) m hm0 (by lia)) (fun q => el15 q fun m₁ a1 a2 a3 a4 a5 => ?_) fun q => el26 q fun m₁ i a1 a2 a3 a4 a5 a6 => ?_
    · have epr : t.probe (fun i => (es[i]?.map (·.1)).getD 0) h (prb t h m) = some (.empty (prb t h m₁).j none) := a5
      have taken : ∀ x, x < m₁ → ∃ i : Nat, ∃ k', t.place.toList[i]? = some (prb t h x).j ∧ ks[i]? = some k' ∧ k' ≠ k := fun x hx => by
        rcases Nat.lt_or_ge x m with q | q
        · exact hbefore x q
        · refine el12 (a3 x q hx) fun i e1 e2 => ?_
          refine el23 (D.at e1) fun k' u g1 _ _ => ?_
          exact ⟨i, k', e1, g1, fun e => e2 (by rw [hashAt i k' g1, e, hh])⟩
      have hno : k ∉ ks := fun hm => by
        obtain ⟨i, hi⟩ := List.mem_iff_getElem?.mp hm
        obtain ⟨j, hj⟩ : ∃ j, t.place.toList[i]? = some j := ⟨_, List.getElem?_eq_getElem (by rw [D.plen]; exact (List.getElem?_eq_some_iff.mp hi).1)⟩
        refine el13 (T.path i h j (by rw [List.getElem?_map, hi]; simp [hh]) hj) fun nn b1 b2 b3 => ?_
        have hlt : nn < m₁ := by
          rcases Nat.lt_or_ge nn m₁ with q | q
          · exact q
          · rcases Nat.eq_or_lt_of_le q with e | q
            · exact absurd (by rw [e, b2]; exact List.mem_of_getElem? hj) a4
            · exact absurd (b3 m₁ q) a4
        refine el23 (taken nn hlt) fun i' k' e1 e2 e3 => ?_
        rw [b2] at e1
        have : i' = i := by
          have nd : t.place.toList.Nodup := T.asc.imp fun hlt e => by lia
          exact (List.getElem?_inj (List.getElem?_eq_some_iff.mp e1).1 nd).mp (e1.trans hj.symm)
        rw [this, hi] at e2
        exact e3 (Option.some.inj e2).symm
      have fin := hfree hno m₁ (by lia) a4 fun x hx => by refine el22 (taken x hx) fun i _ e _ => ?_; exact List.mem_of_getElem? e
      show wpAny _ _ (match t.probe (fun i => (es[i]?.map (·.1)).getD 0) h (prb t h m) with | some met => _ | _ => _) _ _ _
      rw [epr]
      exact wpAny_pure fin
    · have epr : t.probe (fun i => (es[i]?.map (·.1)).getD 0) h (prb t h m) = some (.candidate (prb t h m₁).j i (prb t h (m₁ + 1))) := a6
      refine el23 (D.at a4) fun k' u g1 g2 g3 => ?_
      have hk1 : k'.kind = 1 := (hkd k' (List.mem_of_getElem? g1)).trans h1
      show wpAny _ _ (match t.probe (fun i => (es[i]?.map (·.1)).getD 0) h (prb t h m) with | some met => _ | _ => _) _ _ _
      rw [epr]
      have ge : es[i]? = some (k'.hash w.params, u) := by rw [← Array.getElem?_toList]; exact g2
      have rest : wpAny (model prog w) A (do
          let some (_, y) := es[i]? | unsupported "internal:set-entry"
          let equal ← holding [y] (eqBool y v)
          let (es', _, t') ← setState a
          if adding && equal then return .there none
          let some same := t'.sameMemory t.moves t.mask | unsupported "set.changed-during-lookup:is-the-new-block-at-the-old-address"
          let still ← match (if same then t'.slot (prb t h m₁).j else .empty) with
            | .live i' => match es'[i']? with
              | some (_, y') => do pure (if ← isSame y' y then some i' else none)
              | none => pure none
            | _ => pure none
          match still with
          | none => rule "set.search.anew"; setSearchFrom a v h adding fuel none
          | some i' => if equal then return .there (some i') else setSearchFrom a v h adding fuel (some (prb t h (m₁ + 1)))) Q E s := by
        rw [ge]
        refine wpAny_bind (wpAny_holding (eq_key hA D.hF g3 hk (hkd k' (List.mem_of_getElem? g1)) (by lia) ?_))
        refine wpAny_bind (D.state ?_)
        dsimp only
        by_cases heq : k' = k
        · subst heq
          have hin : k' ∈ ks := List.mem_of_getElem? g1
          cases adding with
          | true => simp only [decide_true, Bool.and_self, if_true]; exact wpAny_pure (hthere hin none fun e => by cases e)
          | false =>
            simp only [Bool.false_and, Bool.false_eq_true, if_false, SetTable.sameMemory, beq_self_eq_true, if_true]
            rw [slot_live T.asc a4]
            dsimp only
            rw [ge]
            cases k' with
            | t xs =>
              (refine el32 g3 fun b ws mm qq3 _ => ?_; try clear g3; subst qq3)
              refine wpAny_bind (wpAny_isSame_ref_self (wpAny_bind (wpAny_pure ?_)))
              simp only [if_true, decide_true]
              exact wpAny_pure (hthere hin (some i) fun _ => rfl)
            | _ => cases hk1
        · rw [decide_eq_false heq]
          simp only [Bool.and_false, Bool.false_eq_true, if_false, SetTable.sameMemory, beq_self_eq_true, if_true]
          rw [slot_live T.asc a4]
          dsimp only
          rw [ge]
          cases k' with
          | t xs =>
            (refine el32 g3 fun b ws mm qq3 _ => ?_; try clear g3; subst qq3)
            refine wpAny_bind (wpAny_isSame_ref_self (wpAny_bind (wpAny_pure ?_)))
            (first | rw [if_pos (rfl : true = true)] | simp only [if_true])
            refine search_key hh hA D hk h1 hkd hthere hfree fuel (m₁ + 1) (some (prb t h (m₁ + 1))) rfl (fun x hx => ?_) (by lia) (by lia)
            rcases Nat.lt_or_ge x m with q | q
            · exact hbefore x q
            · rcases Nat.lt_or_ge x m₁ with q' | q'
              · refine el12 (a3 x q q') fun i' e1 e2 => ?_
                refine el23 (D.at e1) fun k'' u'' f1 _ _ => ?_
                exact ⟨i', k'', e1, f1, fun e => e2 (by rw [hashAt i' k'' f1, e, hh])⟩
              · rw [show x = m₁ by lia]; exact ⟨i, _, a4, g1, heq⟩
          | _ => cases hk1
      cases hled : t.led with
      | true =>
        (first | rw [if_neg (show ¬ ((!true) = true) from Bool.false_ne_true)] | simp only [hled, Bool.not_true, Bool.false_eq_true, if_false])
        exact rest
      | false =>
        (first | rw [if_pos (show (!false) = true from rfl)] | simp only [hled, Bool.not_false, if_true])
        refine wpAny_bind (unseen_key D.hF hk h1 (fun y hy => ?_) ?_)
        · (refine el12 (List.mem_map.mp hy) fun qq0 hm qq2 => ?_; rcases qq0 with ⟨hh', y'⟩; subst qq2)
          have hm := (Array.mem_filter.mp (Array.mem_toList_iff.mp hm)).1
          obtain ⟨i', hi'⟩ := List.mem_iff_getElem?.mp (Array.mem_toList_iff.mpr hm)
          have hlt : i' < ks.length := by rw [← D.hl]; exact (List.getElem?_eq_some_iff.mp hi').1
          refine el12 (D.he i' _ (List.getElem?_eq_getElem hlt)) fun v' e1 e2 => ?_
          rw [hi'] at e1; cases e1
          exact ⟨_, e2, (hkd _ (List.getElem_mem hlt)).trans h1⟩
        · (first | rw [if_neg Bool.false_ne_true] | simp only [Bool.false_eq_true, if_false])
          exact rest
theorem SAt.elems (D : SAt w F s a ks ob es n t) (h0 : ∀ k' ∈ ks, k'.kind = 0) : ElemsOf (strKind prog w) es.toList := fun e he => by
  obtain ⟨i, hi⟩ := List.mem_iff_getElem?.mp he
  have hlt : i < ks.length := by rw [← D.hl]; exact (List.getElem?_eq_some_iff.mp hi).1
  refine el12 (D.he i _ (List.getElem?_eq_getElem hlt)) fun v' e1 e2 => ?_
  have h0 := h0 _ (List.getElem_mem hlt)
  rw [hi] at e1; cases e1
  generalize ks[i] = kk at *
  cases kk with
  | s x => obtain ⟨tk, rfl⟩ := e2; exact ⟨⟨x, strKind_is _ _ _ _, rfl⟩, rfl⟩
  | _ => cases h0
theorem SAt.scan (D : SAt w F s a ks ob es n t) {x : Str} (h0 : ∀ k' ∈ ks, k'.kind = 0) : (∃ j, es.toList.findIdx? (fun e => (strKind prog w).is x e.2) = some j ∧ Key.s x ∈ ks) ∨ (es.toList.findIdx? (fun e => (strKind prog w).is x e.2) = none ∧ Key.s x ∉ ks) := by
  cases hr : es.toList.findIdx? (fun e => (strKind prog w).is x e.2) with
  | some j =>
    refine el12 (List.findIdx?_eq_some_iff_getElem.mp hr) fun hj hpj _ => ?_
    refine .inl ⟨j, rfl, ?_⟩
    have hlt : j < ks.length := by rw [← D.hl]; exact hj
    refine el12 (D.he j _ (List.getElem?_eq_getElem hlt)) fun v' e1 e2 => ?_
    rw [List.getElem?_eq_getElem hj] at e1
    have e1 := Option.some.inj e1
    rw [e1] at hpj
    have h0 := h0 _ (List.getElem_mem hlt)
    have hin := List.getElem_mem hlt
    generalize ks[j] = kk at *
    cases kk with
    | s y =>
      obtain ⟨tk, rfl⟩ := e2
      have : x = y := (strKind prog w).inj _ _ _ hpj (strKind_is _ _ _ _)
      subst this; exact hin
    | _ => cases h0
  | none =>
    refine .inr ⟨rfl, fun hm => ?_⟩
    obtain ⟨i, hi⟩ := List.mem_iff_getElem?.mp hm
    obtain ⟨v', e1, tk, rfl⟩ := D.he i _ hi
    have := List.findIdx?_eq_none_iff.mp hr _ (List.mem_of_getElem? e1)
    have q : (strKind prog w).is x (.str x tk) = true := strKind_is _ _ _ _
    rw [q] at this; cases this
theorem find_set {Q : Option Nat → Shared → Prop} (hA : A.units < cLine) (D : SAt w F s a ks ob es n t) (hk : KeyAt F k v) (hp : k.kind ≠ 2) (hkd : ∀ k' ∈ ks, k'.kind = k.kind) (h : ∀ r : Option Nat, r.isSome = decide (k ∈ ks) → Q r s) :
    wpAny (model prog w) A (setFind a v (k.hash w.params)) Q E s := by
  have hb : es.size < scanBound := by rw [D.size]; exact D.ok.small
  unfold setFind setFindIn
  refine wpAny_bind (D.state ?_)
  dsimp only
  cases k with
  | s x =>
    obtain ⟨tk, rfl⟩ := hk
    have hel := SAt.elems (prog := prog) D hkd
    rw [byScan_of (knd := strKind prog w) rfl hb hel]
    simp only [↓reduceIte]
    refine wpAny_bind (wpAny_rule ?_)
    refine wpAny_bind (wpAny_setScan_of (knd := strKind prog w) (k := x) (strKind_is _ _ _ _) D.ho D.hd D.fits hel ?_)
    rcases SAt.scan (prog := prog) D (x := x) hkd with ⟨j, e1, e2⟩ | ⟨e1, e2⟩
    · rw [e1]; exact wpAny_pure (h _ (by rw [decide_eq_true e2]; rfl))
    · rw [e1]; exact wpAny_pure (h _ (by rw [decide_eq_false e2]; rfl))
  | t xs =>
    obtain ⟨b, rfl⟩ := ref_key hk rfl
    rw [if_neg (show ¬ (byScan (.ref _) _ = true) from Bool.false_ne_true)]
    refine wpAny_bind (search_key (k := .t xs) (adding := false) rfl hA D hk rfl hkd (fun hin r hr => wpAny_pure (h r (by rw [decide_eq_true hin]; exact hr rfl))) (fun hno m _ _ _ => wpAny_pure (h none (by rw [decide_eq_false hno]; rfl))) 100000 0 none rfl (fun x hx => absurd hx (by lia)) (by lia) ?_)
    have := D.ok.tab.cap
    unfold SetTable.turns; lia
  | p _ _ => exact absurd rfl hp
theorem contains_set {Q : Bool → Shared → Prop} (hA : A.units < cLine) (D : SAt w F s a ks ob es n t) (hk : KeyAt F k v) (hp : k.kind ≠ 2) (hkd : ∀ k' ∈ ks, k'.kind = k.kind) (h : ∀ x, Q (decide (k ∈ ks)) { s with toks := x }) :
    wpAny (model prog w) A (setContains a v) Q E s := by
  unfold setContains
  refine wpAny_holding (wpAny_bind (hash_key hA D.hF hk hp fun x => ?_))
  exact wpAny_bind (find_set hA (D.tok x) hk hp hkd fun r hr => wpAny_pure (by rw [hr]; exact h x))
theorem hashByValue_t {xs : List Str} {Q : Bool → Shared → Prop} (hF : PIn F s.heap) (hk : KeyAt F (.t xs) v) (h : ∀ b, Q b s) : wpAny (model prog w) A (hashByValue 8 v) Q E s := by
  (refine el33 hk fun b ws m qq3 g1 g2 => ?_; try clear hk; subst qq3)
  have hg := hF _ _ g1
  unfold hashByValue
  refine wpAny_bind (wpAny_specialOf (T := "tuple") ⟨_, hg, rfl⟩ PySem.F.slot_tuple_hash.lookup ?_)
  dsimp only
  refine wpAny_bind (wpAny_seqItems hg rfl ?_)
  dsimp only [Option.getD]
  refine wpAny_bind ?_
  rw [← Array.forIn_toList]
  refine wpAny_forIn_list _ (fun rest r s' => r.1 = none ∧ s' = s ∧ ∀ y ∈ rest, ∃ x tk, y = Value.str x tk) _ ?_ ?_ _ _ ⟨rfl, rfl, ?_⟩
  · rintro y rest r s' ⟨hr, rfl, hall⟩
    (refine el21 (hall y (.head _)) fun x tk qq2 => ?_; subst qq2)
    have e : hashByValue 7 (.str x tk) = pure false := by unfold hashByValue; rfl
    rw [e]
    refine wpAny_bind (wpAny_pure ?_)
    (first | rw [if_pos (show (!false) = true from rfl)] | simp only [Bool.not_false, if_true])
    exact wpAny_pure (wpAny_pure (h _))
  · rintro ⟨r1, r2⟩ s' ⟨hr, rfl, _⟩
    simp only at hr
    subst hr
    exact wpAny_pure (h _)
  · intro y hy
    clear h hg g1
    generalize ws.toList = l at g2 hy
    induction g2 with
    | nil => cases hy
    | cons _ ih => rcases List.mem_cons.mp hy with q | q; exact ⟨_, _, q⟩; exact ih q
end
end
section
open PySem PySem.Calls
/-! ## the set iterator's slots -/
theorem slot_si_next : Slot "set_iterator" "__next__" "set_iterator.__next__" :=
  .of (owner := "set_iterator") (n := "__next__") (by rw [typeLookup_type, builtinLookup_eq_fast]; kernel_rfl) (by decide +kernel) (by decide +kernel) (by decide +kernel)
    (by first | exact .inl (by decide +kernel) | exact .inr (by decide +kernel)) (by rw [isSubtype_type]; kernel_rfl)
theorem entry_si_next : entryFor table "set_iterator.__next__" = some Builtin.«set_iterator.__next__» := entryFor_of_tree (by kernel_rfl)
theorem args_si_next (a : Value) : argsOk "set_iterator.__next__" ⟨[a], []⟩ := by unfold argsOk; kernel_rfl
theorem slot_si_iter : Slot "set_iterator" "__iter__" "set_iterator.__iter__" :=
  .of (owner := "set_iterator") (n := "__iter__") (by rw [typeLookup_type, builtinLookup_eq_fast]; kernel_rfl) (by decide +kernel) (by decide +kernel) (by decide +kernel)
    (by first | exact .inl (by decide +kernel) | exact .inr (by decide +kernel)) (by rw [isSubtype_type]; kernel_rfl)
theorem entry_si_iter : entryFor table "set_iterator.__iter__" = some Builtin.«dict_keyiterator.__iter__» :=
  entryFor_alias (id' := "dict_keyiterator.__iter__") (by kernel_rfl) rfl (by decide +kernel) (by kernel_rfl)
theorem args_si_iter (a : Value) : argsOk "set_iterator.__iter__" ⟨[a], []⟩ := by unfold argsOk; kernel_rfl
theorem entry_set_iter : entryFor table "set.__iter__" = some Builtin.«frozenset.__iter__» :=
  entryFor_alias (id' := "frozenset.__iter__") (by kernel_rfl) rfl (by decide +kernel) (by kernel_rfl)
end
section
open PySem PySem.Calls
open Sem (wp)
theorem erase_perm {α : Type} : ∀ {l : List α} {i : Nat} (h : i < l.length), (l[i] :: l.eraseIdx i).Perm l
  | [], i, h => by cases h
  | x :: r, 0, h => List.Perm.refl _
  | x :: r, i + 1, h => by
    have := erase_perm (l := r) (i := i) (by simpa using h)
    show ((r[i]'(by simpa using h)) :: x :: r.eraseIdx i).Perm (x :: r)
    exact (List.Perm.swap _ _ _).trans (this.cons _)
section
variable {M : Model} {A : Around} {E : Value → Shared → Prop} {s : Shared}
theorem wpAny_choose {src : Source} {n : Nat} {Q : Nat → Shared → Prop} (hn : n ≠ 0) (h : ∀ i, i < n → Q i { s with drawn := s.drawn.bump src }) : wpAny M A (choose src n) Q E s := fun Γ p _ => by
  show wp M Γ (.choose src n .pure) _ _ p s
  rw [wp]
  refine ⟨hn, ?_⟩
  rw [wp]
  exact h _ (Nat.mod_lt _ (Nat.pos_of_ne_zero hn))
theorem wpAny_drawOrder {α : Type} : ∀ (n : Nat) (xs : List α) (s : Shared) {Q : List α → Shared → Prop}, xs.length = n → (∀ ys dr, ys.Perm xs → Q ys { s with drawn := dr }) → wpAny M A (drawOrder n xs) Q E s
  | 0, xs, s, Q, hl, h => by
    have : xs = [] := List.length_eq_zero_iff.mp hl
    subst this
    unfold drawOrder
    exact wpAny_pure (h [] s.drawn (.refl _))
  | n + 1, [], s, Q, hl, h => by cases hl
  | n + 1, x :: xs, s, Q, hl, h => by
    unfold drawOrder
    refine wpAny_bind (wpAny_choose (by simp) fun i hi => ?_)
    rw [List.getElem?_eq_getElem hi]
    refine wpAny_bind (wpAny_drawOrder n ((x :: xs).eraseIdx i) _ (by rw [List.length_eraseIdx_of_lt hi]; lia) fun ys dr hp => wpAny_pure (h _ dr ?_))
    refine (List.Perm.cons _ hp).trans ?_
    exact erase_perm hi
end
theorem pickOrder_go {α : Type} (next : Nat → Nat) : ∀ (fuel k : Nat) (left : List α) (out : Array α), left.length ≤ fuel → (pickOrder.go next fuel k left out).toList.Perm (out.toList ++ left)
  | 0, k, left, out, h => by
    have : left = [] := List.length_eq_zero_iff.mp (by lia)
    subst this
    unfold pickOrder.go; simp
  | fuel + 1, k, left, out, h => by
    unfold pickOrder.go
    cases e : left[next k % left.length]? with
    | none =>
      have : left = [] := by
        cases left with
        | nil => rfl
        | cons x r =>
          rw [List.getElem?_eq_none_iff] at e
          have := Nat.mod_lt (next k) (show 0 < (x :: r).length by simp)
          lia
      subst this; simp
    | some x =>
      dsimp only
      obtain ⟨hi, hx⟩ := List.getElem?_eq_some_iff.mp e
      refine (pickOrder_go next fuel (k + 1) _ _ (by rw [List.length_eraseIdx_of_lt hi]; lia)).trans ?_
      rw [Array.toList_push, List.append_assoc]
      refine List.Perm.append_left _ ?_
      show ([x] ++ left.eraseIdx _).Perm left
      rw [← hx]
      exact erase_perm hi
theorem eraseIdx_map' {α β : Type} (f : α → β) : ∀ (l : List α) (i : Nat), (l.map f).eraseIdx i = (l.eraseIdx i).map f
  | [], _ => by simp
  | _ :: _, 0 => rfl
  | x :: r, i + 1 => by simp [eraseIdx_map' f r i]
theorem pickOrder_go_map {α β : Type} (f : α → β) (next : Nat → Nat) : ∀ (fuel k : Nat) (left : List α) (out : Array α), pickOrder.go next fuel k (left.map f) (out.map f) = (pickOrder.go next fuel k left out).map f
  | 0, k, left, out => by unfold pickOrder.go; rfl
  | fuel + 1, k, left, out => by
    unfold pickOrder.go
    rw [List.length_map, List.getElem?_map]
    cases e : left[next k % left.length]? with
    | none => rfl
    | some x =>
      show pickOrder.go next fuel (k + 1) ((left.map f).eraseIdx _) ((out.map f).push (f x)) = _
      rw [← Array.map_push, eraseIdx_map']
      exact pickOrder_go_map f next fuel (k + 1) _ _
theorem pickOrder_idx (next : Nat → Nat) (es : Array (Int × Value)) : ∃ ord : List Nat, ord.Perm (List.range es.size) ∧ ∀ j : Nat, (pickOrder next es)[j]? = (ord[j]?).bind fun x => es[x]? := by
  let f : Nat → Int × Value := fun i => es.getD i (0, .none)
  have e1 : es.toList = (List.range es.size).map f := by
    apply List.ext_getElem
    · simp
    · intro i h1 h2
      have : i < es.size := by simpa using h1
      simp [f, Array.getD, this]
  have e2 : pickOrder next es = (pickOrder.go next es.size 0 (List.range es.size) #[]).map f := by
    unfold pickOrder
    rw [e1]
    have := pickOrder_go_map f next es.size 0 (List.range es.size) #[]
    simpa using this
  have hp := pickOrder_go next es.size 0 (List.range es.size) #[] (by simp)
  refine ⟨(pickOrder.go next es.size 0 (List.range es.size) #[]).toList, by simpa using hp, fun j => ?_⟩
  rw [e2, Array.getElem?_map, ← Array.getElem?_toList]
  cases q : (pickOrder.go next es.size 0 (List.range es.size) #[]).toList[j]? with
  | none => rfl
  | some x =>
    have hx : x < es.size := by
      have hm := hp.mem_iff.mp (List.mem_of_getElem? q)
      simpa using hm
    show some (f x) = es[x]?
    simp [f, Array.getD, hx]
theorem pickOrder_perm {α : Type} (next : Nat → Nat) (xs : Array α) : (pickOrder next xs).toList.Perm xs.toList := by
  unfold pickOrder
  have := pickOrder_go next xs.size 0 xs.toList #[] (by simp)
  simpa using this
theorem wpAny_bind_assoc2 {α : Type} {M : Model} {A : Around} {E : Value → Shared → Prop} {s : Shared} {m₁ m₂ : Sem Unit} {f : Sem α} {Q : α → Shared → Prop} (h : wpAny M A (do m₁; m₂) (fun _ s' => wpAny M A f Q E s') E s) : wpAny M A (do m₁; m₂; f) Q E s := by
  have e : (do m₁; m₂; f : Sem α) = ((do m₁; m₂ : Sem Unit) >>= fun _ => f) := by rw [bind_assoc]
  rw [e]
  exact wpAny_bind h
theorem fields_eq {o : Obj} {vs ws : Array Value} (h : o.data = .fields vs) (e : vs = ws) : o.data = .fields ws := e ▸ h
section
variable {prog : Program} {w : World} {A : Around} {E : Value → Shared → Prop} {s : Shared} {F : PMap} {ks : List Key} {k : Key} {v : Value} {a : Addr} {ob : Obj} {es : Array (Int × Value)} {n : Nat} {t : SetTable}
theorem SAt.entries (D : SAt w F s a ks ob es n t) {Q : Array (Int × Value) → Shared → Prop} (h : Q es s) : wpAny (model prog w) A (setEntries a) Q E s := by
  unfold setEntries; exact wpAny_bind (D.state (wpAny_pure h))
theorem SAt.epoch (D : SAt w F s a ks ob es n t) {Q : Nat → Shared → Prop} (h : Q n s) : wpAny (model prog w) A (setEpoch a) Q E s := by
  unfold setEpoch; exact wpAny_bind (D.state (wpAny_pure h))
theorem wpAny_byText {Q : Bool → Shared → Prop} (h : Q (w.params.followText "set-order") s) : wpAny (model prog w) A setsByText Q E s := by
  show wpAny (model prog w) A (ask >>= _) _ _ s
  exact wpAny_bind (fun Γ p _ => by
    show wp _ Γ (.ask .pure) _ _ p s
    rw [wp, wp]
    exact wpAny_pure h)
inductive SIter (w : World) (a : Addr) (F : PMap) (es : Array (Int × Value)) (n : Nat) (t : SetTable) : List Nat → Nat → Obj → Prop
  | text {i : Nat} {o : Obj} {ord : List Nat} (f : Nat) : w.params.followText "set-order" = true → (∀ j : Nat, (pickOrder (w.params.setOrder a n) es)[j]? = (ord[j]?).bind fun x => es[x]?) → o.cls = .type "set_iterator" → o.data = .fields #[.int f 0, .int i 0, .ref a, .int es.size 0, .int n 0] → SIter w a F es n t ord i o
  | slot {i : Nat} {o : Obj} (f : Nat) : w.params.followText "set-order" = false → (!t.plain && es.size > 1) = false → SetTable.below t.place f = i → o.cls = .type "set_iterator" → o.data = .fields #[.int f 0, .int i 0, .ref a, .int es.size 0, .int n 0] → SIter w a F es n t (List.range es.size) i o
  | drawn {i : Nat} {o : Obj} {ord : List Nat} {b : Addr} {m : Nat} : w.params.followText "set-order" = false → F b = some { cls := .type "tuple", data := .seq (ord.map fun i : Nat => rawInt i).toArray m } → o.cls = .type "set_iterator" → o.data = .fields #[.ref b, .int i 0, .ref a, .int es.size 0, .int n 0] → SIter w a F es n t ord i o
theorem si_type {o : Obj} {it : Addr} (ho : s.heap.get? it = some o) (hc : o.cls = .type "set_iterator") : s.TypeIs (.ref it) "set_iterator" := ⟨o, ho, hc⟩
theorem SIter.cls {ord : List Nat} {i : Nat} {o : Obj} (J : SIter w a F es n t ord i o) : o.cls = .type "set_iterator" := by cases J <;> assumption
theorem SIter.fields {ord : List Nat} {i : Nat} {o : Obj} (J : SIter w a F es n t ord i o) : ∃ x, o.data = .fields #[x, .int i 0, .ref a, .int es.size 0, .int n 0] ∧ ((∃ f : Nat, x = .int f 0) ∨ ∃ b, x = .ref b) := by
  cases J with
  | text f _ _ _ h => exact ⟨_, h, .inl ⟨f, rfl⟩⟩
  | slot f _ _ _ _ h => exact ⟨_, h, .inl ⟨f, rfl⟩⟩
  | drawn _ _ _ h => exact ⟨_, h, .inr ⟨_, rfl⟩⟩
theorem setField2 {it : Addr} {o : Obj} {y : Value} {i sz : Nat} {Q : Unit → Shared → Prop} {u v : Value} (ho : s.heap.get? it = some o) (hc : o.cls = .type "set_iterator") (hd : o.data = .fields #[y, .int i 0, .ref a, .int sz 0, .int n 0])
    (hQ : ∀ h' o', h'.get? it = some o' → o'.cls = .type "set_iterator" → o'.data = .fields #[u, v, .ref a, .int sz 0, .int n 0] → Heap.SameBut it s.heap h' → Q () { s with heap := h' }) :
    wpAny (model prog w) A (do setField (.ref it) 0 u; setField (.ref it) 1 v) Q E s := by
  refine wpAny_bind (wpAny_setField ho hd (by simp) ?_)
  have h1 : (s.heap.update it (Obj.mapFields (·.setIfInBounds 0 u))).get? it = some _ := Heap.get?_update_self _ ho (Obj.isFreed_of_fields (Obj.data_mapFields hd _))
  have d1 : (Obj.mapFields (·.setIfInBounds 0 u) o).data = .fields #[u, .int i 0, .ref a, .int sz 0, .int n 0] := by rw [Obj.data_mapFields hd]; simp
  refine wpAny_setField (s := { s with heap := s.heap.update it (Obj.mapFields (·.setIfInBounds 0 u)) }) h1 d1 (by simp) ?_
  refine hQ _ _ (Heap.get?_update_self _ h1 (Obj.isFreed_of_fields (Obj.data_mapFields d1 _))) ((Obj.cls_mapFields ..).trans ((Obj.cls_mapFields ..).trans hc)) (by rw [Obj.data_mapFields d1]; simp) ((Heap.SameBut.update ..).trans (Heap.SameBut.update ..))
theorem setField1 {it : Addr} {o : Obj} {y : Value} {i sz : Nat} {Q : Unit → Shared → Prop} {v : Value} (ho : s.heap.get? it = some o) (hc : o.cls = .type "set_iterator") (hd : o.data = .fields #[y, .int i 0, .ref a, .int sz 0, .int n 0])
    (hQ : ∀ h' o', h'.get? it = some o' → o'.cls = .type "set_iterator" → o'.data = .fields #[y, v, .ref a, .int sz 0, .int n 0] → Heap.SameBut it s.heap h' → Q () { s with heap := h' }) :
    wpAny (model prog w) A (setField (.ref it) 1 v) Q E s := by
  refine wpAny_setField ho hd (by simp) ?_
  exact hQ _ _ (Heap.get?_update_self _ ho (Obj.isFreed_of_fields (Obj.data_mapFields hd _))) ((Obj.cls_mapFields ..).trans hc) (by rw [Obj.data_mapFields hd]; simp) (Heap.SameBut.update ..)
theorem nextS_item {it : Addr} {ord : List Nat} {i x : Nat} {e : Int × Value} {o : Obj} {Q : Option Value → Shared → Prop} (D : SAt w F s a ks ob es n t) (ho : s.heap.get? it = some o) (J : SIter w a F es n t ord i o)
    (hx : ord[i]? = some x) (he : es[x]? = some e) (hQ : ∀ h' o', h'.get? it = some o' → SIter w a F es n t ord (i + 1) o' → Heap.SameBut it s.heap h' → Q (some e.2) { s with heap := h' }) : wpAny (model prog w) A (pyNext (.ref it)) Q E s := by
  have hT := si_type ho J.cls
  unfold pyNext
  refine wpAny_bind (wpAny_attempt (wpAny_callSpecial?_slot (name := Str.ofString "__next__") hT slot_si_next (wpAny_call_entry slot_si_next hT entry_si_next ?_ (args_si_next _))))
  unfold Builtin.«set_iterator.__next__»
  refine wpAny_bind (m := slotArgs "__next__" 0 _) (wpAny_pure ?_)
  refine el12 (J.fields) fun y hd hy => ?_
  refine wpAny_bind (wpAny_fieldsOf ho hd ?_)
  dsimp only
  refine wpAny_bind (D.entries ?_)
  rw [if_neg (by simp)]
  have hc := J.cls
  obtain ⟨eh, ev⟩ := e
  have idx : ((i : Int)).toNat = i := Int.toNat_natCast i
  cases J with
  | text f h1 h2 h3 h4 =>
    rw [hd] at h4; cases h4
    dsimp only
    refine wpAny_bind ?_
    unfold setNext
    refine wpAny_bind (D.state ?_)
    refine wpAny_bind (wpAny_byText ?_)
    (first | rw [if_pos h1] | simp only [h1, if_true])
    rw [if_neg (by simp)]
    refine wpAny_bind ?_
    unfold setWalk
    refine wpAny_bind (D.state ?_)
    refine wpAny_bind (wpAny_byText ?_)
    (first | rw [if_pos h1] | simp only [h1, if_true])
    refine wpAny_bind (wpAny_askSetting (wpAny_pure (wpAny_pure ?_)))
    have g : (pickOrder (w.params.setOrder a n) es)[i]? = some (eh, ev) := by rw [h2, hx]; exact he
    rw [idx]
    show wpAny (model prog w) A.in1 (match Option.map (fun e : Int × Value => (e.snd, ((f : Int)).toNat)) (pickOrder (w.params.setOrder a n) es)[i]? with | some (x, next) => _ | none => _) _ _ _
    rw [g]
    refine wpAny_bind_assoc2 (setField2 ho hc hd fun h' o' g1 g2 g3 g4 => ?_)
    exact wpAny_pure ⟨_, rfl, wpAny_pure (hQ h' o' g1 (.text f h1 h2 g2 (fields_eq g3 (by simp [rawInt]))) g4)⟩
  | slot f h1 h2 h3 h4 h5 =>
    rw [hd] at h5; cases h5
    dsimp only
    refine wpAny_bind ?_
    unfold setNext
    refine wpAny_bind (D.state ?_)
    refine wpAny_bind (wpAny_byText ?_)
    simp only [h1, Bool.false_eq_true, if_false]
    have hled := D.ok.led h1
    show wpAny (model prog w) A.in1 (if (!t.plain && decide (es.size > 1)) = true then _ else _) _ _ _
    rw [if_neg (by rw [h2]; exact Bool.false_ne_true)]
    refine wpAny_bind ?_
    show wpAny (model prog w) A.in1 (if (!t.led && !es.isEmpty) = true then _ else _) _ _ _
    rw [if_neg (by rw [hled]; simp)]
    refine wpAny_pure (wpAny_pure ?_)
    rw [Int.toNat_natCast, h3]
    have hxi : x = i := by
      rw [List.getElem?_eq_some_iff] at hx
      obtain ⟨_, hx⟩ := hx
      simpa using hx.symm
    subst hxi
    obtain ⟨j, hj⟩ : ∃ j, t.place[x]? = some j := by
      have hlt : x < t.place.size := by
        rw [D.ok.tab.size, List.length_map, ← D.size]; exact (Array.getElem?_eq_some_iff.mp he).1
      exact ⟨_, Array.getElem?_eq_getElem hlt⟩
    rw [he, hj]
    dsimp only
    refine wpAny_bind_assoc2 (setField2 ho hc hd fun h' o' g1 g2 g3 g4 => ?_)
    refine wpAny_pure ⟨_, rfl, wpAny_pure (hQ h' o' g1 (.slot (j + 1) h1 h2 ?_ g2 (fields_eq g3 (by simp [rawInt]))) g4)⟩
    refine el03 (below_spec (j := j + 1) D.ok.tab.asc) fun b1 b2 b3 => ?_
    obtain ⟨hxl, hxe⟩ := Array.getElem?_eq_some_iff.mp hj
    rcases Nat.lt_trichotomy (SetTable.below t.place (j + 1)) (x + 1) with q | q | q
    · have := b3 x j (by lia) hj; lia
    · exact q
    · have hy := Array.getElem?_eq_getElem (xs := t.place) (i := x + 1) (by lia)
      have h6 := b2 (x + 1) _ q hy
      have h7 := List.pairwise_iff_getElem.mp D.ok.tab.asc x (x + 1) (by simpa using hxl) (by simp; lia) (by lia)
      simp only [Array.getElem_toList] at h7
      lia
  | drawn h1 h2 h3 h4 =>
    rw [hd] at h4; cases h4
    dsimp only
    refine wpAny_bind (wpAny_seqItems (D.hF _ _ h2) rfl ?_)
    rw [idx]
    have g : (ord.map fun i : Nat => rawInt i).toArray[i]? = some (.int x 0) := by simp [hx, rawInt]
    dsimp only
    rw [g]
    refine wpAny_bind ?_
    unfold setNextDrawn
    refine wpAny_bind (D.state ?_)
    dsimp only
    rw [if_neg (by simp), Int.toNat_natCast]
    rw [he]
    refine wpAny_pure ?_
    refine wpAny_bind (setField1 ho hc hd fun h' o' g1 g2 g3 g4 => ?_)
    exact wpAny_pure ⟨_, rfl, wpAny_pure (hQ h' o' g1 (.drawn h1 h2 g2 (fields_eq g3 (by simp [rawInt]))) g4)⟩
theorem stop_tail {Q : Option Value → Shared → Prop} (hh : A.handled = none) (h : ∀ h', (∀ b o, s.heap.get? b = some o → h'.get? b = some o) → Q none { s with heap := h' }) :
    wpAny (model prog w) A.in1 (do let e ← newExc (.type "StopIteration") []; raiseNew (α := Fin) e) (fun fin s' => ∃ v, fin = .done (.ret v) ∧ wpAny (model prog w) A (pure (some v)) Q E s')
      (fun e s' => wpAny (model prog w) A (do if ← isInstance e (.type "StopIteration") then pure none else throw e) Q E s') s := by
  refine wpAny_bind ?_
  unfold newExc newTuple
  refine wpAny_bind (wpAny_newObj_type ?_ (by size_fits))
  refine wpAny_bind (m := firstArgMember _ _) (wpAny_of_eq (a := Value.none) (by first | rfl | (unfold firstArgMember; rfl)) ?_)
  refine wpAny_newObj_type ?_ (by size_fits)
  unfold raiseNew
  refine wpAny_bind (wpAny_handled ?_)
  rw [show A.in1.handled = none from hh]
  refine wpAny_bind (wpAny_pure (wpAny_throw ?_))
  refine wpAny_bind (wpAny_isInstance (T := "StopIteration") (b := true) ⟨_, Heap.get?_push_size _ rfl, rfl⟩ isSubtype_stop ?_)
  exact wpAny_pure (h _ fun b o e => Heap.get?_push_of_some _ (Heap.get?_push_of_some _ e))
theorem nextS_end {it : Addr} {ord : List Nat} {i : Nat} {o : Obj} {Q : Option Value → Shared → Prop} (hh : A.handled = none) (D : SAt w F s a ks ob es n t) (ho : s.heap.get? it = some o) (J : SIter w a F es n t ord i o)
    (hx : ord[i]? = none) (hQ : ∀ h', (∀ b o, b ≠ it → s.heap.get? b = some o → h'.get? b = some o) → Q none { s with heap := h' }) : wpAny (model prog w) A (pyNext (.ref it)) Q E s := by
  have hT := si_type ho J.cls
  unfold pyNext
  refine wpAny_bind (wpAny_attempt (wpAny_callSpecial?_slot (name := Str.ofString "__next__") hT slot_si_next (wpAny_call_entry slot_si_next hT entry_si_next ?_ (args_si_next _))))
  unfold Builtin.«set_iterator.__next__»
  refine wpAny_bind (m := slotArgs "__next__" 0 _) (wpAny_pure ?_)
  refine el12 (J.fields) fun y hd hy => ?_
  refine wpAny_bind (wpAny_fieldsOf ho hd ?_)
  dsimp only
  refine wpAny_bind (D.entries ?_)
  rw [if_neg (by simp)]
  have hc := J.cls
  have idx : ((i : Int)).toNat = i := Int.toNat_natCast i
  have keep1 : ∀ {k : Nat} {u : Value} (b : Addr) (p : Obj), b ≠ it → s.heap.get? b = some p → (s.heap.update it (Obj.mapFields (·.setIfInBounds k u))).get? b = some p := fun b p ne e => (Heap.get?_update_other _ _ (Ne.symm ne)).trans e
  have last : wpAny (model prog w) A.in1 (do setField (.ref it) 2 .none; let e ← newExc (.type "StopIteration") []; raiseNew (α := Fin) e) (fun fin s' => ∃ v, fin = .done (.ret v) ∧ wpAny (model prog w) A (pure (some v)) Q E s')
      (fun e s' => wpAny (model prog w) A (do if ← isInstance e (.type "StopIteration") then pure none else throw e) Q E s') s := by
    refine wpAny_bind (wpAny_setField ho hd (by simp) ?_)
    exact stop_tail (s := { s with heap := s.heap.update it (Obj.mapFields (·.setIfInBounds 2 Value.none)) }) hh fun h' hk => hQ h' fun b p ne e => hk b p (keep1 b p ne e)
  cases J with
  | text f h1 h2 h3 h4 =>
    rw [hd] at h4; cases h4
    dsimp only
    refine wpAny_bind ?_
    unfold setNext
    refine wpAny_bind (D.state ?_)
    refine wpAny_bind (wpAny_byText ?_)
    (first | rw [if_pos h1] | simp only [h1, if_true])
    rw [if_neg (by simp)]
    refine wpAny_bind ?_
    unfold setWalk
    refine wpAny_bind (D.state ?_)
    refine wpAny_bind (wpAny_byText ?_)
    (first | rw [if_pos h1] | simp only [h1, if_true])
    refine wpAny_bind (wpAny_askSetting (wpAny_pure (wpAny_pure ?_)))
    have g : (pickOrder (w.params.setOrder a n) es)[i]? = none := by rw [h2, hx]; rfl
    rw [idx]
    show wpAny (model prog w) A.in1 (match Option.map (fun e : Int × Value => (e.snd, ((f : Int)).toNat)) (pickOrder (w.params.setOrder a n) es)[i]? with | some (x, next) => _ | none => _) _ _ _
    rw [g]
    exact last
  | slot f h1 h2 h3 h4 h5 =>
    rw [hd] at h5; cases h5
    dsimp only
    refine wpAny_bind ?_
    unfold setNext
    refine wpAny_bind (D.state ?_)
    refine wpAny_bind (wpAny_byText ?_)
    simp only [h1, Bool.false_eq_true, if_false]
    have hled := D.ok.led h1
    show wpAny (model prog w) A.in1 (if (!t.plain && decide (es.size > 1)) = true then _ else _) _ _ _
    rw [if_neg (by rw [h2]; exact Bool.false_ne_true)]
    refine wpAny_bind ?_
    show wpAny (model prog w) A.in1 (if (!t.led && !es.isEmpty) = true then _ else _) _ _ _
    rw [if_neg (by rw [hled]; simp)]
    refine wpAny_pure (wpAny_pure ?_)
    rw [Int.toNat_natCast, h3]
    have hei : es[i]? = none := by
      rw [List.getElem?_eq_none_iff, List.length_range] at hx
      exact Array.getElem?_eq_none_iff.mpr hx
    rw [hei]
    exact last
  | drawn h1 h2 h3 h4 =>
    rw [hd] at h4; cases h4
    dsimp only
    refine wpAny_bind (wpAny_seqItems (D.hF _ _ h2) rfl ?_)
    rw [idx]
    have g : (ord.map fun i : Nat => rawInt i).toArray[i]? = none := by simp; simpa using hx
    dsimp only
    rw [g]
    refine wpAny_bind (wpAny_setField ho hd (by simp) ?_)
    have h1' : (s.heap.update it (Obj.mapFields (·.setIfInBounds 0 (rawInt 0)))).get? it = some _ := Heap.get?_update_self _ ho (Obj.isFreed_of_fields (Obj.data_mapFields hd _))
    refine wpAny_bind (wpAny_setField (s := { s with heap := s.heap.update it (Obj.mapFields (·.setIfInBounds 0 (rawInt 0))) }) h1' (Obj.data_mapFields hd _) (by simp) ?_)
    exact stop_tail (s := { s with heap := (s.heap.update it (Obj.mapFields (·.setIfInBounds 0 (rawInt 0)))).update it (Obj.mapFields (·.setIfInBounds 2 Value.none)) }) hh fun h' hk => hQ h' fun b p ne e => hk b p ((Heap.get?_update_other _ _ (Ne.symm ne)).trans (keep1 b p ne e))
theorem below_zero {xs : Array Nat} (hs : xs.toList.Pairwise (· < ·)) : SetTable.below xs 0 = 0 := by
  refine el03 (below_spec (j := 0) hs) fun b1 b2 b3 => ?_
  rcases Nat.eq_zero_or_pos (SetTable.below xs 0) with q | q
  · exact q
  · have := b2 0 _ q (Array.getElem?_eq_getElem (by lia)); lia
theorem iterS {Q : Value → Shared → Prop} (hnot : s.heap.objs.size ≠ a) (D : SAt w F s a ks ob es n t)
    (hQ : ∀ (ord : List Nat) (dr : _) (o : Obj) (F' : PMap) (h' : Heap), ord.Perm (List.range es.size) → PLe F F' → (F' = F ∧ h' = s.heap ∨ (∃ ot, ot.isFreed = false ∧ h' = s.heap.push ot ∧ F' = PSet F s.heap.objs.size ot)) → SIter w a F' es n t ord 0 o → o.isFreed = false →
      Q (.ref h'.objs.size) { s with heap := h'.push o, drawn := dr }) : wpAny (model prog w) A (pyIter (.ref a)) Q E s := by
  have hT := D.typeIs
  have nF : F s.heap.objs.size = none := by
    cases e : F s.heap.objs.size with
    | none => rfl
    | some ob => exact absurd (Heap.lt_size (D.hF _ _ e)) (Nat.lt_irrefl _)
  refine wpAny_pyIter_slot hT PySem.F.slot_set_iter (wpAny_call_entry PySem.F.slot_set_iter hT entry_set_iter ?_ (PySem.F.args_set_iter_1 _))
  unfold Builtin.«frozenset.__iter__»
  refine wpAny_bind ?_
  unfold Builtin.Frozenset.slot0
  refine wpAny_bind (m := slotArgs "__iter__" 0 _) (wpAny_pure ?_)
  show wpAny _ _ (pure a) _ _ s
  refine wpAny_pure ?_
  refine wpAny_bind ?_
  unfold Builtin.Frozenset.sizeOf
  refine wpAny_bind (D.entries (wpAny_pure ?_))
  refine wpAny_bind ?_
  unfold setDrawn
  refine wpAny_bind (D.state ?_)
  refine wpAny_bind (wpAny_byText (wpAny_pure ?_))
  show wpAny _ _ (if (!w.params.followText "set-order" && (!t.plain && decide (es.size > 1))) = true then _ else _) _ _ _
  have mk : ∀ (x : Value) (o : Obj) (h' : Heap) (dr : _) (b : Addr) (hb : b = a), o = { cls := .type "set_iterator", data := .fields [x, rawInt 0, .ref a, rawInt es.size, rawInt n].toArray } → (∀ q p, s.heap.get? q = some p → h'.get? q = some p) →
      Q (.ref h'.objs.size) { s with heap := h'.push o, drawn := dr } →
      wpAny (model prog w) A.in1 (do ret (← newFields "set_iterator" [x, rawInt 0, .ref a, rawInt es.size, rawInt (← setEpoch a)])) (fun fin s' => ∃ v, fin = .done (.ret v) ∧ ∃ T' r, s'.TypeIs v T' ∧ typeLookup (.type T') (Str.ofString "__next__") = pure (some r) ∧ Q v s') E { s with heap := h', drawn := dr } := fun x o h' dr b hb ho hk hq => by
    have D' : SAt w F { s with heap := h', drawn := dr } a ks ob es n t := ⟨fun q p e => hk q p (D.hF q p e), hk _ _ D.ho, D.hx, D.hd, D.hl, D.he, D.ok⟩
    refine wpAny_bind (D'.epoch ?_)
    refine wpAny_bind (wpAny_newObj_type (wpAny_pure ⟨_, rfl, "set_iterator", _, ⟨_, Heap.get?_push_size _ rfl, rfl⟩, slot_si_next.lookup, ?_⟩))
    rw [ho] at hq; exact hq
  cases hbt : w.params.followText "set-order" with
  | true =>
    simp only [Bool.not_true, Bool.false_and, Bool.false_eq_true, if_false]
    refine wpAny_bind (wpAny_pure ?_)
    refine el12 (pickOrder_idx (w.params.setOrder a n) es) fun ord hperm hget => ?_
    exact mk _ _ s.heap s.drawn a rfl rfl (fun _ _ e => e) (hQ ord s.drawn _ F s.heap hperm (.refl _) (.inl ⟨rfl, rfl⟩) (.text 0 hbt hget rfl (by simp [rawInt])) rfl)
  | false =>
    simp only [Bool.not_false, Bool.true_and]
    by_cases hdr : (!t.plain && decide (es.size > 1)) = true
    · rw [if_pos hdr]
      refine wpAny_bind (wpAny_drawOrder es.size (List.range es.size) s (List.length_range ..) fun ys dr hp => ?_)
      refine wpAny_bind (wpAny_newObj_type (s := { s with drawn := dr }) ?_ ?_)
      · have hne : a ≠ s.heap.objs.size := fun e => hnot e.symm
        refine mk _ _ _ dr a rfl rfl (fun q p e => Heap.get?_push_of_some _ e) (hQ ys dr _ (PSet F s.heap.objs.size _) _ hp (PSet.le nF) (.inr ⟨_, rfl, rfl, rfl⟩) (.drawn hbt (PSet.self ..) rfl (by simp [rawInt])) rfl)
      · show (List.map (fun i : Nat => rawInt i) ys).toArray.size ≤ sizeLine
        rw [List.size_toArray, List.length_map, hp.length_eq, List.length_range, D.size]
        have := D.ok.small
        have h4 : scanBound = 4096 := rfl
        show _ ≤ 2 ^ 24
        lia
    · rw [if_neg hdr]
      refine wpAny_bind (wpAny_pure ?_)
      exact mk _ _ s.heap s.drawn a rfl rfl (fun _ _ e => e) (hQ (List.range es.size) s.drawn _ F s.heap (.refl _) (.refl _) (.inl ⟨rfl, rfl⟩) (.slot 0 hbt (by simpa using hdr) (below_zero D.ok.tab.asc) rfl (by simp [rawInt])) rfl)
end
end
section
open PySem PySem.Calls
/-! ## a table laid anew -/
noncomputable def tb (mask : Nat) : SetTable := { mask := mask, place := #[], dummies := #[], finger := 0, led := true, moves := 0, plain := true }
noncomputable def OwnerAt (mask : Nat) (ps : List Nat) (owner : Array (Option Nat)) : Prop := owner.size = mask + 1 ∧ ∀ j, j ≤ mask → owner[j]? = some (ps.idxOf? j)
theorem idxOf?_none {ps : List Nat} {j : Nat} : ps.idxOf? j = none ↔ j ∉ ps := List.idxOf?_eq_none_iff
theorem idxOf?_some {ps : List Nat} (hn : ps.Nodup) {j k : Nat} : ps.idxOf? j = some k ↔ ps[k]? = some j := by
  constructor
  · intro h
    refine el12 (List.findIdx?_eq_some_iff_getElem.mp h) fun hk e _ => ?_
    rw [List.getElem?_eq_getElem hk]
    simpa using e
  · intro h
    cases e : ps.idxOf? j with
    | none => exact absurd (List.mem_of_getElem? h) (idxOf?_none.mp e)
    | some k' =>
      refine el12 (List.findIdx?_eq_some_iff_getElem.mp e) fun hk e' _ => ?_
      have e' : ps[k']? = some j := by rw [List.getElem?_eq_getElem hk]; simpa using e'
      have : k' = k := (List.getElem?_inj hk hn).mp (e'.trans h.symm)
      rw [this]
theorem free_go {mask : Nat} {ps : List Nat} {owner : Array (Option Nat)} {h : Int} (hO : OwnerAt mask ps owner) : ∀ (fuel L : Nat), (∃ n, n ≤ 10 * L ∧ prb (tb mask) h n = blk mask (lpN mask (SetTable.bits h % (mask + 1), SetTable.bits h) L) ∧ ∀ m, m < n → (prb (tb mask) h m).j ∈ ps) →
    (∃ L', L ≤ L' ∧ L' < L + fuel ∧ (lpN mask (SetTable.bits h % (mask + 1), SetTable.bits h) L').1 ∉ ps) → L + fuel ≤ SetTable.turns mask →
    ∃ j n, SetTable.layClean.free mask owner fuel (lpN mask (SetTable.bits h % (mask + 1), SetTable.bits h) L).1 (lpN mask (SetTable.bits h % (mask + 1), SetTable.bits h) L).2 = some j ∧ j ≤ mask ∧ j ∉ ps ∧ n < 10 * SetTable.turns mask ∧ (prb (tb mask) h n).j = j ∧ ∀ m, m < n → (prb (tb mask) h m).j ∈ ps
  | 0, L, _, ⟨L', h1, h2, _⟩, _ => absurd h2 (by lia)
  | fuel + 1, L, ⟨n, hn, hp, hb⟩, hex, hle => by
    have ile : (lpN mask (SetTable.bits h % (mask + 1), SetTable.bits h) L).1 ≤ mask := lpN_fst_lt (by have := Nat.mod_lt (SetTable.bits h) (show 0 < mask + 1 by lia); lia) L
    generalize hx : lpN mask (SetTable.bits h % (mask + 1), SetTable.bits h) L = x at *
    have hre : SetTable.runEnd mask x.1 ≤ mask ∧ x.1 ≤ SetTable.runEnd mask x.1 ∧ SetTable.runEnd mask x.1 - x.1 ≤ 9 := by unfold SetTable.runEnd; split <;> lia
    have run := prb_run (t := tb mask) (h := h) (n := n) (i := x.1) (q := x.2) (r := SetTable.runEnd mask x.1 - x.1) hp
    unfold SetTable.layClean.free
    have look : ∀ k, k < SetTable.runEnd mask x.1 + 1 - x.1 → ((owner.getD (x.1 + k) (some 0)).isNone = true ↔ x.1 + k ∉ ps) := fun k hk => by
      have h1 : x.1 + k ≤ mask := by lia
      have h2 := hO.2 _ h1
      obtain ⟨hlt, h3⟩ := Array.getElem?_eq_some_iff.mp h2
      have : owner.getD (x.1 + k) (some 0) = ps.idxOf? (x.1 + k) := by simp [Array.getD, hlt, h3]
      rw [this, Option.isNone_iff_eq_none]
      exact idxOf?_none
    cases e : (List.range (SetTable.runEnd mask x.1 + 1 - x.1)).find? fun k => (owner.getD (x.1 + k) (some 0)).isNone with
    | some k =>
      have hk1 := List.find?_some e
      have hk2 := List.mem_of_find?_eq_some e
      rw [List.mem_range] at hk2
      have hno := (look k hk2).mp hk1
      have hfirst : ∀ k', k' < k → x.1 + k' ∈ ps := fun k' hk' => by
        have := List.find?_eq_some_iff_getElem.mp e
        obtain ⟨_, i, hi, hik, hbef⟩ := this
        have hik : i = k := by simpa using hik
        subst hik
        have := hbef k' hk'
        refine Classical.byContradiction fun hc => ?_
        have hz := (look k' (by lia)).mpr hc
        simp only [List.getElem_range, hz, Bool.not_true, Bool.false_eq_true] at this
      have rk := run k (by lia)
      refine ⟨x.1 + k, n + k, rfl, by lia, hno, by lia, by rw [rk], fun m hm => ?_⟩
      rcases Nat.lt_or_ge m n with q | q
      · exact hb m q
      · have rm := run (m - n) (by lia)
        rw [show n + (m - n) = m by lia] at rm
        rw [rm]; exact hfirst (m - n) (by lia)
    | none =>
      have hall : ∀ k, k < SetTable.runEnd mask x.1 + 1 - x.1 → x.1 + k ∈ ps := fun k hk => by
        have := List.find?_eq_none.mp e k (List.mem_range.mpr hk)
        refine Classical.byContradiction fun hc => this ((look k hk).mpr hc)
      dsimp only
      have e2 : lpN mask (SetTable.bits h % (mask + 1), SetTable.bits h) (L + 1) = SetTable.leap mask x.1 x.2 := by show SetTable.leap _ _ _ = _; rw [hx]
      have ih := free_go hO (h := h) fuel (L + 1) ⟨n + (SetTable.runEnd mask x.1 - x.1) + 1, by lia, ?_, fun m hm => ?_⟩ ?_ (by lia)
      · rw [e2] at ih; exact ih
      · show (tb mask).advance (prb (tb mask) h _) = _
        rw [run _ (Nat.le_refl _)]
        unfold SetTable.advance
        rw [if_neg (by show ¬ (SetTable.runEnd mask x.1 - x.1 - (SetTable.runEnd mask x.1 - x.1) > 0); lia), e2]
        rfl
      · rcases Nat.lt_or_ge m n with q | q
        · exact hb m q
        · have rm := run (m - n) (by lia)
          rw [show n + (m - n) = m by lia] at rm
          rw [rm]; exact hall (m - n) (by lia)
      · (refine el13 hex fun L' h1 h2 h3 => ?_; try clear hex)
        refine ⟨L', ?_, by lia, h3⟩
        rcases Nat.lt_or_ge L L' with q | q
        · lia
        · exfalso
          rw [show L' = L by lia, hx] at h3
          have := hall 0 (by lia)
          exact h3 (by simpa using this)
structure Laid (mask : Nat) (hs : List Int) (ps : List Nat) : Prop where
  len : ps.length = hs.length
  nd : ps.Nodup
  le : ∀ j ∈ ps, j ≤ mask
  path : ∀ (k : Nat) (h : Int) (j : Nat), hs[k]? = some h → ps[k]? = some j → ∃ n, n < 10 * SetTable.turns mask ∧ (prb (tb mask) h n).j = j ∧ ∀ m, m < n → (prb (tb mask) h m).j ∈ ps
theorem layFold {mask k₀ : Nat} (hm : mask + 1 = 2 ^ k₀) : ∀ (rest : List Int) (hs : List Int) (ps : List Nat) (owner : Array (Option Nat)), Laid mask hs ps → OwnerAt mask ps owner → hs.length + rest.length ≤ mask →
    ∃ ps' owner', (rest.foldl (init := some (owner, hs.length)) fun acc h => do
        let (owner, k) ← acc
        let j ← SetTable.layClean.free mask owner (SetTable.turns mask) (SetTable.bits h % (mask + 1)) (SetTable.bits h)
        pure (owner.setIfInBounds j (some k), k + 1)) = some (owner', (hs ++ rest).length) ∧ Laid mask (hs ++ rest) ps' ∧ OwnerAt mask ps' owner'
  | [], hs, ps, owner, hL, hO, _ => ⟨ps, owner, by simp, by simpa using hL, hO⟩
  | h :: rest, hs, ps, owner, hL, hO, hle => by
    simp only [List.length_cons] at hle
    refine el12 (exists_free (mask + 1) ps (by rw [hL.len]; lia)) fun jf hj1 hj2 => ?_
    have i0 : SetTable.bits h % (mask + 1) ≤ mask := by have := Nat.mod_lt (SetTable.bits h) (show 0 < mask + 1 by lia); lia
    refine el12 (lpN_cover (i := SetTable.bits h % (mask + 1)) (q := SetTable.bits h) hm (bits_lt h) i0 (show jf ≤ mask by lia)) fun L' hl1 hl2 => ?_
    refine el26 (free_go (h := h) hO (SetTable.turns mask) 0 ⟨0, by lia, rfl, fun m hm => absurd hm (by lia)⟩ ⟨L', by lia, by lia, by rw [hl2]; exact hj2⟩ (by lia)) fun j n f1 f2 f3 f4 f5 f6 => ?_
    have f1 : SetTable.layClean.free mask owner (SetTable.turns mask) (SetTable.bits h % (mask + 1)) (SetTable.bits h) = some j := f1
    have hL' : Laid mask (hs ++ [h]) (ps ++ [j]) := by
      refine ⟨by simp [hL.len], ?_, fun x hx => ?_, fun k h' j' e1 e2 => ?_⟩
      · rw [List.nodup_append]
        exact ⟨hL.nd, by simp, fun x hx y hy e => f3 (by simp only [List.mem_singleton] at hy; rw [← hy, ← e]; exact hx)⟩
      · rcases List.mem_append.mp hx with q | q
        · exact hL.le x q
        · simp only [List.mem_singleton] at q; lia
      · rcases Nat.lt_or_ge k hs.length with q | q
        · rw [List.getElem?_append_left q] at e1
          rw [List.getElem?_append_left (by rw [hL.len]; exact q)] at e2
          refine el13 (hL.path k h' j' e1 e2) fun n' a b c => ?_
          exact ⟨n', a, b, fun m hm => List.mem_append_left _ (c m hm)⟩
        · rw [List.getElem?_append_right q] at e1
          rw [List.getElem?_append_right (by rw [hL.len]; exact q), hL.len] at e2
          have hk : k - hs.length = 0 := by
            have := (List.getElem?_eq_some_iff.mp e1).1
            simp only [List.length_singleton] at this
            lia
          rw [hk] at e1 e2
          cases e1; cases e2
          exact ⟨n, f4, f5, fun m hm => List.mem_append_left _ (f6 m hm)⟩
    have hO' : OwnerAt mask (ps ++ [j]) (owner.setIfInBounds j (some hs.length)) := by
      refine ⟨by rw [Array.size_setIfInBounds]; exact hO.1, fun x hx => ?_⟩
      rw [Array.getElem?_setIfInBounds]
      by_cases q : j = x
      · subst q
        rw [if_pos rfl, if_pos (by rw [hO.1]; lia)]
        have : (ps ++ [j]).idxOf? j = some hs.length := (idxOf?_some hL'.nd).mpr (by rw [List.getElem?_append_right (by rw [hL.len]; lia), hL.len]; simp)
        rw [this]
      · rw [if_neg q, hO.2 x hx]
        cases e : ps.idxOf? x with
        | none =>
          have : (ps ++ [j]).idxOf? x = none := idxOf?_none.mpr fun hm' => by
            rcases List.mem_append.mp hm' with r | r
            · exact idxOf?_none.mp e r
            · simp only [List.mem_singleton] at r; exact q r.symm
          rw [this]
        | some k' =>
          have e' := (idxOf?_some hL.nd).mp e
          have : (ps ++ [j]).idxOf? x = some k' := (idxOf?_some hL'.nd).mpr (by rw [List.getElem?_append_left (List.getElem?_eq_some_iff.mp e').1]; exact e')
          rw [this]
    refine el23 (layFold hm rest (hs ++ [h]) (ps ++ [j]) _ hL' hO' (by simp; lia)) fun ps' owner' g1 g2 g3 => ?_
    refine ⟨ps', owner', ?_, by simpa using g2, g3⟩
    rw [List.foldl_cons]
    simp only [Option.bind_eq_bind, Option.bind_some, f1]
    have : (hs ++ [h]).length = hs.length + 1 := by simp
    rw [this] at g1
    rw [show hs ++ h :: rest = hs ++ [h] ++ rest by simp]
    exact g1
theorem layClean_ok {mask k₀ : Nat} (hm : mask + 1 = 2 ^ k₀) {hs : Array Int} (hle : hs.size ≤ mask) : ∃ ps owner, SetTable.layClean mask hs = some owner ∧ Laid mask hs.toList ps ∧ OwnerAt mask ps owner := by
  refine el23 (layFold hm hs.toList [] [] (Array.replicate (mask + 1) none) ⟨rfl, List.nodup_nil, (fun _ h => by cases h), (fun k h j e _ => by simp at e)⟩
    ⟨by simp, fun j hj => by rw [Array.getElem?_replicate, if_pos (by lia)]; rfl⟩ (by simpa using hle)) fun ps owner h1 h2 h3 => ?_
  refine ⟨ps, owner, ?_, h2, h3⟩
  unfold SetTable.layClean
  rw [← Array.foldl_toList]
  have h1 : (hs.toList.foldl (init := some (Array.replicate (mask + 1) none, 0)) fun acc h => do
        let (owner, k) ← acc
        let j ← SetTable.layClean.free mask owner (SetTable.turns mask) (SetTable.bits h % (mask + 1)) (SetTable.bits h)
        pure (owner.setIfInBounds j (some k), k + 1)) = some (owner, ([] ++ hs.toList).length) := h1
  rw [h1]; rfl
theorem live_eq {mask : Nat} {ps : List Nat} {owner : Array (Option Nat)} (hO : OwnerAt mask ps owner) : ∀ (l : List Nat), (∀ j ∈ l, j ≤ mask) → l.filterMap (fun j => (owner.getD j none).map (j, ·)) = (l.filter fun j => decide (j ∈ ps)).map fun j => (j, (ps.idxOf? j).getD 0)
  | [], _ => rfl
  | j :: r, h => by
    have ih := live_eq hO r fun x hx => h x (.tail _ hx)
    have hj := hO.2 j (h j (.head _))
    obtain ⟨hlt, h3⟩ := Array.getElem?_eq_some_iff.mp hj
    have e : owner.getD j none = ps.idxOf? j := by simp [Array.getD, hlt, h3]
    rw [List.filterMap_cons, e]
    by_cases q : j ∈ ps
    · cases e2 : ps.idxOf? j with
      | none => exact absurd q (idxOf?_none.mp e2)
      | some k => simp only [Option.map_some, List.filter_cons, q, decide_true, if_true, List.map_cons, e2, Option.getD_some]; rw [ih]
    · rw [idxOf?_none.mpr q]; simp only [Option.map_none, List.filter_cons, q, decide_false, Bool.false_eq_true, if_false]; exact ih
theorem perm_of_nodup {l r : List Nat} (hl : l.Nodup) (hr : r.Nodup) (h : ∀ x, x ∈ l ↔ x ∈ r) : l.Perm r := (List.perm_ext_iff_of_nodup hl hr).mpr h
theorem laid_ok {mask k₀ : Nat} (hm : mask + 1 = 2 ^ k₀) (h3 : 3 ≤ k₀) (cap : mask < 5000) {hs : Array Int} (room : hs.size * 5 < mask * 3) (finger moves : Nat) (led plain : Bool) :
    ∃ t order, SetTable.laid mask finger moves led plain hs = some (t, order) ∧ order.toList.Perm (List.range hs.size) ∧ TabOk (order.toList.map fun i => hs.getD i 0) t ∧ t.led = led ∧ t.mask = mask ∧ t.plain = plain := by
  refine el23 (layClean_ok hm (hs := hs) (by lia)) fun ps owner h1 hL hO => ?_
  have hlive := live_eq hO (List.range (mask + 1)) fun j hj => by rw [List.mem_range] at hj; lia
  generalize hpl : (List.range (mask + 1)).filter (fun j => decide (j ∈ ps)) = pl at hlive
  have plmem : ∀ x, x ∈ pl ↔ x ∈ ps := fun x => by
    rw [← hpl, List.mem_filter, List.mem_range, decide_eq_true_eq]
    exact ⟨fun h => h.2, fun h => ⟨by have := hL.le x h; lia, h⟩⟩
  have plsort : pl.Pairwise (· < ·) := by rw [← hpl]; exact (List.pairwise_lt_range (n := mask + 1)).sublist List.filter_sublist
  have plnd : pl.Nodup := plsort.imp fun h e => by lia
  have plp : pl.Perm ps := perm_of_nodup plnd hL.nd plmem
  have hlen : pl.length = hs.size := by rw [plp.length_eq, hL.len, Array.length_toList]
  have idx : ∀ j ∈ ps, ∃ k, ps.idxOf? j = some k ∧ ps[k]? = some j := fun j hj => by
    cases e : ps.idxOf? j with
    | none => exact absurd hj (idxOf?_none.mp e)
    | some k => exact ⟨k, rfl, (idxOf?_some hL.nd).mp e⟩
  have e1 : (pl.map fun j => (j, (ps.idxOf? j).getD 0)).map (·.1) = pl := by rw [List.map_map]; exact (List.map_congr_left (g := id) fun x _ => rfl).trans (List.map_id _)
  have e2 : (pl.map fun j => (j, (ps.idxOf? j).getD 0)).map (·.2) = pl.map fun j => (ps.idxOf? j).getD 0 := by rw [List.map_map]; rfl
  refine ⟨{ mask, place := pl.toArray, dummies := #[], finger, led, moves, plain }, (pl.map fun j => (ps.idxOf? j).getD 0).toArray, ?_, ?_, ⟨rfl, ⟨k₀, h3, hm⟩, cap, ?_, ?_, plsort, fun j hj => hL.le j ((plmem j).mp hj), fun i h j g1 g2 => ?_⟩, rfl, rfl, rfl⟩
  · unfold SetTable.laid
    simp only [Option.bind_eq_bind, h1, Option.bind_some, hlive, e1, e2]
    rfl
  · show (pl.map fun j => (ps.idxOf? j).getD 0).Perm _
    refine (plp.map _).trans ?_
    have : (ps.map fun j => (ps.idxOf? j).getD 0) = List.range hs.size := by
      apply List.ext_getElem
      · rw [List.length_map, List.length_range, hL.len, Array.length_toList]
      · intro i q1 q2
        rw [List.getElem_map, List.getElem_range]
        have hi : i < ps.length := by simpa using q1
        rw [(idxOf?_some hL.nd).mpr (List.getElem?_eq_getElem hi)]; rfl
    rw [this]
  · show pl.toArray.size = _
    rw [List.size_toArray, hlen]
    show _ = ((pl.map fun j => (ps.idxOf? j).getD 0).map fun i => hs.getD i 0).length
    rw [List.length_map, List.length_map, hlen]
  · show pl.toArray.size * 5 < mask * 3
    rw [List.size_toArray, hlen]; exact room
  · have g2 : pl[i]? = some j := g2
    have g1 : ((pl.map fun j => (ps.idxOf? j).getD 0).map fun i => hs.getD i 0)[i]? = some h := g1
    rw [List.getElem?_map, List.getElem?_map, g2] at g1
    refine el12 (idx j ((plmem j).mp (List.mem_of_getElem? g2))) fun k k1 k2 => ?_
    simp only [Option.map_some, k1, Option.getD_some] at g1
    have hk : k < hs.size := by rw [← Array.length_toList, ← hL.len]; exact (List.getElem?_eq_some_iff.mp k2).1
    have g1 : hs.toList[k]? = some h := by
      rw [Array.getElem?_toList, Array.getElem?_eq_getElem hk]
      simpa [Array.getD, hk] using g1
    refine el13 (hL.path k h j g1 k2) fun n a b c => ?_
    have km : ({ mask, place := pl.toArray, dummies := #[], finger, led, moves, plain } : SetTable).mask = (tb mask).mask := rfl
    refine ⟨n, a, by rw [prb_mask km]; exact b, fun m hm' => ?_⟩
    rw [prb_mask km]
    exact (plmem _).mpr (c m hm')
theorem sizeAbove_ok (n : Nat) (hn : n < 2000) : ∃ k, 3 ≤ k ∧ SetTable.sizeAbove n = 2 ^ k ∧ n < SetTable.sizeAbove n ∧ SetTable.sizeAbove n ≤ 4000 := by
  unfold SetTable.sizeAbove
  have go : ∀ (fuel k : Nat), 3 ≤ k → 2 ^ k ≤ 2 * n + 8 → n < 2 ^ (k + fuel) → ∃ k', 3 ≤ k' ∧ SetTable.sizeAbove.go n fuel (2 ^ k) = 2 ^ k' ∧ n < 2 ^ k' ∧ 2 ^ k' ≤ 2 * n + 8 := by
    intro fuel
    induction fuel with
    | zero => intro k h3 h1 h2; exact ⟨k, h3, rfl, h2, h1⟩
    | succ f ih =>
      intro k h3 h1 h2
      unfold SetTable.sizeAbove.go
      split
      · rename_i hle
        have e : 2 ^ k * 2 = 2 ^ (k + 1) := by rw [Nat.pow_succ]
        rw [e]
        exact ih (k + 1) (by lia) (by rw [← e]; lia) (by rw [show k + 1 + f = k + (f + 1) by lia]; exact h2)
      · rename_i hle
        exact ⟨k, h3, rfl, by lia, h1⟩
  refine el14 (go 64 3 (by lia) (by lia) (by
    have : (2 : Nat) ^ 67 > 2000 := by decide
    show n < 2 ^ 67
    lia)) fun k a b c d => ?_
  have b' : SetTable.sizeAbove.go n 64 8 = 2 ^ k := b
  rw [b']
  refine ⟨k, a, rfl, c, ?_⟩
  have hk : k ≤ 11 := by
    rcases Nat.lt_or_ge 11 k with q | q
    · have : 2 ^ 12 ≤ 2 ^ k := Nat.pow_le_pow_right (by decide) q
      lia
    · exact q
  have : 2 ^ k ≤ 2 ^ 11 := Nat.pow_le_pow_right (by decide) hk
  lia
end
section
open PySem PySem.Calls
theorem fm_get {α : Type} {l : List α} : ∀ {ord : List Nat}, (∀ x ∈ ord, x < l.length) → ∀ i : Nat, (ord.filterMap (l[·]?))[i]? = (ord[i]?).bind (l[·]?)
  | [], _, i => by simp
  | x :: r, h, i => by
    have hx := h x (.head _)
    rw [List.filterMap_cons, List.getElem?_eq_getElem hx]
    cases i with
    | zero => simp [List.getElem?_eq_getElem hx]
    | succ i => simpa using fm_get (l := l) (ord := r) (fun y hy => h y (.tail _ hy)) i
theorem fm_perm {α : Type} (l : List α) {ord : List Nat} (h : ord.Perm (List.range l.length)) : (ord.filterMap (l[·]?)).Perm l := by
  refine (h.filterMap _).trans ?_
  rw [List.filterMap_getElem?_range_length]
structure SRaw (w : World) (F : PMap) (s : Shared) (a : Addr) (ks : List Key) (ob : Obj) (es : Array (Int × Value)) (n : Nat) (t : SetTable) : Prop where
  ho : s.heap.get? a = some ob
  hx : ob.ExactSet
  hd : ob.data = .set es n t
  hl : es.toList.length = ks.length
  he : ∀ (i : Nat) (k : Key), ks[i]? = some k → ∃ v, es.toList[i]? = some (k.hash w.params, v) ∧ KeyAt F k v
  nd : ks.Nodup
  fits : t.fits ks.length = true
  small : ks.length < 400
  led : w.params.followText "set-order" = false → t.led = true
  one : ∀ k ∈ ks, ∀ k' ∈ ks, k.kind = k'.kind
section
variable {prog : Program} {w : World} {A : Around} {E : Value → Shared → Prop} {s : Shared} {F : PMap} {ks : List Key} {k : Key} {v : Value} {a : Addr} {ob : Obj} {es : Array (Int × Value)} {n : Nat} {t : SetTable}
theorem SRaw.size (D : SRaw w F s a ks ob es n t) : es.size = ks.length := by rw [← Array.length_toList, D.hl]
theorem SRaw.state (D : SRaw w F s a ks ob es n t) {Q : (Array (Int × Value) × Nat × SetTable) → Shared → Prop} (h : Q (es, n, t) s) : wpAny (model prog w) A (setState a) Q E s := wpAny_setState_of D.ho D.hd (by rw [D.size]; exact D.fits) h
theorem SAt.raw (D : SAt w F s a ks ob es n t) (h : ks.length < 400) : SRaw w F s a ks ob es n t := ⟨D.ho, D.hx, D.hd, D.hl, D.he, D.ok.nodup, D.ok.fits, h, D.ok.led, D.ok.one⟩
theorem SRaw.laid (D : SRaw w F s a ks ob es n t) {mask : Nat} (hm : ∃ k₀, 3 ≤ k₀ ∧ mask + 1 = 2 ^ k₀) (cap : mask < 5000) (room : ks.length * 5 < mask * 3) (finger moves : Nat) (led plain : Bool) (hled : w.params.followText "set-order" = false → led = true) (m : Nat) (ob' : Obj) (hx' : ob'.ExactSet) :
    ∃ t' order ks', t'.mask = mask ∧ SetTable.laid mask finger moves led plain (es.map (·.1)) = some (t', order) ∧ (order.filterMap (es[·]?)).size = es.size ∧ ks'.Perm ks ∧ coversAll order es.size = true ∧ t'.fits es.size = true ∧
      OAt w.params F (.set ks') { ob' with data := .set (order.filterMap (es[·]?)) m t' } := by
  refine el12 hm fun k₀ h3 hm => ?_
  have hes := D.size
  refine el26 (laid_ok hm h3 cap (hs := es.map (·.1)) (by rw [Array.size_map, hes]; exact room) finger moves led plain) fun t' order h1 h2 h4 h5 h6 h7 => ?_
  rw [Array.size_map, hes] at h2
  have hlt : ∀ x ∈ order.toList, x < ks.length := fun x hx => by have := h2.mem_iff.mp hx; simpa using this
  have hlt' : ∀ x ∈ order.toList, x < es.toList.length := fun x hx => by rw [D.hl]; exact hlt x hx
  have eE : (order.filterMap (es[·]?)).toList = order.toList.filterMap (es.toList[·]?) := by
    rw [Array.toList_filterMap]
    congr 1
    funext i
    rw [Array.getElem?_toList]
  have pE : (order.filterMap (es[·]?)).toList.Perm es.toList := by rw [eE]; exact fm_perm _ (by rw [D.hl]; exact h2)
  have pK : (order.toList.filterMap (ks[·]?)).Perm ks := fm_perm _ h2
  have szE : (order.filterMap (es[·]?)).size = es.size := by rw [← Array.length_toList, pE.length_eq, Array.length_toList]
  have hash : (order.toList.map fun i => (es.map (·.1)).getD i 0) = (order.toList.filterMap (ks[·]?)).map (Key.hash w.params) := by
    apply List.ext_getElem?
    intro i
    rw [List.getElem?_map, List.getElem?_map, fm_get hlt]
    cases q : order.toList[i]? with
    | none => rfl
    | some x =>
      have hx := hlt x (List.mem_of_getElem? q)
      refine el12 (D.he x _ (List.getElem?_eq_getElem hx)) fun v' g1 _ => ?_
      have hx2 : x < es.size := by rw [hes]; exact hx
      rw [Array.getElem?_toList, Array.getElem?_eq_getElem hx2] at g1
      have g1 := Option.some.inj g1
      simp [List.getElem?_eq_getElem hx, Array.getD, hx2, g1]
  have hfit : t'.fits es.size = true := by
    unfold SetTable.fits SetTable.fill
    rw [h4.dum, h4.size, List.length_map, Array.length_toList]
    have e1 : order.size = es.size := by rw [← Array.length_toList, h2.length_eq, List.length_range, hes]
    rw [e1]
    have := h4.room
    rw [h4.size, List.length_map, Array.length_toList, e1] at this
    simp only [beq_self_eq_true, Bool.true_and, decide_eq_true_eq]
    show es.size + 0 ≤ t'.mask
    lia
  refine ⟨t', order, order.toList.filterMap (ks[·]?), h6, h1, szE, pK, ?_, hfit, hx', _, _, _, rfl, ?_, fun i k' hi => ?_, ⟨pK.nodup_iff.mpr D.nd, ?_, ?_, fun e => by rw [h5]; exact hled e, by rw [← hash]; exact h4, fun x hx y hy => D.one x (pK.mem_iff.mp hx) y (pK.mem_iff.mp hy)⟩⟩
  · unfold coversAll; rw [hes]; exact List.isPerm_iff.mpr h2
  · rw [eE, (fm_perm _ (by rw [D.hl]; exact h2)).length_eq, pK.length_eq, D.hl]
  · rw [fm_get hlt] at hi
    rw [eE, fm_get hlt']
    cases q : order.toList[i]? with
    | none => rw [q] at hi; cases hi
    | some x =>
      rw [q] at hi
      exact D.he x k' hi
  · rw [pK.length_eq, ← hes]; exact hfit
  · rw [pK.length_eq]; have := D.small; show _ < 4096; lia
theorem SRaw.relay {wanted : Nat} {Q : Unit → Shared → Prop} (D : SRaw w F s a ks ob es n t) (hw : wanted < 2000) (hr : ks.length * 5 < wanted * 3) (hQ : ∀ ks' h' ob', ks'.Perm ks → Heap.SameBut a s.heap h' → h'.get? a = some ob' → OAt w.params F (.set ks') ob' → (∃ es' n' t', ob'.data = .set es' n' t' ∧ wanted ≤ t'.mask) → Q () { s with heap := h' }) :
    wpAny (model prog w) A (setRelay a wanted) Q E s := by
  refine el14 (sizeAbove_ok wanted hw) fun k₀ h3 e1 e2 e3 => ?_
  unfold setRelay
  refine wpAny_bind (D.state ?_)
  dsimp only
  rw [if_neg (by rw [sizeLine_eq]; lia)]
  have pos : 0 < SetTable.sizeAbove wanted := by lia
  refine el37 (D.laid (mask := SetTable.sizeAbove wanted - 1) ⟨k₀, h3, by lia⟩ (by lia) (by lia) t.finger (t.movedTo (SetTable.sizeAbove wanted - 1)) t.led t.plain D.led (n + 1) ob D.hx) fun t' order ks' g0 g1 g2 g3 _ _ g4 => ?_
  have g1' : t.relaid (es.map (·.1)) wanted = some (t', order) := g1
  refine wpAny_bind ?_
  show wpAny _ _ (match t.relaid (es.map (·.1)) wanted with | some (t, order) => _ | _ => _) _ _ _
  rw [g1']
  dsimp only
  rw [if_neg (by rw [g2]; simp)]
  refine wpAny_pure ?_
  refine wpAny_storeSet_of D.ho D.hd ?_ ?_
  · have hg : (s.heap.update a (Obj.putSet (order.filterMap (es[·]?)) t')).get? a = some _ := Heap.get?_update_self _ D.ho (by rw [putSet_of _ _ D.hd]; rfl)
    rw [putSet_of _ _ D.hd] at hg
    exact hQ ks' _ _ g3 (Heap.SameBut.update ..) hg g4 ⟨_, _, _, rfl, by rw [g0]; lia⟩
  · rw [g2, D.size]; have := D.small; rw [sizeLine_eq]; lia
end
end
section
open PySem PySem.Calls
section
variable {prog : Program} {w : World} {A : Around} {E : Value → Shared → Prop} {s : Shared} {F : PMap} {ks : List Key} {k : Key} {v : Value} {a : Addr} {ob : Obj} {es : Array (Int × Value)} {n : Nat} {t : SetTable}
theorem SAt.lay (D : SAt w F s a ks ob es n t) (hk : KeyAt F k v) (hno : k ∉ ks) (hkd : ∀ k' ∈ ks, k'.kind = k.kind) (hz : ks.length + 1 < 400) {m : Nat} (hm : m < 10 * SetTable.turns t.mask) (hj : (prb t (k.hash w.params) m).j ∉ t.place.toList)
    (hb : ∀ x, x < m → (prb t (k.hash w.params) x).j ∈ t.place.toList) (pl : Bool) {t' : SetTable} {p : Nat} (hput : t.put (prb t (k.hash w.params) m).j = (t', p)) :
    (SetTable.insertAt es p (k.hash w.params, v)).size = ks.length + 1 ∧ t'.fits (ks.length + 1) = true ∧ (ins ks p k).Perm (k :: ks) ∧
    (∀ s₁ : Shared, s₁.heap.get? a = some { ob with data := .set (SetTable.insertAt es p (k.hash w.params, v)) (n + 1) { t' with plain := pl } } →
      SRaw w F s₁ a (ins ks p k) { ob with data := .set (SetTable.insertAt es p (k.hash w.params, v)) (n + 1) { t' with plain := pl } } (SetTable.insertAt es p (k.hash w.params, v)) (n + 1) { t' with plain := pl }) ∧
    (({ t' with plain := pl } : SetTable).tooFull = false → OAt w.params F (.set (ins ks p k)) { ob with data := .set (SetTable.insertAt es p (k.hash w.params, v)) (n + 1) { t' with plain := pl } }) := by
  have T := D.ok.tab
  have hlen : t.place.size = ks.length := by rw [T.size, List.length_map]
  have hpp : p = SetTable.below t.place (prb t (k.hash w.params) m).j := (congrArg Prod.snd hput).symm
  have htt : t' = (t.put (prb t (k.hash w.params) m).j).1 := (congrArg Prod.fst hput).symm
  have b1 : p ≤ ks.length := by rw [hpp, ← hlen]; exact (below_spec T.asc).1
  have e1 : t'.mask = t.mask := by rw [htt]; rfl
  have e2 : t'.led = t.led := by rw [htt]; rfl
  have e3 : t'.dummies = #[] := by
    rw [htt]
    show (if SetTable.has t.dummies (prb t (k.hash w.params) m).j then _ else t.dummies) = #[]
    rw [T.dum]; simp [SetTable.has]
  have e4 : t'.place.size = ks.length + 1 := by
    rw [htt]
    show (SetTable.insertAt t.place _ _).size = _
    rw [← Array.length_toList, (SetTable.insertAt_perm _ _ _).length_eq, Array.toList_push]; simp [hlen]
  have hroom := T.room
  have eL : (SetTable.insertAt es p (k.hash w.params, v)).toList = ins es.toList p (k.hash w.params, v) := by rw [SetTable.toList_insertAt]; rfl
  have eS : (SetTable.insertAt es p (k.hash w.params, v)).size = ks.length + 1 := by rw [← Array.length_toList, eL, ins_length, D.hl]
  have hmask : 7 ≤ t.mask := by
    refine el12 (T.mask) fun k₀ h3 hm => ?_
    have : 2 ^ 3 ≤ 2 ^ k₀ := Nat.pow_le_pow_right (by decide) h3
    lia
  have hfit : t'.fits (ks.length + 1) = true := by
    unfold SetTable.fits SetTable.fill
    rw [e4, e3, e1]
    simp only [beq_self_eq_true, Bool.true_and, decide_eq_true_eq]
    show ks.length + 1 + 0 ≤ t.mask
    lia
  have hel : (SetTable.insertAt es p (k.hash w.params, v)).toList.length = (ins ks p k).length := by rw [eL, ins_length, ins_length, D.hl]
  have hent : ∀ (i : Nat) (k' : Key), (ins ks p k)[i]? = some k' → ∃ v', (SetTable.insertAt es p (k.hash w.params, v)).toList[i]? = some (k'.hash w.params, v') ∧ KeyAt F k' v' := fun i k' hi => by
    rw [ins_get b1] at hi
    rw [eL, ins_get (by rw [D.hl]; exact b1)]
    by_cases q1 : i < p
    · rw [if_pos q1] at hi ⊢; exact D.he i k' hi
    · rw [if_neg q1] at hi ⊢
      by_cases q2 : i = p
      · rw [if_pos q2] at hi ⊢; cases hi; exact ⟨v, rfl, hk⟩
      · rw [if_neg q2] at hi ⊢; exact D.he _ k' hi
  have hnd : (ins ks p k).Nodup := (ins_perm ks p k).nodup_iff.mpr (List.nodup_cons.mpr ⟨hno, D.ok.nodup⟩)
  have hone : ∀ x ∈ ins ks p k, ∀ y ∈ ins ks p k, x.kind = y.kind := fun x hx y hy => by
    have all : ∀ z ∈ ins ks p k, z.kind = k.kind := fun z hz => by rcases ins_mem.mp hz with q | q; exact q ▸ rfl; exact hkd z q
    exact (all x hx).trans (all y hy).symm
  refine ⟨eS, hfit, ins_perm _ _ _, fun s₁ h₁ => ⟨h₁, D.hx, rfl, hel, hent, hnd, by rw [ins_length]; exact hfit, by rw [ins_length]; exact hz, fun e => by show t'.led = true; rw [e2]; exact D.ok.led e, hone⟩, fun htf => ?_⟩
  have hr : (ks.length + 1) * 5 < t.mask * 3 := by
    have : ¬ ((t'.place.size + t'.dummies.size) * 5 ≥ t'.mask * 3) := of_decide_eq_false htf
    rw [e4, e3, e1] at this
    have z : (#[] : Array Nat).size = 0 := rfl
    rw [z] at this
    lia
  refine el05 (T.ins hm hj hb (by rw [List.length_map]; exact hr)) fun _ T' _ _ _ => ?_
  rw [hput] at T'
  dsimp only at T'
  rw [← ins_map] at T'
  exact ⟨D.hx, _, _, _, rfl, hel, hent, ⟨hnd, by rw [ins_length]; exact hfit, by rw [ins_length]; show _ < 4096; lia, fun e => by show t'.led = true; rw [e2]; exact D.ok.led e,
    ⟨T'.dum, T'.mask, T'.cap, T'.size, T'.room, T'.asc, T'.le, fun i h j h1 h2 => by
      refine el13 (T'.path i h j h1 h2) fun n c1 c2 c3 => ?_
      have km : ({ t' with plain := pl } : SetTable).mask = t'.mask := rfl
      exact ⟨n, c1, by rw [prb_mask km]; exact c2, fun x hx => by rw [prb_mask km]; exact c3 x hx⟩⟩, hone⟩⟩
theorem grown_ok {m : Nat} (hm : m < 400) (h0 : 0 < m) : SetTable.grown m < 2000 ∧ m * 5 < SetTable.grown m * 3 := by
  unfold SetTable.grown
  rw [if_neg (by lia)]
  lia
theorem add_any {Q : Bool → Shared → Prop} (hA : A.units < cLine) (D : SAt w F s a ks ob es n t) (hk : KeyAt F k v) (hp : k.kind ≠ 2) (hkd : ∀ k' ∈ ks, k'.kind = k.kind) (hz : ks.length + 1 < 400)
    (hin : k ∈ ks → Q false s) (hout : k ∉ ks → ∀ ks' h' ob', ks'.Perm (k :: ks) → Heap.SameBut a s.heap h' → h'.get? a = some ob' → OAt w.params F (.set ks') ob' → Q true { s with heap := h' }) :
    wpAny (model prog w) A (setAddHashed a v (k.hash w.params)) Q E s := by
  have hb : es.size < scanBound := by rw [D.size]; exact D.ok.small
  have hes : es.size = ks.length := D.size
  unfold setAddHashed setAddHashedIn
  refine wpAny_holding (wpAny_bind (D.state ?_))
  dsimp only
  have stored : ∀ (hno : k ∉ ks) (m : Nat), m < 10 * SetTable.turns t.mask → (prb t (k.hash w.params) m).j ∉ t.place.toList → (∀ x, x < m → (prb t (k.hash w.params) x).j ∈ t.place.toList) → ∀ (t' : SetTable) (p : Nat), t.put (prb t (k.hash w.params) m).j = (t', p) →
      ∀ (tt : SetTable) (Q' : Unit → Shared → Prop), (tt = t' ∨ tt = { t' with plain := false }) →
      (∀ h', tt.tooFull = false → Q true { s with heap := h' } → Q' () { s with heap := h' }) →
      (∀ h' ob', tt.tooFull = true → Heap.SameBut a s.heap h' → SRaw w F { s with heap := h' } a (ins ks p k) ob' (SetTable.insertAt es p (k.hash w.params, v)) (n + 1) tt → Q' () { s with heap := h' }) →
      wpAny (model prog w) A (storeSet a (SetTable.insertAt es p (k.hash w.params, v)) tt) Q' E s := fun hno m hm hj hbf t' p hput tt Q' htt hq1 hq2 => by
    obtain ⟨pl, rfl⟩ : ∃ pl, tt = { t' with plain := pl } := by
      rcases htt with q | q
      · exact ⟨t'.plain, q⟩
      · exact ⟨false, q⟩
    refine el05 (D.lay hk hno hkd hz hm hj hbf pl hput) fun p1 p2 p3 p4 p5 => ?_
    refine wpAny_storeSet_of D.ho D.hd ?_ (by rw [p1, sizeLine_eq]; lia)
    have hg : (s.heap.update a (Obj.putSet (SetTable.insertAt es p (k.hash w.params, v)) { t' with plain := pl })).get? a = some _ := Heap.get?_update_self _ D.ho (by rw [putSet_of _ _ D.hd]; rfl)
    rw [putSet_of _ _ D.hd] at hg
    cases htf : ({ t' with plain := pl } : SetTable).tooFull with
    | false => exact hq1 _ htf (hout hno _ _ _ p3 (Heap.SameBut.update ..) hg (p5 htf))
    | true => exact hq2 _ _ htf (Heap.SameBut.update ..) (p4 _ hg)
  cases k with
  | s x =>
    obtain ⟨tk, rfl⟩ := hk
    have hel := SAt.elems (prog := prog) D hkd
    rw [byScan_of (knd := strKind prog w) rfl hb hel]
    simp only [↓reduceIte]
    unfold setAddByScan
    refine wpAny_bind ?_
    refine wpAny_bind (wpAny_rule ?_)
    refine wpAny_bind (wpAny_setScan_of (knd := strKind prog w) (k := x) (strKind_is _ _ _ _) D.ho D.hd D.fits hel ?_)
    rcases SAt.scan (prog := prog) D (x := x) hkd with ⟨j, e1, e2⟩ | ⟨e1, e2⟩
    · rw [e1]; exact wpAny_pure (wpAny_pure (hin e2))
    · rw [e1]
      dsimp only
      refine hide fun c => ?_
      refine el12 (D.ok.tab.free ((Key.s x).hash w.params)) fun m₀ hm₀ hfr => ?_
      have T := D.ok.tab
      refine Or.elim (probe_go (hashAt := fun _ => (Key.s x).hash w.params + 1) (h := (Key.s x).hash w.params) T.dum T.asc hfr (10 * SetTable.turns t.mask) 0 (by lia) (by lia)) (fun q => el15 q fun m₁ a1 a2 a3 a4 a5 => ?_) fun q => el26 q fun m₁ i a1 a2 a3 a4 a5 a6 => ?_
      · have hfs : t.freeSlot ((Key.s x).hash w.params) = some ((prb t ((Key.s x).hash w.params) m₁).j, false) := by
          unfold SetTable.freeSlot
          have : t.probe (fun _ => (Key.s x).hash w.params + 1) ((Key.s x).hash w.params) (t.probeStart ((Key.s x).hash w.params)) = some (.empty (prb t ((Key.s x).hash w.params) m₁).j none) := a5
          rw [this]; rfl
        have hbf : ∀ z, z < m₁ → (prb t ((Key.s x).hash w.params) z).j ∈ t.place.toList := fun z hz => by refine el12 (a3 z (by lia) hz) fun i e _ => ?_; exact List.mem_of_getElem? e
        have hst := stored e2 m₁ (by lia) a4 hbf
        have hlay := fun (t' : SetTable) (p : Nat) (hp' : t.put (prb t ((Key.s x).hash w.params) m₁).j = (t', p)) => D.lay (k := .s x) (v := .str x tk) ⟨tk, rfl⟩ e2 hkd hz (by lia) a4 hbf false hp'
        generalize hput : t.put (prb t ((Key.s x).hash w.params) m₁).j = tp at *
        obtain ⟨t', pp⟩ := tp
        refine el05 (hlay t' pp rfl) fun p1 p2 p3 _ _ => ?_
        have hst := hst t' pp rfl
        have hln : layNew t es ((Key.s x).hash w.params) (.str x tk) = (SetTable.insertAt es pp ((Key.s x).hash w.params, .str x tk), t', false, false) := by
          unfold layNew
          rw [hfs]
          dsimp only
          rw [hput]
          dsimp only
          unfold SetTable.orStandIn
          rw [p1, p2]
          simp
        refine c.k ?_
        show wpAny _ _ (match layNew t es ((Key.s x).hash w.params) (.str x tk) with | (es, t, wasDummy, gave) => _) _ _ _
        rw [hln]
        dsimp only
        refine wpAny_bind (wpAny_pure ?_)
        refine hide fun c => ?_
        have tail : ∀ {β : Type} (g : Bool → Sem Unit) (_ : ∀ (b : Bool) (s₁ : Shared) (Q' : Unit → Shared → Prop), Q' () s₁ → wpAny (model prog w) A (g b) Q' E s₁) (tt : SetTable) (Y : Sem β) (Q' : β → Shared → Prop), (tt = t' ∨ tt = { t' with plain := false }) →
            (∀ h', Q true { s with heap := h' } → wpAny (model prog w) A Y Q' E { s with heap := h' }) →
            wpAny (model prog w) A (do
              storeSet a (SetTable.insertAt es pp ((Key.s x).hash w.params, .str x tk)) tt
              if (!false && tt.tooFull) = true then do
                g (relayAll tt (SetTable.insertAt es pp ((Key.s x).hash w.params, .str x tk)) (SetTable.grown (SetTable.insertAt es pp ((Key.s x).hash w.params, .str x tk)).size)).2.2
                storeSet a (relayAll tt (SetTable.insertAt es pp ((Key.s x).hash w.params, .str x tk)) (SetTable.grown (SetTable.insertAt es pp ((Key.s x).hash w.params, .str x tk)).size)).1 (relayAll tt (SetTable.insertAt es pp ((Key.s x).hash w.params, .str x tk)) (SetTable.grown (SetTable.insertAt es pp ((Key.s x).hash w.params, .str x tk)).size)).2.1
                Y
              else Y) Q' E s := fun g hg tt Y Q' htt hY => by
          refine wpAny_bind (hst tt _ htt (fun h' htf hq => ?_) fun h' ob' htf hsb D' => ?_)
          · rw [htf]
            (first | rw [Bool.and_false, if_neg Bool.false_ne_true] | simp only [Bool.and_false, Bool.false_eq_true, if_false])
            exact hY h' hq
          · rw [htf]
            simp only [Bool.not_false, Bool.and_true, if_true]
            have hgr := grown_ok (m := ks.length + 1) hz (by lia)
            refine el14 (sizeAbove_ok (SetTable.grown (ks.length + 1)) hgr.1) fun k₀ h3 f1 f2 f3 => ?_
            have hsm : (ins ks pp (Key.s x)).length = ks.length + 1 := ins_length _ _ _
            refine el37 (D'.laid (mask := SetTable.sizeAbove (SetTable.grown (ks.length + 1)) - 1) ⟨k₀, h3, by lia⟩ (by lia) (by rw [hsm]; lia) tt.finger (tt.movedTo (SetTable.sizeAbove (SetTable.grown (ks.length + 1)) - 1)) tt.led tt.plain D'.led (n + 1 + 1) ob' D'.hx) fun t2 order ks' _ g1 g2 g3 g4 g5 g6 => ?_
            have hra : relayAll tt (SetTable.insertAt es pp ((Key.s x).hash w.params, .str x tk)) (SetTable.grown (SetTable.insertAt es pp ((Key.s x).hash w.params, .str x tk)).size) = (order.filterMap ((SetTable.insertAt es pp ((Key.s x).hash w.params, .str x tk))[·]?), t2, false) := by
              have g1' : tt.relaid ((SetTable.insertAt es pp ((Key.s x).hash w.params, .str x tk)).map (·.1)) (SetTable.grown (ks.length + 1)) = some (t2, order) := g1
              unfold relayAll
              rw [p1, g1']
              dsimp only
              rw [p1] at g4 g5 g2
              rw [g4, g2, g5]
              simp
            rw [hra]
            refine wpAny_bind (hg _ _ _ ?_)
            refine wpAny_bind (wpAny_storeSet_of D'.ho D'.hd ?_ ?_)
            · refine hY _ (hout e2 ks' _ { ob' with data := .set (order.filterMap ((SetTable.insertAt es pp ((Key.s x).hash w.params, .str x tk))[·]?)) (n + 1 + 1) t2 } (g3.trans p3) (hsb.trans (Heap.SameBut.update _ _ _)) ?_ g6)
              have := Heap.get?_update_self (Obj.putSet (order.filterMap ((SetTable.insertAt es pp ((Key.s x).hash w.params, .str x tk))[·]?)) t2) D'.ho (by rw [putSet_of _ _ D'.hd]; rfl)
              rw [putSet_of _ _ D'.hd] at this
              exact this
            · rw [g2, p1, sizeLine_eq]; lia
        have hgw : ∀ (b : Bool) (s₁ : Shared) (Q' : Unit → Shared → Prop), Q' () s₁ → wpAny (model prog w) A (match b with | true => rule "set.scan.the-table-gave-way" | false => pure ()) Q' E s₁ :=
          fun b s₁ Q' hq => by cases b <;> first | exact wpAny_pure hq | exact wpAny_rule hq
        refine c.k ?_
        split
        · rw [hashByValue_scannable 8 (x := .str x tk) rfl]
          refine wpAny_bind (wpAny_pure (tail _ hgw _ _ _ ?_ fun h' hq => wpAny_pure (wpAny_pure hq)))
          split
          · exact .inl rfl
          · exact .inr rfl
        · exact wpAny_bind (wpAny_pure (tail _ hgw _ _ _ (.inl (if_pos rfl)) fun h' hq => wpAny_pure (wpAny_pure hq)))
      · exact absurd a5 (by lia)
  | t xs =>
    obtain ⟨b, rfl⟩ := ref_key hk rfl
    rw [if_neg (show ¬ (byScan (.ref _) _ = true) from Bool.false_ne_true)]
    refine wpAny_bind (search_key (k := .t xs) (adding := true) rfl hA D hk rfl hkd (fun hin' r hr => wpAny_pure (hin hin')) (fun hno m hm hj hbf => ?_) 100000 0 none rfl (fun x hx => absurd hx (by lia)) (by lia) ?_)
    · dsimp only
      refine wpAny_bind (D.state ?_)
      dsimp only
      have hst := stored hno m hm hj hbf
      have hlay := fun (t' : SetTable) (p : Nat) (hp' : t.put (prb t ((Key.t xs).hash w.params) m).j = (t', p)) => D.lay hk hno hkd hz hm hj hbf false hp'
      generalize hput : t.put (prb t ((Key.t xs).hash w.params) m).j = tp at *
      obtain ⟨t', pp⟩ := tp
      refine el05 (hlay t' pp rfl) fun p1 p2 p3 _ _ => ?_
      have hst := hst t' pp rfl
      dsimp only
      have tail : ∀ (tt : SetTable), (tt = t' ∨ tt = { t' with plain := false }) →
          wpAny (model prog w) A (do
            storeSet a (SetTable.insertAt es pp ((Key.t xs).hash w.params, .ref b)) tt
            if (!false && tt.tooFull) = true then do
              setRelay a (SetTable.grown (es.size + 1))
              pure true
            else pure true) Q E s := fun tt htt => by
        refine wpAny_bind (hst tt _ htt (fun h' htf hq => ?_) fun h' ob' htf hsb D' => ?_)
        · rw [htf]
          (first | rw [Bool.and_false, if_neg Bool.false_ne_true] | simp only [Bool.and_false, Bool.false_eq_true, if_false])
          exact wpAny_pure hq
        · rw [htf]
          simp only [Bool.not_false, Bool.and_true, if_true]
          have hgr := grown_ok (m := ks.length + 1) hz (by lia)
          rw [hes]
          refine wpAny_bind (D'.relay hgr.1 (by rw [ins_length]; exact hgr.2) fun ks' h2 ob2 q1 q2 q3 q4 _ => wpAny_pure ?_)
          exact hout hno ks' h2 ob2 (q1.trans p3) (hsb.trans q2) q3 q4
      split
      · refine wpAny_bind (hashByValue_t D.hF hk fun bv => tail _ ?_)
        split
        · exact .inl rfl
        · exact .inr rfl
      · exact wpAny_bind (wpAny_pure (tail _ (.inl (if_pos rfl))))
    · have := D.ok.tab.cap
      unfold SetTable.turns; lia
  | p _ _ => exact absurd rfl hp
end
end
section
open PySem PySem.Calls
noncomputable def freshSet (w : World) : Obj := { cls := .type "set", data := .set #[] 0 (.fresh 0 0 (!w.params.followText "set-order")) }
theorem freshSet_at {w : World} {F : PMap} : OAt w.params F (.set []) (freshSet w) := by
  refine ⟨⟨rfl, rfl, rfl⟩, #[], 0, _, rfl, rfl, (fun i k h => by simp at h), ⟨List.nodup_nil, by rfl, by decide, fun e => ?_, ⟨rfl, ⟨3, by lia, rfl⟩, show (7 : Nat) < 5000 by decide, rfl, show (0 : Nat) * 5 < 7 * 3 by decide, List.Pairwise.nil, (fun _ h => by cases h), (fun i h j e _ => by cases e)⟩, (fun _ h => by cases h)⟩⟩
  show (!w.params.followText "set-order") = true
  rw [e]; rfl
theorem newSet_at {prog : Program} {w : World} {A : Around} {E : Value → Shared → Prop} {s : Shared} {Q : Value → Shared → Prop} (h : Q (.ref s.heap.objs.size) { s with heap := s.heap.push (freshSet w) }) : wpAny (model prog w) A (newSet (.type "set")) Q E s := by
  unfold newSet
  refine wpAny_bind (wpAny_byText ?_)
  show wpAny _ _ (newObj (.type "set") (.set #[] 0 (.fresh 0 0 (!w.params.followText "set-order")))) _ _ s
  simp only [newObj]
  refine wpAny_bind ?_
  exact wpAny_alloc (wpAny_pure h)
theorem entry_set_or : entryFor table "set.__or__" = some Builtin.«frozenset.__or__» :=
  entryFor_alias (id' := "frozenset.__or__") (by kernel_rfl) rfl (by decide +kernel) (by kernel_rfl)
theorem typeCall_set_1 (a : Value) : checkTypeCall "set" ⟨[a], []⟩ = pure () := by kernel_rfl
theorem newCall_set_1 (a : Value) : checkBuiltinCall "set.__new__" ⟨[.type "set", a], []⟩ = pure () := by kernel_rfl
theorem check_init1 {M : Model} {A : Around} {E : Value → Shared → Prop} {s : Shared} {self x : Value} {Q : Unit → Shared → Prop} (hT : s.TypeIs self "set") (hQ : Q () s) :
    wpAny M A (checkBuiltinCall "set.__init__" ⟨[self, x], []⟩) Q E s := by
  simp only [checkBuiltinCall, kind_set_init, split_set_init, sig_set_init]
  refine wpAny_bind (wpAny_isInstance hT sub_set_self ?_)
  (first | rw [if_neg (show ¬ ((!true) = true) from Bool.false_ne_true)] | simp only [Bool.not_true, Bool.false_eq_true, if_false])
  unfold Bind.checkArgs
  dsimp only
  refine wpAny_bind (m := Bind.printed "set" true _ _) (PyProof.Rows.printed_name (by decide) ?_)
  refine wpAny_bind (m := Bind.printed "*" false _ _) (PyProof.Rows.printed_star (self := self) rfl hT fun short => ?_)
  have hrn : (Manifest.Receiver.self == Manifest.Receiver.none) = false := by decide
  have hn : (if (Manifest.Receiver.self == Manifest.Receiver.none) = true then [self, x].length else [self, x].length - 1) = 1 := by simp [hrn]
  rw [hn]
  simp only [List.map_nil]
  have hc : Bind.check ⟨.positional, "set", "*", .self, [⟨"iterable", .posOnly, false⟩]⟩ "set" short 1 [] = pure () := by
    simp [Bind.check, Bind.checkCount, Bind.isPositional]
    intro h
    exact absurd h (by decide)
  rw [hc]
  exact wpAny_pure hQ
theorem newOf_set {prog : Program} {w : World} {A : Around} {E : Value → Shared → Prop} {s : Shared} {rest : List Value} {Q₁ : Value → Shared → Prop} (hc : checkBuiltinCall "set.__new__" ⟨.type "set" :: rest, []⟩ = pure ())
    (h : Q₁ (.ref s.heap.objs.size) { s with heap := s.heap.push (freshSet w) }) : codeAny (model prog w) A (.call (.builtin "set.__new__") ⟨.type "set" :: rest, []⟩) (wants Q₁ E) s := by
  refine codeAny_of_tree ?_
  show wpAny _ A.in1 (do checkBuiltinCall "set.__new__" ⟨.type "set" :: rest, []⟩; again (.builtin "set.__new__" ⟨.type "set" :: rest, []⟩)) _ _ s
  refine wpAny_bind (wpAny_of_eq hc (wpAny_pure ⟨plainId_quiet PySem.F.plain_set_new _, codeAny_builtin PySem.F.entry_set_new ?_⟩))
  rw [Around.under_plainId PySem.F.plain_set_new _]
  unfold Builtin.«set.__new__» Builtin.Frozenset.newClass
  refine wpAny_bind ?_
  refine wpAny_bind (m := isType _) (wpAny_pure ?_)
  (first | rw [if_neg (show ¬ ((!true) = true) from Bool.false_ne_true)] | simp only [Bool.not_true, Bool.false_eq_true, if_false])
  refine wpAny_bind (wpAny_of_eq sub_set_self ?_)
  (first | rw [if_neg (show ¬ ((!true) = true) from Bool.false_ne_true)] | simp only [Bool.not_true, Bool.false_eq_true, if_false])
  refine wpAny_pure (wpAny_bind (newSet_at (wpAny_pure h)))
theorem callSet {prog : Program} {w : World} {A : Around} {E : Value → Shared → Prop} {s : Shared} {rest : List Value} {Q : Value → Shared → Prop} (hct : checkTypeCall "set" ⟨rest, []⟩ = pure ()) (hc : checkBuiltinCall "set.__new__" ⟨.type "set" :: rest, []⟩ = pure ())
    (hi : ∀ (s' : Shared) (self : Value) (Q' : Unit → Shared → Prop), s'.TypeIs self "set" → Q' () s' → wpAny (model prog w) A.in1.in1 (checkBuiltinCall "set.__init__" ⟨self :: rest, []⟩) Q' E s')
    (h : wpAny (model prog w) A.in1.in1 (Builtin.«set.__init__» ⟨.ref s.heap.objs.size :: rest, []⟩) (fun fin s' => fin = .done (.ret .none) ∧ Q (.ref s.heap.objs.size) s') E { s with heap := s.heap.push (freshSet w) }) :
    wpAny (model prog w) A (call (.type "set") rest) Q E s := by
  refine el21 (PySem.F.called_set.mro) fun c tl hmro => ?_
  have hmade := PySem.F.called_set.made
  have hsub := PySem.F.called_set.sub
  refine wpAny_call (codeAny_of_tree ?_)
  show wpAny _ _ (callAny (.type "set") _) _ _ _
  refine wpAny_pure ⟨Code.quiet_builtin _ (by decide +kernel), codeAny_builtin PySem.F.entry_type_call ?_⟩
  rw [Around.under_plain (weight_type_call_type "set" rest []) rfl]
  have h1 := PySem.F.called_set.notType
  have h2 := PySem.F.called_set.canCreate
  repeat (any_goals (first | assumption | wp_step))
  refine codeAny_mono (newOf_set (E := E) (Q₁ := fun obj s₁ => obj = .ref s.heap.objs.size ∧ s₁ = { s with heap := s.heap.push (freshSet w) }) hc ⟨rfl, rfl⟩) fun r s₁ hr => ?_
  cases r with
  | error e => exact hr
  | ok fl =>
    cases fl with
    | ret obj =>
      obtain ⟨rfl, rfl⟩ := hr
      have hS : (s.heap.push (freshSet w)).get? s.heap.objs.size = some (freshSet w) := Heap.get?_push_size _ rfl
      have hT : Shared.TypeIs { s with heap := s.heap.push (freshSet w) } (.ref s.heap.objs.size) "set" := ⟨_, hS, rfl⟩
      have hli := PySem.F.called_set.init.lookup
      have hbi := PySem.F.called_set.init.bind (.ref s.heap.objs.size)
      repeat (any_goals (first | assumption | wp_step))
      refine codeAny_mono (codeAny_call_builtin (R := wants (fun r s₂ => r = .none ∧ Q (.ref s.heap.objs.size) s₂) E) PySem.F.called_set.init.plain PySem.F.entry_set_init (hi _ _ _ hT (wpAny_mono h (fun fin s' hq => ?_) fun _ _ e => e))) fun r₂ s₂ hr₂ => ?_
      · obtain ⟨rfl, hq⟩ := hq
        exact ⟨rfl, hq⟩
      · cases r₂ with
        | error e => exact hr₂
        | ok fl₂ =>
          cases fl₂ with
          | ret r =>
            obtain ⟨rfl, hq⟩ := hr₂
            repeat (any_goals (first | assumption | wp_step))
          | _ => exact hr₂.elim
    | _ => exact hr.elim
theorem sub_list_set : isSubtype (.type "list") (.type "set") = pure false := by rw [isSubtype_type]; kernel_rfl
theorem sub_list_frozenset : isSubtype (.type "list") (.type "frozenset") = pure false := by rw [isSubtype_type]; kernel_rfl
theorem plain_update_loop : plainId "set.update.loop" = true := by decide +kernel
theorem entry_update_loop : entryFor table "set.update.loop" = some Builtin.«set.update.loop» := entryFor_of_fast (by kernel_rfl)
section
variable {C : Cx} {d : Nat} {sc : Scope} {ε : Env1} {μ μ' : Mem} {k k' : PostW} {kb : Bool → Mem → Prop} {kl : List W → Mem → Prop} {kf kf' : PostF}
theorem Sim.pushSet {F Z : PMap} {s : Shared} (S : Sim C F Z μ s) : Sim C F Z ((s.heap.objs.size, .set []) :: μ) { s with heap := s.heap.push (freshSet C.w) } := S.pushM rfl freshSet_at
theorem Has.set {F Z : PMap} {s : Shared} (S : Sim C F Z μ s) {x : W} {ks : List Key} {v : Value} (h : Has μ x (.set ks)) (hw : WAt C.P F x v) : ∃ a ob es n t, v = .ref a ∧ SAt C.w F s a ks ob es n t := by
  cases x with
  | l a =>
    refine WAt.i_l hw ?_
    obtain ⟨_, _, ob, h3, hx, es, n, t, hd, hl, he, ok⟩ := S.own a _ h
    exact ⟨a, ob, es, n, t, rfl, S.fz, h3, hx, hd, hl, he, ok⟩
  | v y =>
    cases y with
    | set l =>
      injection (show O.set ks = O.set l from h) with e; subst e
      exact Val.i_set hw fun a o es n t h1 h2 h3 h4 h5 h6 => ⟨_, _, _, _, _, rfl, S.fz, S.fz _ _ h1, h2, h3, h4, h5, h6⟩
    | list => exact nomatch (show O.set ks = O.list _ from h)
    | dict => exact nomatch (show O.set ks = O.dict _ from h)
    | _ => exact False.elim h
theorem contains_at {prog : Program} {w : World} {A : Around} {E : Value → Shared → Prop} {s : Shared} {F : PMap} {ks : List Key} {k : Key} {v : Value} {a : Addr} {ob : Obj} {es : Array (Int × Value)} {n : Nat} {t : SetTable} {Q : Bool → Shared → Prop}
    (hA : A.units + 1 < cLine) (D : SAt w F s a ks ob es n t) (hk : KeyAt F k v) (hp : k.kind ≠ 2) (hkd : ∀ k' ∈ ks, k'.kind = k.kind) (h : ∀ x, Q (decide (k ∈ ks)) { s with toks := x }) : wpAny (model prog w) A (contains (.ref a) v) Q E s := by
  unfold contains
  try with_reducible refine wpAny_holding ?_
  refine wpAny_bind (wpAny_specialOf D.typeIs PySem.F.slot_set_contains.lookup ?_)
  show wpAny _ _ (if (some (Value.builtin "set.__contains__") == some Value.none) = true then _ else _) _ E s
  rw [if_neg (by rw [beq_builtin_none]; exact Bool.false_ne_true)]
  refine wpAny_bind (wpAny_callSpecialUnlessNone?_slot (name := Str.ofString "__contains__") D.typeIs PySem.F.slot_set_contains
    (wpAny_call_entry PySem.F.slot_set_contains D.typeIs entry_set_contains ?_ (PySem.F.args_set_contains_2 _ _)))
  unfold Builtin.«frozenset.__contains__» Builtin.Frozenset.oneOther
  simp only [List.isEmpty_nil, bind_assoc]
  unfold Builtin.Frozenset.addrOf Builtin.Frozenset.withSetAsKey
  refine wpAny_bind (wpAny_pure ?_)
  try dsimp only
  refine wpAny_bind (wpAny_pure ?_)
  try dsimp only
  refine wpAny_bind (wpAny_tryCatch ?_)
  refine contains_set (A := A.in1) hA D hk hp hkd fun x => ?_
  show wpAny _ _ (ret (Value.bool _)) _ _ _
  exact wpAny_pure ⟨_, rfl, wpAny_truthy_bool (h x)⟩
theorem v_inS {x : W} {ks : List Key} {key : Key} (hH : Has μ x (.set ks)) (hkd : ∀ k' ∈ ks, k'.kind = key.kind) (hp : key.kind ≠ 2) (h : k (.v (.bool (decide (key ∈ ks)))) μ) : cV2 C d μ (.v key.val) x (compareOp .In) k := fun A F Z s u v hA S hu hv => by
  (refine el52 (hH.set S hv) fun a ob es n t qq5 D => ?_; subst qq5)
  show wpAny _ _ (do return Value.bool (← contains (.ref a) u)) _ _ s
  exact wpAny_bind (contains_at (by have := hA.un; lia) D (Val.key hu) hp hkd fun t => wpAny_pure ⟨_, F, μ, h, .refl _, S.tok t, .bool _⟩)
theorem v_notInS {x : W} {ks : List Key} {key : Key} (hH : Has μ x (.set ks)) (hkd : ∀ k' ∈ ks, k'.kind = key.kind) (hp : key.kind ≠ 2) (h : k (.v (.bool (!decide (key ∈ ks)))) μ) : cV2 C d μ (.v key.val) x (compareOp .NotIn) k := fun A F Z s u v hA S hu hv => by
  (refine el52 (hH.set S hv) fun a ob es n t qq5 D => ?_; subst qq5)
  show wpAny _ _ (do return Value.bool (!(← contains (.ref a) u))) _ _ s
  exact wpAny_bind (contains_at (by have := hA.un; lia) D (Val.key hu) hp hkd fun t => wpAny_pure ⟨_, F, μ, h, .refl _, S.tok t, .bool _⟩)
theorem m_set {x : W} {ks : List Key} {name : Str} {id : String} {kk : Value → List W → Mem → Prop} (hH : Has μ x (.set ks)) (slot : Slot "set" name id) (hty : typeOf (.builtin id) = pure (.type "method_descriptor")) (h : kk (.builtin id) [x] μ) :
    cMeth C d μ x name kk := fun A F Z s v pl hA S hv => by
  (refine el52 (hH.set S hv) fun a ob es n t qq5 D => ?_; subst qq5)
  exact getMethod_builtin D.typeIs PySem.F.plainAttrs_set slot hty (fun b e => by cases e; exact ⟨_, D.ho, D.hx.2.1⟩) ⟨[x], F, μ, h, .refl _, S, .cons hv .nil⟩
theorem setAdd_sim {a : Addr} {ks : List Key} {key : Key} {v : Value} {A : Around} {F Z : PMap} {s : Shared} {Q : Bool → Shared → Prop} (hA : A.units < cLine) (S : Sim C F Z μ s) (hm : (a, O.set ks) ∈ μ) (hk : KeyAt F key v) (hkd : ∀ k' ∈ ks, k'.kind = key.kind) (hp : key.kind ≠ 2) (hz : ks.length + 1 < 400)
    (hin : key ∈ ks → ∀ t, Q false { s with toks := t }) (hout : key ∉ ks → ∀ ks' μ' s', ks'.Perm (key :: ks) → UpdAt a (.set ks) (.set ks') μ μ' → Sim C F Z μ' s' → Q true s') : wpAny C.M A (setAdd a v) Q (fun _ _ => False) s := by
  refine el52 (Has.set S (x := .l a) hm rfl) fun a' ob es n t e D => ?_
  cases e
  unfold setAdd
  refine wpAny_holding (wpAny_bind (hash_key hA S.fz hk hp fun tk => ?_))
  refine add_any hA (D.tok tk) hk hp hkd hz (fun h => hin h tk) fun hno ks' h' ob' p1 p2 p3 p4 => ?_
  obtain ⟨μ', hU⟩ := UpdAt.exists (.set ks') hm
  exact hout hno ks' μ' _ p1 hU (S.updM hU p2 p3 p4 tk)
theorem c_setadd {a : Addr} {ks : List Key} {key : Key} (hm : (a, O.set ks) ∈ μ) (hkd : ∀ k' ∈ ks, k'.kind = key.kind) (hp : key.kind ≠ 2) (hz : ks.length + 1 < 400)
    (hin : key ∈ ks → k (.v .none) μ) (hout : key ∉ ks → ∀ ks' μ', ks'.Perm (key :: ks) → UpdAt a (.set ks) (.set ks') μ μ' → k (.v .none) μ') : cCall C d μ (.builtin "set.add") [.l a, .v key.val] [] k := fun A F Z s vs kws hA S hv hkw => by
  refine KwAt.i_nil hkw ?_
  refine WsAt.i2 hv fun v1 v2 h1 h2 => ?_
  refine WAt.i_l h1 ?_
  refine el52 (Has.set S (x := .l a) hm rfl) fun a' ob es n t e D => ?_
  cases e
  refine wpAny_call_entry PySem.F.slot_set_add D.typeIs PySem.F.entry_set_add ?_ (PySem.F.args_set_add_2 _ _)
  unfold Builtin.«set.add» Builtin.Frozenset.oneOther
  simp only [List.isEmpty_nil, bind_assoc]
  unfold Builtin.Frozenset.addrOf
  refine wpAny_bind (wpAny_pure ?_)
  try dsimp only
  refine wpAny_bind (wpAny_pure ?_)
  try dsimp only
  refine wpAny_bind (wpBot (setAdd_sim (A := A.in1) (by have := hA.un; show A.units + 1 < cLine; lia) S hm (Val.key h2) hkd hp hz (Q := fun _ s' => Post C Z k F .none s') (fun hi t => ⟨.v .none, F, μ, hin hi, .refl _, S.tok t, .none⟩)
    fun hno ks' μ' s' p1 p2 p3 => ⟨.v .none, F, μ', hout hno ks' μ' p1 p2, .refl _, p3, .none⟩) fun b s' hq => ?_)
  exact wpAny_pure ⟨_, rfl, hq⟩
end
end
section
open PySem PySem.Calls
theorem UpdAt.trans {a : Addr} {x y z : O} {μ μ₁ μ₂ : Mem} (h : UpdAt a x y μ μ₁) (h' : UpdAt a y z μ₁ μ₂) (hn : (μ.map (·.1)).Nodup) : UpdAt a x z μ μ₂ := by
  induction h generalizing μ₂ with
  | here =>
    cases h' with
    | here => exact .here
    | there q =>
      simp only [List.map_cons, List.nodup_cons] at hn
      exact absurd (List.mem_map_of_mem (f := (·.1)) q.mem) hn.1
  | there p ih =>
    simp only [List.map_cons, List.nodup_cons] at hn
    cases h' with
    | here =>
      have : (_ : Addr × O).1 ∈ _ := List.mem_map_of_mem (f := (·.1)) p.mem
      exact absurd this hn.1
    | there q => exact .there (ih q hn.2)
theorem UpdAt.mem2 {a : Addr} {x y : O} {μ μ' : Mem} (h : UpdAt a x y μ μ') : (a, y) ∈ μ' := by
  induction h with
  | here => exact .head _
  | there _ ih => exact .tail _ ih
theorem UpdAt.self {a : Addr} {x : O} {μ : Mem} (h : (a, x) ∈ μ) : UpdAt a x x μ μ := by
  induction μ with
  | nil => cases h
  | cons p r ih =>
    rcases List.mem_cons.mp h with q | q
    · subst q; exact .here
    · exact .there (ih q)
section
variable {C : Cx} {d : Nat} {sc : Scope} {ε : Env1} {μ μ' : Mem} {k k' : PostW} {kb : Bool → Mem → Prop} {kl : List W → Mem → Prop} {kf kf' : PostF}
theorem Val.setAt {F : PMap} {lo : List Key} {v : Value} (h : Val C.P F (.set lo) v) : ∃ o ob es n t, v = .ref o ∧ F o = some ob ∧ ∀ s' : Shared, PIn F s'.heap → SAt C.w F s' o lo ob es n t := by
  cases h with
  | set h1 h2 h3 h4 h5 h6 => exact ⟨_, _, _, _, _, rfl, h1, fun s' hF => ⟨hF, hF _ _ h1, h2, h3, h4, h5, h6⟩⟩
theorem isAny_set {prog : Program} {w : World} {A : Around} {E : Value → Shared → Prop} {s : Shared} {v : Value} {Q : Bool → Shared → Prop} (hT : s.TypeIs v "set") (h : Q true s) : wpAny (model prog w) A (Builtin.Frozenset.isAnySet v) Q E s := by
  unfold Builtin.Frozenset.isAnySet
  refine wpAny_bind (wpAny_isInstance hT sub_set_self ?_)
  exact wpAny_pure h
theorem SetOk.same {P : Params} {ks : List Key} {t t' : SetTable} (h : SetOk P ks t) (e1 : t'.mask = t.mask) (e2 : t'.place = t.place) (e3 : t'.dummies = t.dummies) (hl : P.followText "set-order" = false → t'.led = true) : SetOk P ks t' := by
  refine ⟨h.nodup, ?_, h.small, hl, ⟨e3.trans h.tab.dum, by rw [e1]; exact h.tab.mask, by rw [e1]; exact h.tab.cap, by rw [e2]; exact h.tab.size, by rw [e1, e2]; exact h.tab.room, by rw [e2]; exact h.tab.asc, by rw [e1, e2]; exact h.tab.le, fun i x j h1 h2 => ?_⟩, h.one⟩
  · have := h.fits
    unfold SetTable.fits SetTable.fill at this ⊢
    rw [e1, e2, e3]; exact this
  · rw [e2] at h2
    refine el13 (h.tab.path i x j h1 h2) fun n c1 c2 c3 => ?_
    exact ⟨n, by rw [e1]; exact c1, by rw [prb_mask e1]; exact c2, fun y hy => by rw [prb_mask e1, e2]; exact c3 y hy⟩
theorem SetOk.flags {P : Params} {ks : List Key} {t : SetTable} (h : SetOk P ks t) (led plain : Bool) (hl : P.followText "set-order" = false → led = true) : SetOk P ks { t with led := led, plain := plain } := h.same rfl rfl rfl hl
theorem walkUnseen {a o : Addr} {ks lo : List Key} {A : Around} {F Z : PMap} {s : Shared} {ob : Obj} {es : Array (Int × Value)} {n : Nat} {t : SetTable} {Q : Array (Int × Value) → Shared → Prop}
    (S : Sim C F Z μ s) (hm : (a, O.set ks) ∈ μ) (hks : ∀ x ∈ ks, x.kind = 0) (hlo : ∀ x ∈ lo, x.kind = 0) (fo : F o = some ob) (D : SAt C.w F s o lo ob es n t)
    (hQ : ∀ out s', out.toList.Perm es.toList → Sim C F Z μ s' → Q out s') : wpAny C.M A (setWalkUnseen o [a] (some a)) Q (fun _ _ => False) s := by
  have walk : ∀ (Q : Array (Int × Value) → Shared → Prop), (C.w.params.followText "set-order" || (t.led && t.plain) || decide (es.size ≤ 1)) = true → (∀ out, out.toList.Perm es.toList → Q out s) → wpAny C.M A (setWalk o) Q (fun _ _ => False) s := fun Q hc hQ => by
    unfold setWalk
    refine wpAny_bind (D.state ?_)
    refine wpAny_bind (wpAny_byText ?_)
    cases hbt : C.w.params.followText "set-order" with
    | true =>
      (first | rw [if_pos (rfl : true = true)] | simp only [if_true])
      exact wpAny_bind (wpAny_askSetting (wpAny_pure (hQ _ (pickOrder_perm _ _))))
    | false =>
      (first | rw [if_neg Bool.false_ne_true] | simp only [Bool.false_eq_true, if_false])
      rw [hbt] at hc
      show wpAny _ _ (if (!t.plain && decide (es.size > 1)) = true then _ else _) _ _ _
      rw [if_neg (by
        simp only [Bool.false_or, Bool.or_eq_true, Bool.and_eq_true, decide_eq_true_eq] at hc
        simp only [Bool.and_eq_true, Bool.not_eq_true', decide_eq_true_eq, not_and]
        intro hp hs
        rcases hc with ⟨_, hc⟩ | hc
        · rw [hp] at hc; cases hc
        · lia)]
      refine wpAny_bind ?_
      show wpAny _ _ (if (!t.led && decide (es.size > 1)) = true then _ else _) _ _ _
      rw [if_neg (by rw [D.ok.led hbt]; simp)]
      exact wpAny_pure (wpAny_pure (hQ _ (.refl _)))
  unfold setWalkUnseen
  refine wpAny_bind (D.state ?_)
  dsimp only
  refine wpAny_bind (wpAny_byText ?_)
  by_cases hc : (C.w.params.followText "set-order" || (t.led && t.plain) || decide (es.size ≤ 1)) = true
  · rw [if_pos hc]
    exact walk _ hc fun out hp => hQ out s hp S
  · rw [if_neg hc]
    refine el52 (Has.set S (x := .l a) hm rfl) fun a' oba esa na ta e Da => ?_
    cases e
    have txts : ∀ {o' : Addr} {l : List Key} {obb : Obj} {es' : Array (Int × Value)} {n' : Nat} {t' : SetTable}, SAt C.w F s o' l obb es' n' t' → (∀ x ∈ l, x.kind = 0) → ∀ e ∈ es'.toList, ∃ x tk, e.2 = Value.str x tk := fun D' hl e he => by
      obtain ⟨⟨x, h1, _⟩, _⟩ := SAt.elems (prog := C.prog) D' hl e he
      obtain ⟨tk, h2⟩ := Value.isStrOf_shape h1
      exact ⟨x, tk, h2⟩
    have quiet : ∀ (Q : Bool → Shared → Prop), Q true s → wpAny C.M A (setsQuiet [o, a]) Q (fun _ _ => False) s := fun Q hq => by
      unfold setsQuiet
      have one : ∀ {o' : Addr} {l : List Key} {obb : Obj} {es' : Array (Int × Value)} {n' : Nat} {t' : SetTable}, SAt C.w F s o' l obb es' n' t' → (∀ x ∈ l, x.kind = 0) → ∀ (f : Int × Value → Option Bool × Unit → Sem (ForInStep (Option Bool × Unit))) (_ : ∀ h x tk r, f (h, .str x tk) r = pure (.yield (none, ()))) (R : Option Bool × Unit → Shared → Prop), R (none, ()) s →
          wpAny C.M A (forIn es' (none, ()) f) R (fun _ _ => False) s := fun D' hl f hf R hR => by
        rw [← Array.forIn_toList]
        refine wpAny_forIn_list _ (fun rest r s' => r = (none, ()) ∧ s' = s ∧ ∀ e ∈ rest, ∃ x tk, e.2 = Value.str x tk) _ ?_ ?_ _ _ ⟨rfl, rfl, txts D' hl⟩
        · rintro ⟨h, y⟩ rest r s' ⟨rfl, rfl, hall⟩
          refine el21 (hall _ (.head _)) fun x tk e => ?_
          have e : y = .str x tk := e
          subst e
          rw [hf]
          exact wpAny_pure ⟨rfl, rfl, fun z hz => hall z (.tail _ hz)⟩
        · rintro r s' ⟨rfl, rfl, _⟩
          exact hR
      simp only [List.forIn_cons, List.forIn_nil]
      refine wpAny_bind (wpAny_bind (wpAny_bind (D.entries (wpAny_bind (one D hlo _ (fun _ _ _ _ => rfl) _ ?_)))))
      refine wpAny_pure ?_
      refine wpAny_bind (wpAny_bind (Da.entries (wpAny_bind (one Da hks _ (fun _ _ _ _ => rfl) _ ?_))))
      exact wpAny_pure (wpAny_pure (wpAny_pure hq))
    refine wpAny_bind (quiet _ ?_)
    (first | rw [if_neg (show ¬ ((!true) = true) from Bool.false_ne_true)] | simp only [Bool.not_true, Bool.false_eq_true, if_false])
    refine wpAny_bind (wpAny_rule ?_)
    refine wpAny_bind (Da.state ?_)
    split
    · refine wpAny_bind (wpAny_storeSet_of Da.ho Da.hd ?_ ?_)
      · refine wpAny_pure (hQ _ _ (.refl _) ?_)
        have hg := Heap.get?_update_self (Obj.putSet esa { ta with led := ta.led && t.led, plain := ta.plain && t.plain }) Da.ho (by rw [putSet_of _ _ Da.hd]; rfl)
        have hg2 := hg
        rw [putSet_of _ _ Da.hd] at hg2
        have S' := S.updM (UpdAt.self hm) (Heap.SameBut.update ..) hg2 ⟨Da.hx, esa, na + 1, _, rfl, Da.hl, Da.he, Da.ok.flags (ta.led && t.led) (ta.plain && t.plain) fun e => by rw [Da.ok.led e, D.ok.led e]; rfl⟩ s.toks
        exact S'
      · rw [Da.size, sizeLine_eq]
        have := Da.ok.small
        have h4 : scanBound = 4096 := rfl
        lia
    · exact wpAny_pure (hQ _ _ (.refl _) S)
theorem addEach {a : Addr} {lo : List Key} {A : Around} {F Z : PMap} {Q : PUnit → Shared → Prop} (hA : A.units < cLine) (f : Int × Value → PUnit → Sem (ForInStep PUnit))
    (hf : ∀ h x u s' (Q' : ForInStep PUnit → Shared → Prop), PIn F s'.heap → wpAny C.M A (setAddHashed a x h) (fun _ s'' => PIn F s''.heap ∧ Q' (.yield ⟨⟩) s'') (fun _ _ => False) s' → wpAny C.M A (f (h, x) u) Q' (fun _ _ => False) s') :
    ∀ (L : List (Int × Value)) (μ : Mem) (ks : List Key) (s : Shared), Sim C F Z μ s → (a, O.set ks) ∈ μ → (∀ x ∈ ks, x.kind = 0) → ks.Nodup → (∀ e ∈ L, ∃ k ∈ lo, k.kind = 0 ∧ e.1 = k.hash C.P ∧ KeyAt F k e.2) → ks.length + L.length < 399 →
      (∀ s' ks' μ', UpdAt a (.set ks) (.set ks') μ μ' → Sim C F Z μ' s' → (∀ x, x ∈ ks' ↔ x ∈ ks ∨ ∃ e ∈ L, x.kind = 0 ∧ e.1 = x.hash C.P ∧ KeyAt F x e.2) → (∀ x ∈ ks', x.kind = 0) → ks'.Nodup → ks'.length ≤ ks.length + L.length → Q ⟨⟩ s') →
      wpAny C.M A (forIn L ⟨⟩ f) Q (fun _ _ => False) s
  | [], μ, ks, s, S, hm, hk, hn, _, _, hQ => by
    rw [List.forIn_nil]
    exact wpAny_pure (hQ s ks μ (UpdAt.self hm) S (fun x => by simp) hk hn (by simp))
  | (h, v) :: L, μ, ks, s, S, hm, hk, hn, hL, hz, hQ => by
    rw [List.forIn_cons]
    simp only [List.length_cons] at hz
    refine el14 (hL _ (.head _)) fun key hin h0 hh hkey => ?_
    have hh : h = key.hash C.P := hh
    subst hh
    refine el52 (Has.set S (x := .l a) hm rfl) fun a' ob es n t e D => ?_
    cases e
    have inj : ∀ x : Key, x.kind = 0 → KeyAt F x v → x = key := fun x hx0 hx => by
      cases x with
      | s y =>
        cases key with
        | s z => obtain ⟨t1, rfl⟩ := hx; obtain ⟨t2, e⟩ := hkey; cases e; rfl
        | _ => cases h0
      | _ => cases hx0
    refine wpAny_bind (hf _ _ _ _ _ S.fz ?_)
    refine add_any hA D hkey (by rw [h0]; decide) (fun x hx => (hk x hx).trans h0.symm) (by lia) (fun hi => ⟨S.fz, ?_⟩) fun hno ks' h' ob' p1 p2 p3 p4 => ?_
    · refine addEach hA f hf L μ ks s S hm hk hn (fun e he => hL e (.tail _ he)) (by lia) fun s' ks'' μ' g1 g2 g3 g4 g5 g6 => hQ s' ks'' μ' g1 g2 (fun x => ?_) g4 g5 (by simp only [List.length_cons]; lia)
      rw [g3 x]
      constructor
      · rintro (q | ⟨e, he, q⟩)
        · exact .inl q
        · exact .inr ⟨e, .tail _ he, q⟩
      · rintro (q | ⟨e, he, q1, q2, q3⟩)
        · exact .inl q
        · rcases List.mem_cons.mp he with q | q
          · subst q; exact .inl (inj x q1 q3 ▸ hi)
          · exact .inr ⟨e, q, q1, q2, q3⟩
    · obtain ⟨μ₁, hU⟩ := UpdAt.exists (.set ks') hm
      have S₁ := S.updM hU p2 p3 p4 s.toks
      have hk' : ∀ x ∈ ks', x.kind = 0 := fun x hx => by
        rcases List.mem_cons.mp (p1.mem_iff.mp hx) with q | q
        · rw [q]; exact h0
        · exact hk x q
      have hl : ks'.length = ks.length + 1 := p1.length_eq
      refine ⟨S₁.fz, addEach hA f hf L μ₁ ks' _ S₁ (hU.mem2) hk' (p1.nodup_iff.mpr (List.nodup_cons.mpr ⟨hno, hn⟩)) (fun e he => hL e (.tail _ he)) (by lia) fun s' ks'' μ' g1 g2 g3 g4 g5 g6 => hQ s' ks'' μ' (hU.trans g1 S.nod.1) g2 (fun x => ?_) g4 g5 (by simp only [List.length_cons]; lia)⟩
      rw [g3 x, p1.mem_iff, List.mem_cons]
      constructor
      · rintro ((q | q) | ⟨e, he, q⟩)
        · subst q; exact .inr ⟨_, .head _, h0, rfl, hkey⟩
        · exact .inl q
        · exact .inr ⟨e, .tail _ he, q⟩
      · rintro (q | ⟨e, he, q1, q2, q3⟩)
        · exact .inl (.inr q)
        · rcases List.mem_cons.mp he with q | q
          · subst q; exact .inl (.inl (inj x q1 q3))
          · exact .inr ⟨e, q, q1, q2, q3⟩
theorem roomFor_at {a : Addr} {ks : List Key} {more : Nat} {A : Around} {F Z : PMap} {s : Shared} {Q : Unit → Shared → Prop} (S : Sim C F Z μ s) (hm : (a, O.set ks) ∈ μ) (hz : ks.length + more < 399) (hmo : 0 < more)
    (hQ : ∀ ks' μ' s' ob es n t, ks'.Perm ks → UpdAt a (.set ks) (.set ks') μ μ' → Sim C F Z μ' s' → SAt C.w F s' a ks' ob es n t → (ks.length + more) * 5 < t.mask * 3 → Q () s') : wpAny C.M A (setRoomFor a more) Q (fun _ _ => False) s := by
  refine el52 (Has.set S (x := .l a) hm rfl) fun a' ob es n t e D => ?_
  cases e
  unfold setRoomFor
  refine wpAny_bind (D.state ?_)
  have hfill : t.fill = ks.length := by
    unfold SetTable.fill; rw [D.ok.tab.dum, D.ok.tab.size, List.length_map]; rfl
  have hsz : t.place.size = ks.length := by rw [D.ok.tab.size, List.length_map]
  show wpAny _ _ (match t.roomFor more with | some wanted => setRelay a wanted | _ => pure ()) _ _ _
  unfold SetTable.roomFor
  rw [hfill, hsz]
  by_cases hc : (ks.length + more) * 5 ≥ t.mask * 3
  · rw [if_pos hc]
    refine (D.raw (by lia)).relay (by lia) (by lia) fun ks' h' ob' p1 p2 p3 p4 p5 => ?_
    obtain ⟨μ', hU⟩ := UpdAt.exists (.set ks') hm
    have S' := S.updM hU p2 p3 p4 s.toks
    refine el52 (Has.set S' (x := .l a) hU.mem2 rfl) fun a' ob2 es2 n2 t2 e2 D2 => ?_
    cases e2
    (refine el32 p5 fun es' n' t' q1 q2 => ?_; try clear p5)
    have : ob2 = ob' := Option.some.inj (D2.ho.symm.trans p3)
    subst this
    have := D2.hd.symm.trans q1
    cases this
    exact hQ ks' μ' _ _ _ _ _ p1 hU S' D2 (by lia)
  · rw [if_neg hc]
    exact wpAny_pure (hQ ks μ s ob es n t (.refl _) (UpdAt.self hm) S D (by lia))
theorem merge_at {a o : Addr} {ks lo : List Key} {each : Sem Unit} {A : Around} {F Z : PMap} {s : Shared} {ob : Obj} {es : Array (Int × Value)} {n : Nat} {t : SetTable} {Q : Unit → Shared → Prop} (hA : A.units < cLine)
    (heach : ∀ (s' : Shared) (Q' : Unit → Shared → Prop), PIn F s'.heap → Q' () s' → wpAny C.M A each Q' (fun _ _ => False) s') (S : Sim C F Z μ s) (hm : (a, O.set ks) ∈ μ) (fo : F o = some ob) (D : ∀ s' : Shared, PIn F s'.heap → SAt C.w F s' o lo ob es n t)
    (hks : ∀ x ∈ ks, x.kind = 0) (hlo : ∀ x ∈ lo, x.kind = 0) (hz : ks.length + lo.length < 390)
    (hQ : ∀ s' ks' μ', UpdAt a (.set ks) (.set ks') μ μ' → Sim C F Z μ' s' → (∀ x, x ∈ ks' ↔ x ∈ ks ∨ x ∈ lo) → (∀ x ∈ ks', x.kind = 0) → ks'.Nodup → ks'.length ≤ ks.length + lo.length → Q () s') : wpAny C.M A (setMerge a o each) Q (fun _ _ => False) s := by
  have hne : (a == o) = false := by
    have : F a = none := (S.own a _ hm).1
    have ne : a ≠ o := fun e => by rw [e, fo] at this; cases this
    simpa using ne
  have D0 := D s S.fz
  have hnd : ks.Nodup := by
    refine el52 (Has.set S (x := .l a) hm rfl) fun a' ob es n t e D => ?_
    exact D.ok.nodup
  have hes : es.size = lo.length := D0.size
  unfold setMerge
  rw [hne]
  (first | rw [if_neg Bool.false_ne_true] | simp only [Bool.false_eq_true, if_false])
  refine wpAny_bind (D0.state ?_)
  dsimp only
  by_cases hemp : es.isEmpty = true
  · rw [if_pos hemp]
    have : lo = [] := by
      have := Array.isEmpty_iff_size_eq_zero.mp hemp
      rw [hes] at this
      exact List.length_eq_zero_iff.mp this
    subst this
    exact wpAny_pure (hQ s ks μ (UpdAt.self hm) S (fun x => by simp) hks hnd (by simp))
  · rw [if_neg hemp]
    have hpos : 0 < lo.length := by
      rw [← hes]
      rcases Nat.eq_zero_or_pos es.size with q | q
      · exact absurd (Array.isEmpty_iff_size_eq_zero.mpr q) hemp
      · exact q
    rw [hes]
    refine wpAny_bind (roomFor_at S hm (by lia) hpos fun ks₁ μ₁ s₁ ob₁ es₁ n₁ t₁ p1 hU₁ S₁ D₁ hroom => ?_)
    refine wpAny_bind (D₁.state ?_)
    dsimp only
    have hlen1 : ks₁.length = ks.length := p1.length_eq
    have hfill : t₁.fill = ks₁.length := by unfold SetTable.fill; rw [D₁.ok.tab.dum, D₁.ok.tab.size, List.length_map]; rfl
    have Do := D s₁ S₁.fz
    unfold SetTable.road
    by_cases hf : (t₁.fill != 0) = true
    · rw [if_pos hf]
      dsimp only
      refine wpAny_bind (walkUnseen S₁ hU₁.mem2 (fun x hx => hks x (p1.mem_iff.mp hx)) hlo fo Do fun out s₂ hperm S₂ => ?_)
      rw [← Array.forIn_toList]
      refine wpAny_bind (wpBot (addEach (lo := lo) (Q := fun _ s' => Q () s') hA _ (fun h x u s' Q' hF hq => ?_) out.toList μ₁ ks₁ s₂ S₂ hU₁.mem2 (fun x hx => hks x (p1.mem_iff.mp hx)) (p1.nodup_iff.mpr hnd) (fun e he => ?_) ?_ fun s' ks' μ' g1 g2 g3 g4 g5 g6 => ?_) fun _ _ q => wpAny_pure q)
      · refine wpAny_bind (wpAny_holding (wpBot hq fun b s'' hq => ?_))
        obtain ⟨hF', q⟩ := hq
        refine wpAny_bind (heach _ _ hF' ?_)
        refine wpAny_bind ((D s'' hF').state ?_)
        dsimp only
        rw [if_neg (by simp)]
        exact wpAny_pure q
      · obtain ⟨i, hi⟩ := List.mem_iff_getElem?.mp (hperm.mem_iff.mp he)
        have hlt : i < lo.length := by rw [← Do.hl]; exact (List.getElem?_eq_some_iff.mp hi).1
        refine el12 (Do.he i _ (List.getElem?_eq_getElem hlt)) fun v' e1 e2 => ?_
        rw [hi] at e1; cases e1
        exact ⟨_, List.getElem_mem hlt, hlo _ (List.getElem_mem hlt), rfl, e2⟩
      · rw [hperm.length_eq, Do.hl, hlen1]; lia
      · refine hQ s' ks' μ' (hU₁.trans g1 S.nod.1) g2 (fun x => ?_) g4 g5 (by rw [hperm.length_eq, Do.hl, hlen1] at g6; exact g6)
        rw [g3 x, p1.mem_iff]
        constructor
        · rintro (q | ⟨e, he, q1, q2, q3⟩)
          · exact .inl q
          · obtain ⟨i, hi⟩ := List.mem_iff_getElem?.mp (hperm.mem_iff.mp he)
            have hlt : i < lo.length := by rw [← Do.hl]; exact (List.getElem?_eq_some_iff.mp hi).1
            refine el12 (Do.he i _ (List.getElem?_eq_getElem hlt)) fun v' e1 e2 => ?_
            rw [hi] at e1; cases e1
            have h0 := hlo _ (List.getElem_mem hlt)
            have hin := List.getElem_mem hlt
            generalize lo[i] = kk at *
            cases x with
            | s y =>
              cases kk with
              | s z => obtain ⟨t1, e3⟩ := q3; obtain ⟨t2, e4⟩ := e2; have e3 : v' = Value.str y t1 := e3; rw [e3] at e4; cases e4; exact .inr hin
              | _ => cases h0
            | _ => cases q1
        · rintro (q | q)
          · exact .inl q
          · obtain ⟨i, hi⟩ := List.mem_iff_getElem?.mp q
            refine el12 (Do.he i x hi) fun v' e1 e2 => ?_
            exact .inr ⟨_, hperm.mem_iff.mpr (List.mem_of_getElem? e1), hlo x q, rfl, e2⟩
    · rw [if_neg hf]
      have hk0 : ks₁ = [] := by
        rw [hfill] at hf
        simp only [bne_iff_ne, ne_eq, Decidable.not_not] at hf
        exact List.length_eq_zero_iff.mp hf
      have hks0 : ks = [] := by
        rw [hk0] at hlen1
        exact List.length_eq_zero_iff.mp hlen1.symm
      subst hk0
      subst hks0
      have store : ∀ (es' : Array (Int × Value)) (t' : SetTable) (lo' : List Key), lo'.Perm lo → es'.size = lo.length → OAt C.P F (.set lo') { ob₁ with data := .set es' (n₁ + 1) t' } → wpAny C.M A (storeSet a es' t') Q (fun _ _ => False) s₁ := fun es' t' lo' hp hsz hO => by
        refine wpAny_storeSet_of D₁.ho D₁.hd ?_ (by rw [hsz, sizeLine_eq]; lia)
        have hg := Heap.get?_update_self (Obj.putSet es' t') D₁.ho (by rw [putSet_of _ _ D₁.hd]; rfl)
        rw [putSet_of _ _ D₁.hd] at hg
        obtain ⟨μ₂, hU₂⟩ := UpdAt.exists (.set lo') hU₁.mem2
        have S₂ := S₁.updM hU₂ (Heap.SameBut.update ..) hg hO s₁.toks
        refine hQ _ lo' μ₂ (hU₁.trans hU₂ S.nod.1) S₂ (fun x => by rw [hp.mem_iff]; simp) (fun x hx => hlo x (hp.mem_iff.mp hx)) (hp.nodup_iff.mpr Do.ok.nodup) (by rw [hp.length_eq]; simp)
      by_cases hc : (t₁.mask == t.mask && t.dummies.isEmpty) = true
      · rw [if_pos hc]
        dsimp only
        refine store es _ lo (.refl _) hes ⟨D₁.hx, _, _, _, rfl, Do.hl, Do.he, Do.ok.same rfl rfl rfl fun e => ?_⟩
        show (t₁.led && t.led) = true
        rw [D₁.ok.led e, Do.ok.led e]; rfl
      · rw [if_neg hc]
        dsimp only
        refine el37 ((Do.raw (by simp only [List.length_nil] at hz; lia)).laid (mask := t₁.mask) D₁.ok.tab.mask D₁.ok.tab.cap (by simpa using hroom) t₁.finger t₁.moves (t₁.led && t.led) (t₁.plain && t.plain)
          (fun e => by rw [D₁.ok.led e, Do.ok.led e]; rfl) (n₁ + 1) ob₁ D₁.hx) fun t' order lo' g0 g1 g2 g3 _ _ g4 => ?_
        refine wpAny_bind ?_
        show wpAny _ _ (match SetTable.laid t₁.mask t₁.finger t₁.moves (t₁.led && t.led) (t₁.plain && t.plain) (es.map (·.1)) with | some (t, order) => _ | _ => _) _ _ _
        rw [g1]
        dsimp only
        rw [if_neg (by rw [g2]; simp)]
        refine wpAny_pure ?_
        exact store _ t' lo' g3 (by rw [g2, hes]) g4
end
end
section
open PySem PySem.Calls
theorem nameOf_set {M : Model} {A : Around} {E : Value → Shared → Prop} {s : Shared} {v : Value} {Q : String → Shared → Prop} (hT : s.TypeIs v "set") (h : Q "set" s) : wpAny M A (typeNameOfCut 200 v) Q E s := by
  unfold typeNameOfCut shownTypeOf
  refine wpAny_bind (wpAny_bind (wpAny_typeOf hT ?_))
  simp only [show (Value.type "set" == Value.type "builtin_function_or_method") = false by decide, Bool.false_eq_true, if_false]
  refine wpAny_pure ?_
  have e : typeNameCut 200 (.type "set") = pure "set" := by
    unfold typeNameCut
    first
      | (have e : typeName (.type "set") = pure "set" := by unfold typeName; rw [find?_eq_fast]; kernel_rfl
         simp only [e]; rfl)
      | kernel_rfl
  rw [e]; exact wpAny_pure h
section
variable {C : Cx} {d : Nat} {sc : Scope} {ε : Env1} {μ μ' : Mem} {k k' : PostW} {kb : Bool → Mem → Prop} {kl : List W → Mem → Prop} {kf kf' : PostF}
theorem init_set {A : Around} {F Z : PMap} {s : Shared} {a : Addr} {rest : List Value} {Q : PySem.Fin → Shared → Prop} (S : Sim C F Z μ s) (hm : (a, O.set []) ∈ μ) (hl : rest.length ≤ 1)
    (h : wpAny C.M A (match rest with | [x] => Builtin.Frozenset.updateFrom "set.__init__" a x | _ => pure ()) (fun _ s' => Q (.done (.ret .none)) s') (fun _ _ => False) s) : wpAny C.M A (Builtin.«set.__init__» ⟨.ref a :: rest, []⟩) Q (fun _ _ => False) s := by
  refine el52 (Has.set S (x := .l a) hm rfl) fun a' ob es n t e D => ?_
  cases e
  unfold Builtin.«set.__init__»
  refine wpAny_bind (m := noKeywords "set" _) (wpAny_pure ?_)
  dsimp only
  refine wpAny_bind (nameOf_set D.typeIs ?_)
  refine wpAny_bind (m := checkCount "set" 0 1 _) ?_
  have hcc : checkCount "set" 0 1 rest.length = pure () := by
    have : rest.length = 0 ∨ rest.length = 1 := by lia
    rcases this with q | q <;> rw [q] <;> rfl
  rw [hcc]
  refine wpAny_pure ?_
  refine wpAny_bind (m := Builtin.Frozenset.addrOf _) (wpAny_pure ?_)
  refine wpAny_bind ?_
  unfold setUsed
  refine wpAny_bind (D.state (wpAny_pure ?_))
  have hfill : t.fill = 0 := by unfold SetTable.fill; rw [D.ok.tab.dum, D.ok.tab.size]; rfl
  show wpAny _ _ (if (t.fill != 0) = true then _ else _) _ _ _
  rw [hfill, if_neg (by decide)]
  cases rest with
  | nil => exact h
  | cons x r =>
    obtain rfl : r = [] := List.eq_nil_of_length_eq_zero (by simpa using hl)
    exact wpAny_bind (wpBot h fun _ s' q => wpAny_pure q)
theorem c_set0 (h : ∀ a, k (.l a) ((a, .set []) :: μ)) : cCall C d μ (.type "set") [] [] k := fun A F Z s vs kws hA S hv hkw => by
  refine KwAt.i_nil hkw ?_; refine WsAt.i_nil hv ?_
  refine callSet PySem.F.typeCall_set_0 PySem.F.newCall_set_0 (fun s' self Q' hT hq => check_set_init hT hq) ?_
  exact init_set S.pushSet (.head _) (by simp) (wpAny_pure ⟨rfl, _, F, _, h _, .refl _, S.pushSet, rfl⟩)
theorem notSet_list {prog : Program} {w : World} {A : Around} {E : Value → Shared → Prop} {s : Shared} {v : Value} {Q : Bool → Shared → Prop} (hT : s.TypeIs v "list") (h : Q false s) : wpAny (model prog w) A (Builtin.Frozenset.isAnySet v) Q E s := by
  unfold Builtin.Frozenset.isAnySet
  refine wpAny_bind (wpAny_isInstance hT sub_list_set ?_)
  exact wpAny_isInstance hT sub_list_frozenset h
theorem update_loop {A : Around} {Z F₂ : PMap} {it a : Addr} {items : List V} {J : Nat → Obj → Prop} {L : List Key} {κ : Nat} (hA : Rm A d) (hit : Iter C F₂ it items J) (hz : Z it = none) (hL : items = L.map Key.val) (hk : ∀ x ∈ L, x.kind = κ) (h2 : κ ≠ 2)
    {R : Result → Shared → Prop} : ∀ (m i : Nat) (μ : Mem) (ks : List Key) (o : Obj) (s : Shared), L.length - i = m → i ≤ L.length → Sim C F₂ (PSet Z it o) μ s → J i o → (a, O.set ks) ∈ μ → (∀ x ∈ ks, x.kind = κ) → ks.Nodup → ks.length + (L.length - i) < 399 →
      (∀ s' ks' μ', UpdAt a (.set ks) (.set ks') μ μ' → Sim C F₂ Z μ' s' → (∀ x, x ∈ ks' ↔ x ∈ ks ∨ x ∈ L.drop i) → ks'.Nodup → ks'.length ≤ ks.length + (L.length - i) → R (.ok (.ret .none)) s') →
      codeAny C.M A (.builtin "set.update.loop" ⟨[.ref a, .ref it], []⟩) R s := less fun m ih i μ ks o s hmi hi S hJ hm hks hn hlen hR => by
    refine codeAny_builtin entry_update_loop ?_
    rw [Around.under_plainId plain_update_loop _]
    show wpAny _ A.in1 (pyNext (.ref it) >>= _) _ _ s
    refine wpAny_bind ?_
    have hto : s.heap.get? it = some o := S.zz _ _ (PSet.self ..)
    have hh : A.in1.handled = none := hA.hd
    rcases Nat.lt_or_ge i L.length with hlt | hge
    · have hx : items[i]? = some (L[i]).val := by rw [hL, List.getElem?_map, List.getElem?_eq_getElem hlt]; rfl
      refine hit.item i _ A.in1 s _ _ o hh S.fz hto hJ hx fun v h' o' tk hv hsb ho' hJ' => ?_
      have S' : Sim C F₂ (PSet Z it o') μ { s with heap := h', toks := tk } := by
        have := S.setZ (a := it) (PSet.self ..) hsb ho' tk
        rw [PSet.twice] at this; exact this
      refine wpAny_bind (wpAny_holding ?_)
      have hu : A.in1.units < cLine := by have := hA.un; show A.units + 1 < cLine; lia
      have hkk := hk _ (List.getElem_mem hlt)
      refine wpAny_mono (setAdd_sim (Q := fun _ s'' => ∃ ks' μ'', UpdAt a (.set ks) (.set ks') μ μ'' ∧ Sim C F₂ (PSet Z it o') μ'' s'' ∧ (∀ x, x ∈ ks' ↔ x ∈ ks ∨ x = L[i]) ∧ ks'.Nodup ∧ ks'.length ≤ ks.length + 1) hu S' hm (Val.key hv) (fun x hx => (hks x hx).trans hkk.symm) (by rw [hkk]; exact h2) (by lia)
        (fun hin t => ⟨ks, μ, UpdAt.self hm, S'.tok t, fun x => ⟨.inl, fun q => q.elim id fun e => e ▸ hin⟩, hn, by lia⟩)
        fun hno ks' μ'' s'' p1 p2 p3 => ⟨ks', μ'', p2, p3, fun x => by rw [p1.mem_iff, List.mem_cons]; exact Or.comm, p1.nodup_iff.mpr (List.nodup_cons.mpr ⟨hno, hn⟩), by rw [p1.length_eq]; simp⟩) (fun b s'' hq => ?_) fun _ _ f => f.elim
      (refine el25 hq fun ks' μ'' q1 q2 q3 q4 q5 => ?_; try clear hq)
      refine wpAny_pure ⟨plainId_quiet plain_update_loop _, ih (L.length - (i + 1)) (by lia) (i + 1) μ'' ks' o' s'' rfl (by lia) q2 hJ' q1.mem2 (fun x hx => ?_) q4 (by lia) fun s3 ks3 μ3 r1 r2 r3 r4 r5 => hR s3 ks3 μ3 (q1.trans r1 S.nod.1) r2 (fun x => ?_) r4 (by lia)⟩
      · rcases (q3 x).mp hx with q | q
        · exact hks x q
        · rw [q]; exact hkk
      · rw [r3 x, q3 x, List.drop_eq_getElem_cons hlt, List.mem_cons]
        constructor
        · rintro ((q | q) | q)
          · exact .inl q
          · exact .inr (.inl q)
          · exact .inr (.inr q)
        · rintro (q | q | q)
          · exact .inl (.inl q)
          · exact .inl (.inr q)
          · exact .inr q
    · have hx : items[i]? = none := by rw [hL, List.getElem?_eq_none_iff, List.length_map]; exact hge
      refine hit.done i A.in1 s _ _ o hh S.fz hto hJ hx fun h' tk hk' => ?_
      refine wpAny_pure (hR _ ks μ (UpdAt.self hm) (S.but ⟨o, PSet.self ..⟩ (fun b ob e => ?_) hz hk' tk) (fun x => ?_) hn (by lia))
      · have ne : b ≠ it := fun q => by rw [q, hz] at e; cases e
        rw [PSet.ne _ _ ne]; exact e
      · rw [List.drop_of_length_le hge]; simp
theorem Rm.in1 {A : Around} {d : Nat} (h : Rm A (d + 1)) : Rm A.in1 d := ⟨h.hd, by have := h.dp; show A.depth + 2 * d + 2 < 700; lia, by have := h.un; show A.units + 1 + 16 * d + 16 < cLine; lia⟩
theorem c_setList {vs : List V} {L : List Key} {κ : Nat} (hL : vs = L.map Key.val) (hk : ∀ x ∈ L, x.kind = κ) (h2 : κ ≠ 2) (hz : L.length < 300) (h : ∀ a ks, ks.Nodup → (∀ x, x ∈ ks ↔ x ∈ L) → k (.l a) ((a, .set ks) :: μ)) : cCall C (d + 2) μ (.type "set") [.v (.list vs)] [] k := fun A F Z s us kws hA S hv hkw => by
  refine KwAt.i_nil hkw ?_
  refine WsAt.i1 hv fun u hu => ?_
  have hT : ∀ s' : Shared, PIn F s'.heap → s'.TypeIs u "list" := fun s' hF => by cases hu with | list h1 h4 => exact ⟨_, hF _ _ h1, rfl⟩
  refine callSet (typeCall_set_1 _) (newCall_set_1 _) (fun s' self Q' hT hq => check_init1 hT hq) ?_
  have S₁ := S.pushSet
  refine init_set S₁ (.head _) (by simp) ?_
  show wpAny _ _ (Builtin.Frozenset.updateFrom "set.__init__" s.heap.objs.size u) _ _ _
  unfold Builtin.Frozenset.updateFrom
  refine wpAny_bind (notSet_list (hT _ S₁.fz) ?_)
  (first | rw [if_neg Bool.false_ne_true] | simp only [Bool.false_eq_true, if_false])
  refine wpAny_bind (wpAny_typeOf (hT _ S₁.fz) ?_)
  rw [if_neg (by decide)]
  refine wpAny_bind ?_
  refine wpBot (it_list (C := C) (d := d) (μ := (s.heap.objs.size, O.set []) :: μ) (vs := vs) A.in1.in1 F Z _ u hA.in1.in1 S₁ hu) fun itv s₂ hq => ?_
  obtain ⟨it, items, J, F₂, o, e, hP, le₂, S₂, hz', hJ, hit⟩ := hq
  subst e
  have hP : items = L.map Key.val := hP.trans hL
  refine wpAny_bind (wpAny_runValue ?_)
  refine update_loop (d := d) hA.in1.in1 hit hz' hP hk h2 L.length 0 _ [] o s₂ (by lia) (by lia) S₂ hJ (.head _) (fun _ h => by cases h) List.nodup_nil (by simp; lia) fun s' ks' μ' q1 q2 q3 q4 q5 => ?_
  refine wpAny_pure ⟨rfl, .l s.heap.objs.size, F₂, μ', ?_, le₂, q2, rfl⟩
  have e : μ' = (s.heap.objs.size, .set ks') :: μ := by
    cases q1 with
    | here => rfl
    | there q => exact absurd (List.mem_map_of_mem (f := (·.1)) q.mem) (fun hm => by
        have := (S₁.nod).1
        simp only [List.map_cons, List.nodup_cons] at this
        exact this.1 hm)
  rw [e]
  exact h _ ks' q4 fun x => by rw [q3 x]; simp
theorem UpdAt.head {a : Addr} {x y : O} {μ μ' : Mem} (h : UpdAt a x y ((a, x) :: μ) μ') (hn : (((a, x) :: μ).map (·.1)).Nodup) : μ' = (a, y) :: μ := by
  cases h with
  | here => rfl
  | there q =>
    simp only [List.map_cons, List.nodup_cons] at hn
    exact absurd (List.mem_map_of_mem (f := (·.1)) q.mem) hn.1
theorem unchanged_at {prog : Program} {w : World} {A : Around} {E : Value → Shared → Prop} {s : Shared} {F : PMap} {ks : List Key} {o : Addr} {ob : Obj} {es : Array (Int × Value)} {n : Nat} {t : SetTable} {id : String} {Q : Unit → Shared → Prop} (D : SAt w F s o ks ob es n t) (h : Q () s) : wpAny (model prog w) A (Builtin.Frozenset.unchanged id o n) Q E s := by
  unfold Builtin.Frozenset.unchanged
  refine wpAny_bind (D.epoch ?_)
  rw [if_neg (by simp)]
  exact wpAny_pure h
theorem updFrom_set {a : Addr} {ks lo : List Key} {id : String} {v : Value} {A : Around} {F Z : PMap} {s : Shared} {Q : Unit → Shared → Prop} (hA : A.units < cLine) (S : Sim C F Z μ s) (hm : (a, O.set ks) ∈ μ) (hv : Val C.P F (.set lo) v) (hks : ∀ x ∈ ks, x.kind = 0) (hlo : ∀ x ∈ lo, x.kind = 0) (hz : ks.length + lo.length < 390)
    (hQ : ∀ s' ks' μ', UpdAt a (.set ks) (.set ks') μ μ' → Sim C F Z μ' s' → (∀ x, x ∈ ks' ↔ x ∈ ks ∨ x ∈ lo) → (∀ x ∈ ks', x.kind = 0) → ks'.Nodup → ks'.length ≤ ks.length + lo.length → Q () s') : wpAny C.M A (Builtin.Frozenset.updateFrom id a v) Q (fun _ _ => False) s := by
  (refine el53 (hv.setAt) fun o ob es n t qq5 fo D => ?_; subst qq5)
  unfold Builtin.Frozenset.updateFrom
  refine wpAny_bind (isAny_set (D s S.fz).typeIs ?_)
  (first | rw [if_pos (rfl : true = true)] | simp only [if_true])
  refine wpAny_bind (m := Builtin.Frozenset.addrOf _) (wpAny_pure ?_)
  unfold Builtin.Frozenset.merge
  refine wpAny_bind ((D s S.fz).epoch ?_)
  exact merge_at hA (fun s' Q' hF hq => unchanged_at (D s' hF) hq) S hm fo D hks hlo hz hQ
theorem c_setSet {lo : List Key} (hlo : ∀ x ∈ lo, x.kind = 0) (hz : lo.length < 390) (h : ∀ a ks, ks.Nodup → (∀ x, x ∈ ks ↔ x ∈ lo) → k (.l a) ((a, .set ks) :: μ)) : cCall C d μ (.type "set") [.v (.set lo)] [] k := fun A F Z s us kws hA S hv hkw => by
  refine KwAt.i_nil hkw ?_
  refine WsAt.i1 hv fun u hu => ?_
  (refine el53 (Val.setAt hu) fun o ob es n t qq5 fo D => ?_; subst qq5)
  refine callSet (typeCall_set_1 _) (newCall_set_1 _) (fun s' self Q' hT hq => check_init1 hT hq) ?_
  have S₁ := S.pushSet
  refine init_set S₁ (.head _) (by simp) ?_
  refine updFrom_set (by have := hA.un; show A.units + 1 + 1 < cLine; lia) S₁ (.head _) hu (fun _ h => by cases h) hlo (by simpa using hz) fun s' ks' μ' q1 q2 q3 q4 q5 q6 => ⟨rfl, .l _, F, μ', ?_, .refl _, q2, rfl⟩
  rw [q1.head S₁.nod.1]
  exact h _ ks' q5 fun x => by rw [q3 x]; simp
theorem c_update {a : Addr} {ks lo : List Key} (hm : (a, O.set ks) ∈ μ) (hks : ∀ x ∈ ks, x.kind = 0) (hlo : ∀ x ∈ lo, x.kind = 0) (hz : ks.length + lo.length < 390)
    (h : ∀ ks' μ', UpdAt a (.set ks) (.set ks') μ μ' → (∀ x, x ∈ ks' ↔ x ∈ ks ∨ x ∈ lo) → ks'.Nodup → k (.v .none) μ') : cCall C d μ (.builtin "set.update") [.l a, .v (.set lo)] [] k := fun A F Z s us kws hA S hv hkw => by
  refine KwAt.i_nil hkw ?_
  refine WsAt.i2 hv fun v1 v2 h1 h2 => ?_
  refine WAt.i_l h1 ?_
  refine el52 (Has.set S (x := .l a) hm rfl) fun a' ob es n t e D => ?_
  cases e
  refine wpAny_call_entry PySem.F.slot_set_update D.typeIs PySem.F.entry_set_update ?_ (PySem.F.args_set_update_2 _ _)
  unfold Builtin.«set.update» Builtin.Frozenset.manyOthers
  refine wpAny_bind ?_
  show wpAny _ _ (Builtin.Frozenset.addrOf (.ref a) >>= _) _ _ s
  refine wpAny_bind (m := Builtin.Frozenset.addrOf _) (wpAny_pure (wpAny_pure ?_))
  dsimp only
  simp only [List.forIn_cons, List.forIn_nil]
  refine wpAny_bind (wpAny_bind ?_)
  refine wpAny_bind (updFrom_set (by have := hA.un; show A.units + 1 < cLine; lia) S hm h2 hks hlo hz fun s' ks' μ' q1 q2 q3 q4 q5 q6 => ?_)
  exact wpAny_pure (wpAny_pure (wpAny_pure ⟨_, rfl, .v .none, F, μ', h ks' μ' q1 q3 q5, .refl _, q2, .none⟩))
theorem v_or {ks lo : List Key} (hks : ∀ x ∈ ks, x.kind = 0) (hlo : ∀ x ∈ lo, x.kind = 0) (hz : ks.length + lo.length < 390) (h : ∀ a ks', ks'.Nodup → (∀ x, x ∈ ks' ↔ x ∈ ks ∨ x ∈ lo) → k (.l a) ((a, .set ks') :: μ)) :
    cV2 C d μ (.v (.set ks)) (.v (.set lo)) (binaryOp .BitOr) k := fun A F Z s u v hA S hu hv => by
  (refine el53 (Val.setAt hu) fun o₁ ob₁ es₁ n₁ t₁ qq5 fo₁ D₁ => ?_; subst qq5)
  (refine el53 (Val.setAt hv) fun o₂ ob₂ es₂ n₂ t₂ qq5 fo₂ D₂ => ?_; subst qq5)
  have hu' : A.in1.units < cLine := by have := hA.un; show A.units + 1 < cLine; lia
  refine wpAny_binaryOp_same (op := .BitOr) (D₁ s S.fz).typeIs (D₂ s S.fz).typeIs PySem.F.fills_set_or PySem.F.slot_set_or ?_
  refine wpAny_call_entry PySem.F.slot_set_or (D₁ s S.fz).typeIs entry_set_or ?_ (PySem.F.args_set_or_2 _ _)
  unfold Builtin.«frozenset.__or__»
  show wpAny _ _ (Builtin.Frozenset.slot1 "__or__" ⟨[.ref o₁, .ref o₂], []⟩ >>= _) _ _ s
  refine wpAny_bind ?_
  unfold Builtin.Frozenset.slot1
  refine wpAny_bind (m := slotArgs "__or__" 1 _) (wpAny_pure ?_)
  refine wpAny_pure ?_
  show wpAny _ _ ((Builtin.Frozenset.isAnySet (.ref o₁) <&&> Builtin.Frozenset.isAnySet (.ref o₂)) >>= _) _ _ s
  refine wpAny_bind ?_
  show wpAny _ _ (Builtin.Frozenset.isAnySet (.ref o₁) >>= _) _ _ s
  refine wpAny_bind (isAny_set (D₁ s S.fz).typeIs ?_)
  refine isAny_set (D₂ s S.fz).typeIs ?_
  (first | rw [if_neg (show ¬ ((!true) = true) from Bool.false_ne_true)] | simp only [Bool.not_true, Bool.false_eq_true, if_false])
  refine wpAny_bind (m := Builtin.Frozenset.addrOf _) (wpAny_pure ?_)
  refine wpAny_bind ?_
  have copy : ∀ (Q : Value → Shared → Prop), (∀ ks' s', Sim C F Z ((s.heap.objs.size, .set ks') :: μ) s' → (∀ x, x ∈ ks' ↔ x ∈ ks) → (∀ x ∈ ks', x.kind = 0) → ks'.Nodup → ks'.length ≤ ks.length → Q (.ref s.heap.objs.size) s') → wpAny C.M A.in1 (Builtin.Frozenset.copyOf o₁) Q (fun _ _ => False) s := fun Q hq => by
    unfold Builtin.Frozenset.copyOf
    refine wpAny_bind ?_
    unfold Builtin.Frozenset.baseOf
    refine wpAny_bind (wpAny_isInstance (D₁ s S.fz).typeIs sub_set_self (wpAny_pure ?_))
    rw [if_pos rfl]
    refine wpAny_bind (newSet_at ?_)
    have S₁ := S.pushSet
    refine wpAny_bind (m := Builtin.Frozenset.addrOf _) (wpAny_pure ?_)
    refine wpAny_bind (merge_at hu' (fun s' Q' hF hq => wpAny_pure hq) S₁ (.head _) fo₁ D₁ (fun _ h => by cases h) hks (by simp only [List.length_nil]; lia) fun s' ks' μ' q1 q2 q3 q4 q5 q6 => ?_)
    rw [q1.head S₁.nod.1] at q2
    exact wpAny_pure (hq ks' s' q2 (fun x => by rw [q3 x]; simp) q4 q5 (by simpa using q6))
  show wpAny _ _ (Builtin.Frozenset.copyOf o₁ >>= _) _ _ s
  refine wpAny_bind (copy _ fun ks₁ s₁ S₁ c1 c2 c3 c4 => ?_)
  by_cases hne : ((Value.ref o₂) != .ref o₁) = true
  · rw [if_pos hne]
    refine wpAny_bind (m := Builtin.Frozenset.addrOf _) (wpAny_pure ?_)
    refine wpAny_bind (wpAny_holding ?_)
    refine (updFrom_set hu' S₁ (.head _) hv c2 hlo (by lia) fun s' ks' μ' q1 q2 q3 q4 q5 q6 => ?_)
    refine wpAny_pure (wpAny_pure ⟨_, rfl, by simp, .l _, F, μ', ?_, .refl _, q2, rfl⟩)
    rw [q1.head S₁.nod.1]
    exact h _ ks' q5 fun x => by rw [q3 x, c1 x]
  · rw [if_neg hne]
    have heq : o₂ = o₁ := by simpa using hne
    subst heq
    have hsame : ∀ x, x ∈ lo ↔ x ∈ ks := fun x => by
      have e1 := D₁ s S.fz
      have e2 := D₂ s S.fz
      have ho : ob₁ = ob₂ := Option.some.inj (fo₁.symm.trans fo₂)
      subst ho
      have hd := e1.hd.symm.trans e2.hd
      cases hd
      have half : ∀ {l r : List Key}, SAt C.w F s o₂ l ob₁ es₁ n₁ t₁ → SAt C.w F s o₂ r ob₁ es₁ n₁ t₁ → (∀ x ∈ l, x.kind = 0) → (∀ x ∈ r, x.kind = 0) → x ∈ l → x ∈ r := fun {l r} d1 d2 hl0 hr0 hx => by
        obtain ⟨i, hi⟩ := List.mem_iff_getElem?.mp hx
        refine el12 (d1.he i x hi) fun v1 g1 g2 => ?_
        have hlt : i < r.length := by rw [← d2.hl]; exact (List.getElem?_eq_some_iff.mp g1).1
        refine el12 (d2.he i _ (List.getElem?_eq_getElem hlt)) fun v2 g3 g4 => ?_
        rw [g1] at g3
        have hv12 : v1 = v2 := (Prod.mk.inj (Option.some.inj g3)).2
        subst hv12
        have hx0 := hl0 x hx
        have hr := hr0 _ (List.getElem_mem hlt)
        have hin := List.getElem_mem hlt
        generalize r[i] = kk at *
        cases x with
        | s y =>
          cases kk with
          | s z => obtain ⟨t1, e3⟩ := g2; obtain ⟨t2, e4⟩ := g4; rw [e3] at e4; cases e4; exact hin
          | _ => cases hr
        | _ => cases hx0
      exact ⟨half e2 e1 hlo hks, half e1 e2 hks hlo⟩
    refine wpAny_pure (wpAny_pure ⟨_, rfl, by simp, .l _, F, _, h _ ks₁ c3 fun x => ?_, .refl _, S₁, rfl⟩)
    rw [c1 x, hsame x]; simp
end
end
section
open PySem PySem.Calls
section
variable {C : Cx} {d : Nat} {sc : Scope} {ε : Env1} {μ μ' : Mem} {k k' : PostW} {kb : Bool → Mem → Prop} {kl : List W → Mem → Prop} {kf kf' : PostF}
theorem it_set {ks : List Key} : cIter C d μ (.v (.set ks)) (fun items => ∃ L : List Key, items = L.map Key.val ∧ L.Perm ks) := fun A F Z s v hA S hv => by
  (refine el53 (Val.setAt hv) fun o₁ ob₁ es n t qq5 fo D => ?_; subst qq5)
  have hnot : s.heap.objs.size ≠ o₁ := fun e => absurd (Heap.lt_size (S.fz _ _ fo)) (by rw [← e]; exact Nat.lt_irrefl _)
  refine iterS hnot (D s S.fz) fun ord dr o F' h' hperm le hF' hJ hfr => ?_
  have Sd : Sim C F Z μ { s with drawn := dr } := ⟨S.base, S.fz, S.zz, S.dis, S.own, S.nod, S.os, S.gens⟩
  have S' : Sim C F' Z μ { s with heap := h', drawn := dr } := by
    rcases hF' with ⟨rfl, rfl⟩ | ⟨ot, hot, rfl, rfl⟩
    · exact Sd
    · refine el03 (fresh_none S) fun nF nZ nM => ?_
      refine ⟨fun a o e => PSet.le nF a o (S.base a o e), fun a o e => ?_, fun a o e => Heap.get?_push_of_some _ (S.zz a o e), fun a o e => ?_, fun a x hm => ?_, S.nod, S.os, S.gens⟩
      · by_cases q : a = s.heap.objs.size
        · subst q; rw [PSet.self] at e; cases e; exact Heap.get?_push_size _ hot
        · rw [PSet.ne _ _ q] at e; exact Heap.get?_push_of_some _ (S.fz a o e)
      · have q : a ≠ s.heap.objs.size := fun q => by rw [q, nZ] at e; cases e
        rw [PSet.ne _ _ q]; exact S.dis a o e
      · obtain ⟨h1, h2, ob, h3, h4⟩ := S.own a x hm
        have q : a ≠ s.heap.objs.size := Nat.ne_of_lt (Heap.lt_size h3)
        exact ⟨by rw [PSet.ne _ _ q]; exact h1, h2, ob, Heap.get?_push_of_some _ h3, h4.mono (PSet.le nF)⟩
  have hlt : ∀ x ∈ ord, x < ks.length := fun x hx => by
    have := hperm.mem_iff.mp hx
    rw [List.mem_range, (D s S.fz).size] at this; exact this
  have hfm : (ord.filterMap (ks[·]?)).Perm ks := fm_perm _ (by rw [← (D s S.fz).size]; exact hperm)
  have D' : ∀ s' : Shared, PIn F' s'.heap → SAt C.w F s' o₁ ks ob₁ es n t := fun s' hF => D s' fun a o e => hF a o (le a o e)
  have up : ∀ {s' : Shared}, PIn F' s'.heap → SAt C.w F' s' o₁ ks ob₁ es n t := fun hF =>
    have d := D' _ hF
    ⟨hF, d.ho, d.hx, d.hd, d.hl, fun i k e => let ⟨v, x, y⟩ := d.he i k e; ⟨v, x, y.mono le⟩, d.ok⟩
  refine ⟨h'.objs.size, (ord.filterMap (ks[·]?)).map Key.val, fun i o => SIter C.w o₁ F' es n t ord i o, F', o, rfl, ⟨_, rfl, hfm⟩, le, S'.pushZ hfr, (fresh_none S').2.1, hJ, ?_⟩
  refine ⟨fun i o J => ?_, fun i x A s' Q E o hh hF ho J hx hQ => ?_, fun i A s' Q E o hh hF ho J hx hQ => ?_, fun i A s' Q E o ho J h => ?_⟩
  · refine el12 (SIter.fields J) fun y hd _ => ?_
    exact ⟨_, _, J.cls, hd, by decide⟩
  · rw [List.getElem?_map, fm_get hlt] at hx
    cases q : ord[i]? with
    | none => rw [q] at hx; cases hx
    | some x₀ =>
      rw [q] at hx
      have hx₀ := hlt x₀ (List.mem_of_getElem? q)
      have hkk : ks[x₀]? = some ks[x₀] := List.getElem?_eq_getElem hx₀
      simp only [Option.bind_some, hkk, Option.map_some, Option.some.injEq] at hx
      subst hx
      refine el12 ((up hF).he x₀ _ hkk) fun v' g1 g2 => ?_
      refine nextS_item (up hF) ho J q (e := (_, v')) (by rw [← Array.getElem?_toList]; exact g1) fun h'' o' ho' J' hs => ?_
      exact hQ v' h'' o' s'.toks g2.val hs ho' J'
  · have hx' : ord[i]? = none := by
      rw [List.getElem?_map, fm_get hlt] at hx
      cases q : ord[i]? with
      | none => rfl
      | some x₀ =>
        rw [q] at hx
        have hx₀ := hlt x₀ (List.mem_of_getElem? q)
        rw [Option.bind_some, List.getElem?_eq_getElem hx₀] at hx
        cases hx
    exact nextS_end hh (up hF) ho J hx' fun h'' hs => hQ h'' s'.toks hs
  · refine wpAny_pyIter_slot (si_type ho J.cls) slot_si_iter (wpAny_call_entry slot_si_iter (si_type ho J.cls) entry_si_iter ?_ (args_si_iter _))
    show wpAny _ _ (ret (.ref _)) _ _ s'
    exact wpAny_pure ⟨_, rfl, "set_iterator", _, si_type ho J.cls, slot_si_next.lookup, h⟩
theorem inMain_at {A : Around} {env : Env} {F Z : PMap} {s : Shared} {Q : Bool → Shared → Prop} (hg : C.gen = false) (R : EnvRel C F Z env ε) (S : Sim C F Z μ s) (h : ∀ b, Q b s) : wpAny C.M A (inMainModule env) Q (fun _ _ => False) s := by
  obtain ⟨⟨q, c, o, vs, t, e, g, hd, _⟩, _⟩ := R.blt.2 hg
  unfold inMainModule
  rw [e, if_neg (show ¬ ((Value.ref c == Value.none) = true) from Bool.false_ne_true)]
  refine wpAny_bind (wpAny_fieldsOf (S.keep _ _ g) hd ?_)
  split
  · exact wpAny_bind (wpAny_askSetting (wpAny_pure (h _)))
  · exact wpAny_pure (h _)
theorem Sim.takeZ {F Z : PMap} {s : Shared} {a : Addr} {o : Obj} {x : O} (S : Sim C F (PSet Z a o) μ s) (hz : Z a = none) (hx : OAt C.P F x o) (hg : mainGlobals < a) : Sim C F Z ((a, x) :: μ) s := by
  have le : PLe Z (PSet Z a o) := fun b ob e => by
    have ne : b ≠ a := fun q => by rw [q, hz] at e; cases e
    rw [PSet.ne _ _ ne]; exact e
  have na : ∀ y, (a, y) ∉ μ := fun y hm => by have := (S.own a y hm).2.1; rw [PSet.self] at this; cases this
  refine ⟨S.base, S.fz, fun b ob e => S.zz b ob (le b ob e), fun b ob e => S.dis b ob (le b ob e), fun b y hm => ?_, ⟨List.nodup_cons.mpr ⟨fun hm => ?_, S.nod.1⟩, fun b hb => ?_⟩, S.os, S.gens⟩
  · rcases List.mem_cons.mp hm with q | q
    · cases q
      exact ⟨S.dis _ o (PSet.self ..), hz, o, S.zz _ _ (PSet.self ..), hx⟩
    · refine el03 (S.own b y q) fun h1 h2 h3 => ?_
      have ne : b ≠ a := fun e => by rw [e, PSet.self] at h2; cases h2
      rw [PSet.ne _ _ ne] at h2
      exact ⟨h1, h2, h3⟩
  · (refine el12 (List.mem_map.mp hm) fun qq0 hp e => ?_; rcases qq0 with ⟨b, y⟩)
    have e : b = a := e
    subst e
    exact na y hp
  · rcases List.mem_cons.mp hb with q | q
    · rw [q]; exact hg
    · exact S.nod.2 b q
theorem Sim.above {F Z : PMap} {s : Shared} (S : Sim C F Z μ s) : mainGlobals < s.heap.objs.size := by
  refine el32 (C.gg) fun og _ _ hg _ => ?_
  exact Heap.lt_size (S.fz _ _ (S.base _ _ hg))
theorem cE_set1 {e : Expr} {pos : Pos} (hg : C.gen = false) (hst : ∀ env, (starEach [e] env).map (fun (star, t) => (star, (do let v ← t; standAt pos; pure v : Sem Value))) = [(false, do let v ← eval e env; standAt pos; pure v)])
    (h : cE C d sc ε μ e fun x μ₁ => ∃ key : Key, x = .v key.val ∧ key.kind ≠ 2 ∧ ∀ a, k (.l a) ((a, .set [key]) :: μ₁)) : cE C d sc ε μ (.Set [e] 0 pos) k := fun A env F Z s hA hs R S => by
  rw [arm_eval_Set]
  refine wpAny_bind (wpAny_standAt ?_)
  refine wpAny_bind (inMain_at hg R S fun b => ?_)
  rw [hst]
  have hroad : displayRoad 0 [e] = .oneByOne := rfl
  rw [hroad]
  unfold setDisplay
  rw [if_neg (by decide)]
  refine wpAny_bind (newSet_at ?_)
  refine el03 (fresh_none S) fun nF nZ nM => ?_
  have S₁ := S.pushZ (o := freshSet C.w) rfl
  have R₁ : EnvRel C F (PSet Z s.heap.objs.size (freshSet C.w)) env ε := R.le fun b ob q => by
    have ne : b ≠ s.heap.objs.size := fun r => by rw [r, nZ] at q; cases q
    rw [PSet.ne _ _ ne]; exact q
  dsimp only
  refine wpAny_bind (wpAny_holding ?_)
  refine wpAny_bind ?_
  show wpAny _ _ (evalAll [(do let v ← eval e env; standAt pos; pure v)]) _ _ _
  unfold evalAll
  refine wpAny_bind (wpAny_bind (wpBot (h A env F _ _ hA hs R₁ S₁) fun v s₁ hq => ?_))
  obtain ⟨x, F₁, μ₁, ⟨key, hx, hp, hk⟩, le₁, S₂, hv⟩ := hq
  subst hx
  refine wpAny_bind (wpAny_standAt (wpAny_pure ?_))
  refine wpAny_bind (wpAny_holding ?_)
  unfold evalAll
  refine wpAny_pure (wpAny_pure ?_)
  have S₃ := S₂.takeZ nZ (x := .set []) freshSet_at S.above
  refine wpAny_bind (wpAny_holding ?_)
  simp only [List.forIn_cons, List.forIn_nil]
  refine wpAny_bind (wpAny_bind ?_)
  refine wpAny_bind (wpBot (setAdd_sim (Q := fun _ s' => ∃ μ', Sim C F₁ Z μ' s' ∧ k (.l s.heap.objs.size) μ') hA.cl S₃ (.head _) (Val.key hv) (fun _ h => by cases h) hp (by simp) (fun hin => by cases hin) fun hno ks' μ' s' p1 p2 p3 => ?_) fun b s' ⟨μ', q1, q2⟩ => ?_)
  · rw [p2.head S₃.nod.1] at p3
    have : ks' = [key] := List.perm_singleton.mp p1
    subst this
    exact ⟨_, p3, hk _⟩
  · refine wpAny_pure (wpAny_pure ?_)
    rw [if_neg (by decide)]
    refine wpAny_pure ?_
    exact wpAny_pure (wpAny_pure ⟨.l _, F₁, μ', q2, le₁, q1, rfl⟩)
end
end
section
open PySem PySem.Calls
theorem split_set_len : splitId "set.__len__" = some ("set", "__len__") := by kernel_rfl
section
variable {C : Cx} {d : Nat} {sc : Scope} {ε : Env1} {μ μ' : Mem} {k k' : PostW} {kb : Bool → Mem → Prop} {kl : List W → Mem → Prop} {kf kf' : PostF}
theorem extend_loop {A : Around} {Z F₂ : PMap} {it a : Addr} {items : List V} {J : Nat → Obj → Prop} {res : Value} (hA : Rm A d) (hit : Iter C F₂ it items J) (hz : Z it = none) (hsz : items.length < 100000)
    {R : Result → Shared → Prop} : ∀ (m i : Nat) (μ : Mem) (ws : List W) (o : Obj) (s : Shared), items.length - i = m → i ≤ items.length → Sim C F₂ (PSet Z it o) μ s → J i o → (a, O.list ws) ∈ μ → ws.length = i →
      (∀ s' μ', UpdAt a (.list ws) (.list (ws ++ (items.drop i).map .v)) μ μ' → Sim C F₂ Z μ' s' → R (.ok (.ret res)) s') →
      codeAny C.M A (.builtin "list.extend.loop" ⟨[.ref a, .ref it, res], []⟩) R s := less fun m ih i μ ws o s hmi hi S hJ hm hwl hR => by
    refine codeAny_builtin PySem.F.entry_extend_loop ?_
    rw [Around.under_plainId PySem.F.plain_extend_loop _]
    show wpAny _ A.in1 (pyNext (.ref it) >>= _) _ _ s
    refine wpAny_bind ?_
    have hto : s.heap.get? it = some o := S.zz _ _ (PSet.self ..)
    have hh : A.in1.handled = none := hA.hd
    rcases Nat.lt_or_ge i items.length with hlt | hge
    · have hx : items[i]? = some items[i] := List.getElem?_eq_getElem hlt
      refine hit.item i _ A.in1 s _ _ o hh S.fz hto hJ hx fun v h' o' tk hv hsb ho' hJ' => ?_
      have S' : Sim C F₂ (PSet Z it o') μ { s with heap := h', toks := tk } := by
        have := S.setZ (a := it) (PSet.self ..) hsb ho' tk
        rw [PSet.twice] at this; exact this
      refine el22 (S'.isLm hm) fun its n hl hws => ?_
      have hlen : its.size = i := by rw [← Array.length_toList, hws.length, hwl]
      show wpAny _ A.in1 (updateSeq a (·.push v) >>= _) _ _ _
      refine wpAny_bind ?_
      obtain ⟨μ'', hU⟩ := UpdAt.exists (.list (ws ++ [.v items[i]])) hm
      refine wpAny_updateSeq hl rfl (wpAny_pure ⟨plainId_quiet PySem.F.plain_extend_loop _, ?_⟩) (by rw [hlen, sizeLine_eq]; lia) (by show (its.push v).size ≤ sizeLine + 1; rw [Array.size_push, hlen, sizeLine_eq]; lia)
      have S'' := S'.updM hU (Heap.SameBut.update _ _ _) (IsL.update hl (·.push v)) ⟨_, _, rfl, by rw [Array.toList_push]; exact hws.append (.cons hv .nil)⟩ tk
      refine ih (items.length - (i + 1)) (by lia) (i + 1) μ'' _ o' _ rfl (by lia) S'' hJ' hU.mem2 (by simp [hwl]) fun s3 μ3 r1 r2 => hR s3 μ3 ?_ r2
      have e : ws ++ [W.v items[i]] ++ (items.drop (i + 1)).map .v = ws ++ (items.drop i).map .v := by
        rw [List.drop_eq_getElem_cons hlt, List.map_cons, List.append_assoc]; rfl
      rw [e] at r1
      exact hU.trans r1 S.nod.1
    · have hx : items[i]? = none := List.getElem?_eq_none_iff.mpr hge
      refine hit.done i A.in1 s _ _ o hh S.fz hto hJ hx fun h' tk hk' => ?_
      refine wpAny_pure (hR _ μ (by rw [List.drop_of_length_le hge]; simpa using UpdAt.self hm) (S.but ⟨o, PSet.self ..⟩ (fun b ob e => ?_) hz hk' tk))
      have ne : b ≠ it := fun q => by rw [q, hz] at e; cases e
      rw [PSet.ne _ _ ne]; exact e
theorem collect_set {ks : List Key} {A : Around} {F Z : PMap} {s : Shared} {v : Value} {Q : List Value → Shared → Prop} (hA : Rm A (d + 2)) (S : Sim C F Z μ s) (hv : Val C.P F (.set ks) v) (hz : ks.length < 100000)
    (hQ : ∀ (L : List Key) vs F' s', L.Perm ks → PLe F F' → Sim C F' Z μ s' → Vals C.P F' (L.map Key.val) vs → Q vs s') : wpAny C.M A (collect v) Q (fun _ _ => False) s := by
  (refine el53 (Val.setAt hv) fun o ob es n t qq5 fo D => ?_; subst qq5)
  unfold collect
  refine wpAny_bind (wpAny_runValue (codeAny_builtin PySem.F.entry_proto_collect ?_))
  rw [Around.under_plainId PySem.F.plain_proto_collect _]
  show wpAny _ A.in1 (newList [] >>= fun l => again (.builtin "list.__iadd__" ⟨[l, .ref o], []⟩)) _ _ s
  refine wpAny_bind (wpAny_newObj_type ?_)
  refine wpAny_pure ⟨plainId_quiet PySem.F.plain_list_iadd _, codeAny_builtin PySem.F.entry_list_iadd ?_⟩
  rw [Around.under_plainId PySem.F.plain_list_iadd _]
  have S₁ := S.pushM (o := { cls := .type "list", data := .seq #[] }) (x := .list []) rfl ⟨_, _, rfl, .nil⟩
  have D₁ := D _ S₁.fz
  have hne : s.heap.objs.size ≠ o := fun e => absurd (Heap.lt_size (S.fz _ _ fo)) (by rw [← e]; exact Nat.lt_irrefl _)
  show wpAny _ A.in1 (Builtin.List.listExtendWith (.ref s.heap.objs.size) (.ref o) (.ref s.heap.objs.size)) _ _ _
  unfold Builtin.List.listExtendWith
  refine wpAny_bind (wpAny_typeOf D₁.typeIs ?_)
  have h1 : Builtin.List.listSameRef (.ref s.heap.objs.size) (.ref o) = false := by simp [Builtin.List.listSameRef, hne]
  have h2 : (Value.type "set" == Value.type "list") = false := by decide
  have h3 : (Value.type "set" == Value.type "tuple") = false := by decide
  simp only [h1, h2, h3, Bool.or_false, Bool.false_eq_true, if_false]
  refine wpAny_bind (wpBot (it_set (C := C) (d := d) (μ := (s.heap.objs.size, O.list []) :: μ) (ks := ks) A.in1 F Z _ (.ref o) (hA.in1.mono (by lia)) S₁ hv) fun itv s₂ hq => ?_)
  obtain ⟨it, items, J, F₂, o₂, e, ⟨L, hL, hP⟩, le₂, S₂, hz', hJ, hit⟩ := hq
  subst e
  have D₂ := D s₂ fun a o e => S₂.fz a o (le₂ a o e)
  refine wpAny_bind (wpAny_holding ?_)
  unfold Builtin.List.listLengthHint
  refine wpAny_bind (wpAny_specialOf D₂.typeIs PySem.F.slot_set_len.lookup ?_)
  dsimp only
  rw [split_set_len]
  dsimp only
  refine wpAny_bind (wpAny_isInstance D₂.typeIs sub_set_self ?_)
  rw [if_neg (by decide)]
  rw [if_pos (by decide +kernel)]
  refine wpAny_bind (wpAny_typeOf D₂.typeIs ?_)
  dsimp only
  refine wpAny_pure ?_
  rw [if_pos (by decide +kernel)]
  refine wpAny_bind (wpAny_rule ?_)
  refine wpAny_bind ?_
  show wpAny _ A.in1 (updateSeq s.heap.objs.size (·.push .none) >>= fun _ => updateSeq s.heap.objs.size (·.pop)) _ _ _
  refine el22 (S₂.isLm (List.Mem.head _)) fun its ni hl hws => ?_
  have his : its = #[] := by
    have := hws.length
    simp only [List.length_nil] at this
    exact Array.eq_empty_of_size_eq_zero (by rw [← Array.length_toList]; exact this)
  subst his
  refine wpAny_bind (wpAny_updateSeq hl rfl ?_)
  have hl2 := IsL.update hl (·.push Value.none)
  refine wpAny_updateSeq hl2 rfl ?_
  have hl3 := IsL.update hl2 (·.pop)
  have S₃ := S₂.updM (UpdAt.self (List.Mem.head _)) ((Heap.SameBut.update _ _ _).trans (Heap.SameBut.update _ _ _)) hl3 ⟨_, _, rfl, .nil⟩ s₂.toks
  refine wpAny_pure ⟨plainId_quiet PySem.F.plain_extend_loop _, ?_⟩
  have hlen : items.length = ks.length := by rw [hL, List.length_map, hP.length_eq]
  refine extend_loop (d := d + 2) hA hit hz' (by rw [hlen]; exact hz) items.length 0 _ [] o₂ _ (by lia) (by lia) S₃ hJ (.head _) rfl fun s' μ' q1 q2 => ?_
  have e := q1.head S₁.nod.1
  subst e
  refine el22 (q2.isLm (List.Mem.head _)) fun its' n' hl' hws' => ?_
  show wpAny _ A (load s.heap.objs.size >>= _) _ _ s'
  refine wpAny_bind (wpAny_load hl' ?_)
  refine wpAny_pure (hQ L its'.toList F₂ s' hP le₂ ⟨q2.base, q2.fz, q2.zz, q2.dis, fun a x hm => q2.own a x (.tail _ hm), q2.nod.sublist (List.sublist_cons_self ..), q2.os, q2.gens⟩ ?_)
  rw [← hL]
  exact Vals.of (frozen_map items) (by simpa using hws')
end
end
section
open PySem PySem.Calls
open PyProof.Rows (sortedHeap sortedHeap_old sortedHeap_at pairsOf pairsOf_toList pairsOf_size arrOf strKind_oneLt SortedToK list_sort_treeK)
theorem Sim.newF {C : Cx} {F Z : PMap} {μ : Mem} {s s' : Shared} (S : Sim C F Z μ s) {ob : Obj} (hold : ∀ b o, s.heap.get? b = some o → s'.heap.get? b = some o) (ha : s'.heap.get? s.heap.objs.size = some ob) (ho : s'.os = s.os) (hg : s'.gens = s.gens) :
    ∃ F', PLe F F' ∧ F' s.heap.objs.size = some ob ∧ Sim C F' Z μ s' := by
  refine el03 (fresh_none S) fun nF nZ nM => ?_
  have le := PSet.le (o := ob) nF
  refine ⟨PSet F s.heap.objs.size ob, le, PSet.self .., fun a o e => le a o (S.base a o e), fun a o e => ?_, fun a o e => hold a o (S.zz a o e), fun a o e => ?_, fun a x hm => ?_, S.nod, ho.trans S.os, hg ▸ S.gens⟩
  · by_cases q : a = s.heap.objs.size
    · subst q; rw [PSet.self] at e; cases e; exact ha
    · rw [PSet.ne _ _ q] at e; exact hold a o (S.fz a o e)
  · have q : a ≠ s.heap.objs.size := fun q => by rw [q, nZ] at e; cases e
    rw [PSet.ne _ _ q]; exact S.dis a o e
  · obtain ⟨h1, h2, ob', h3, h4⟩ := S.own a x hm
    have q : a ≠ s.heap.objs.size := Nat.ne_of_lt (Heap.lt_size h3)
    exact ⟨by rw [PSet.ne _ _ q]; exact h1, h2, ob', hold a _ h3, h4.mono le⟩
noncomputable def StrSorted (L : List Str) : Prop := L.Pairwise fun a b => ¬ b.cps.toList < a.cps.toList
theorem Vals.strsAre {P : Params} {F : PMap} {L : List Str} {vs : List Value} (h : Vals P F (L.map V.str) vs) : PyProof.Rows.StrsAre vs L := by
  induction L generalizing vs with
  | nil => refine Vals.i_nil h ?_; exact .nil
  | cons x r ih => refine Vals.i_cons h fun w ws h1 h2 => ?_; refine Val.i_str h1 fun t => ?_; exact .cons _ _ (ih h2)
theorem strsAre_vals {P : Params} {F : PMap} {L : List Str} {vs : List Value} (h : PyProof.Rows.StrsAre vs L) : Vals P F (L.map V.str) vs := by
  induction h with
  | nil => exact .nil
  | cons x t _ ih => exact .cons (.str _ _) ih
theorem keys_strs {L : List Key} (h : ∀ x ∈ L, x.kind = 0) : ∃ ss : List Str, L = ss.map Key.s := by
  induction L with
  | nil => exact ⟨[], rfl⟩
  | cons k r ih =>
    obtain ⟨ss, e⟩ := ih fun x hx => h x (.tail _ hx)
    have h0 := h k (.head _)
    cases k with
    | s x => exact ⟨x :: ss, by rw [e]; rfl⟩
    | _ => cases h0
theorem rising_pw : ∀ (l : List Str) (p : Str), PyProof.Rows.risingS p l = true → (p :: l).Pairwise fun a b => ¬ b.cps.toList < a.cps.toList
  | [], p, _ => List.pairwise_singleton _ _
  | x :: r, p, h => by
    have h' : (!Spec.ltCps x.cps.toList p.cps.toList && PyProof.Rows.risingS x r) = true := h
    rw [Bool.and_eq_true, Bool.not_eq_true', PyProof.Rows.ltCps_eq] at h'
    have ih := rising_pw r x h'.2
    have h1 : ¬ x.cps.toList < p.cps.toList := of_decide_eq_false h'.1
    refine List.pairwise_cons.mpr ⟨fun y hy => ?_, ih⟩
    rcases List.mem_cons.mp hy with q | q
    · rw [q]; exact h1
    · have h2 : ¬ y.cps.toList < x.cps.toList := List.rel_of_pairwise_cons ih q
      intro h3
      rcases PyProof.Rows.strKind.negTrans y.cps.toList x.cps.toList p.cps.toList (decide_eq_true h3) with h4 | h4
      · exact h2 (of_decide_eq_true h4)
      · exact h1 (of_decide_eq_true h4)
theorem sorted_pw {l : List Str} (h : PyProof.Rows.sortedS l = true) : StrSorted l := by
  cases l with
  | nil => exact List.Pairwise.nil
  | cons x r => exact rising_pw r x h
theorem Vals.length {P : Params} {F : PMap} : ∀ {L : List V} {vs : List Value}, Vals P F L vs → vs.length = L.length
  | [], _, .nil => rfl
  | _ :: _, _, .cons _ h => by simp [Vals.length h]
section
variable {C : Cx} {d : Nat} {sc : Scope} {ε : Env1} {μ μ' : Mem} {k k' : PostW} {kb : Bool → Mem → Prop} {kl : List W → Mem → Prop} {kf kf' : PostF}
theorem c_sortedS {ks : List Key} (h0 : ∀ x ∈ ks, x.kind = 0) (hz : ks.length < 64) (h : ∀ L : List Str, (L.map Key.s).Perm ks → StrSorted L → k (.v (.list (L.map V.str))) μ) : cCall C (d + 3) μ (.builtin "sorted") [.v (.set ks)] [] k := fun A F Z s us kws hA S hv hkw => by
  refine KwAt.i_nil hkw ?_
  refine WsAt.i1 hv fun u hu => ?_
  refine Calls.call_function_entry PyProof.Rows.kind_sorted PyProof.Rows.plain_sorted PyProof.Rows.entry_sorted (PyProof.Rows.args_sorted1 _) ?_
  unfold Builtin.«sorted»
  refine wpAny_bind (m := checkCount "sorted" 1 1 _) (wpAny_pure ?_)
  refine wpAny_bind (collect_set (d := d) hA.in1 S hu (by lia) fun L vs F' s' hP le S' hvs => ?_)
  obtain ⟨ss, hss⟩ := keys_strs (L := L) fun x hx => h0 x (hP.mem_iff.mp hx)
  subst hss
  have hS : PyProof.Rows.StrsAre vs ss := by
    refine Vals.strsAre (P := C.P) (F := F') ?_
    rw [List.map_map] at hvs; exact hvs
  have hlen : vs.length = ks.length := by rw [hvs.length, List.length_map, hP.length_eq]
  refine wpAny_bind (wpAny_newObj_type ?_ (by show vs.toArray.size ≤ sizeLine; rw [List.size_toArray, sizeLine_eq]; lia))
  have hoL : (s'.heap.push { cls := .type "list", data := .seq vs.toArray }).get? s'.heap.objs.size = some (PyProof.Rows.seqObj "list" vs.toArray 0) := Heap.get?_push_size _ rfl
  refine wpAny_bind (wpAny_holding (wpAny_call_entry PyProof.Rows.slot_list_sort ⟨_, hoL, rfl⟩ PyProof.Rows.entry_list_sort (list_sort_treeK strKind_oneLt hoL hS.keysOf (fun v₁ v₂ rest e => PyProof.Rows.keyKind_strs (by rw [← e]; exact hS)) (by lia) fun st' a1 a2 => ⟨_, rfl, ?_⟩) (PyProof.Rows.args_list_sort _)))
  refine el13 (PyProof.Rows.sorted_out_str hS a1 a2) fun ss' g1 g2 g3 => ?_
  obtain ⟨e, he⟩ := sortedHeap_at (out := (arrOf st').map (·.2)) hoL
  have hold : ∀ b o, s'.heap.get? b = some o → (sortedHeap (s'.heap.push { cls := .type "list", data := .seq vs.toArray }) s'.heap.objs.size vs ((arrOf st').map (·.2))).get? b = some o := fun b o q => by
    have hlt := Heap.lt_size q
    rw [sortedHeap_old (Nat.ne_of_lt hlt) (by rw [Heap.size_push]; exact Nat.lt_succ_of_lt hlt)]
    exact Heap.get?_push_of_some _ q
  refine el13 (S'.newF (s' := { s' with heap := sortedHeap (s'.heap.push { cls := .type "list", data := .seq vs.toArray }) s'.heap.objs.size vs ((arrOf st').map (·.2)) }) hold he rfl rfl) fun F'' le' hF S'' => ?_
  refine wpAny_pure ⟨_, rfl, .v (.list (ss'.map V.str)), F'', μ, h ss' ((g2.map _).trans hP) (sorted_pw g3), le.trans le', S'', .list hF (strsAre_vals g1)⟩
end
end
section
open PySem PySem.Calls
open PySem.W (KasT kas_rev kas_asc kas_desc kas_tail3 kas_descPart kas_count kas_place kas_bin kas_sort kas_ask)
/-! ## the decisions of the sort, for tuples of texts -/
noncomputable def kev {α : Type} (lt : Nat → Nat → Bool) : KasT α → α
  | .ret a => a
  | .ask i j k => kev lt (k (lt i j))
noncomputable def KGood {α : Type} (n : Nat) (P : α → Prop) : KasT α → Prop
  | .ret a => P a
  | .ask i j k => i < n ∧ j < n ∧ ∀ b, KGood n P (k b)
theorem KGood.bind {α β : Type} {n : Nat} {P : α → Prop} {Q : β → Prop} {f : α → KasT β} : ∀ {t : KasT α}, KGood n P t → (∀ a, P a → KGood n Q (f a)) → KGood n Q (t.bind f)
  | .ret a, h, hf => hf a h
  | .ask _ _ k, h, hf => ⟨h.1, h.2.1, fun b => KGood.bind (h.2.2 b) hf⟩
theorem KGood.ev {α : Type} {n : Nat} {P : α → Prop} (lt : Nat → Nat → Bool) : ∀ {t : KasT α}, KGood n P t → P (kev lt t)
  | .ret a, h => h
  | .ask i j k, h => by
    show P (kev lt (k (lt i j)))
    exact KGood.ev lt (h.2.2 (lt i j))
theorem kev_congr {α : Type} {n : Nat} {P : α → Prop} {lt lt' : Nat → Nat → Bool} (he : ∀ i j, i < n → j < n → lt i j = lt' i j) : ∀ {t : KasT α}, KGood n P t → kev lt t = kev lt' t
  | .ret a, _ => rfl
  | .ask i j k, h => by
    show kev lt (k (lt i j)) = kev lt' (k (lt' i j))
    rw [he i j h.1 h.2.1]
    exact kev_congr he (h.2.2 _)
theorem kev_wp {α : Type} {n : Nat} {P : α → Prop} {lt : Nat → Nat → Bool} {cmp : Nat → Nat → (Bool → Shared → Prop) → Shared → Prop} {s : Shared} (hc : ∀ i j C, i < n → j < n → C (lt i j) s → cmp i j C s) {Q : α → Shared → Prop} : ∀ {t : KasT α}, KGood n P t → Q (kev lt t) s → t.kasWp cmp Q s
  | .ret a, _, h => h
  | .ask i j k, g, h => hc i j _ g.1 g.2.1 (kev_wp hc (g.2.2 _) h)
noncomputable def PermN (n : Nat) (p : Array Nat) : Prop := p.Perm (List.toArray (List.range n))
theorem PermN.get {n : Nat} {p : Array Nat} (hn : 0 < n) (h : PermN n p) (i : Nat) : p.getD i 0 < n := by
  by_cases hi : i < p.size
  · have hm : p[i] ∈ p := Array.getElem_mem hi
    have : p[i] ∈ (List.toArray (List.range n)) := h.mem_iff.mp hm
    simp only [List.mem_toArray, List.mem_range] at this
    simpa [Array.getD, hi] using this
  · simpa [Array.getD, hi] using hn
theorem PermN.rev {n : Nat} {p : Array Nat} (h : PermN n p) (i j : Nat) : PermN n (kas_rev p i j) := (PyProof.Rows.mirror_perm _ _ _ _).trans h
theorem PermN.bub {n : Nat} {p : Array Nat} (h : PermN n p) (i j : Nat) : PermN n (PyProof.Rows.bubble p i j) := (PyProof.Rows.bubble_perm _ _ _).trans h
theorem g_asc {n : Nat} {p : Array Nat} (hn : 0 < n) (h : PermN n p) : ∀ f m, KGood n (fun _ : Nat => True) (kas_asc p f m)
  | 0, _ => trivial
  | f + 1, m => ⟨h.get hn _, h.get hn _, fun b => by cases b; exact g_asc hn h f (m + 1); exact trivial⟩
theorem g_desc {n : Nat} (hn : 0 < n) : ∀ f (p : Array Nat) m q, PermN n p → KGood n (fun r : Array Nat × Nat × Nat => PermN n r.1) (kas_desc f p m q)
  | 0, _, _, _, h => h
  | f + 1, p, m, q, h => ⟨h.get hn _, h.get hn _, fun b => by
    cases b
    · exact ⟨h.get hn _, h.get hn _, fun d => by cases d; exact g_desc hn f p (m + 1) (q + 1) h; exact h⟩
    · show KGood n _ (if q > 0 then _ else _)
      split
      · exact g_desc hn f _ _ _ (h.rev _ _)
      · exact g_desc hn f p _ _ h⟩
theorem g_tail3 {n : Nat} {p : Array Nat} (hn : 0 < n) (h : PermN n p) (m r : Nat) : KGood n (fun x : Nat × Array Nat => PermN n x.2) (kas_tail3 m r p) := (g_asc hn (h.rev _ _) _ _).bind fun _ _ => h.rev _ _
theorem g_descPart {n : Nat} {p : Array Nat} (hn : 0 < n) (h : PermN n p) (m r : Nat) : KGood n (fun x : Nat × Array Nat => PermN n x.2) (kas_descPart m r p) :=
  (g_desc hn _ _ _ _ h).bind fun x hx => by
    split
    · exact g_tail3 hn (hx.rev _ _) _ _
    · exact g_tail3 hn hx _ _
theorem g_count {n : Nat} {p : Array Nat} (hn : 0 < n) (h : PermN n p) (r : Nat) : KGood n (fun x : Nat × Array Nat => PermN n x.2) (kas_count r p) :=
  (g_asc hn h _ _).bind fun m _ => by
    split
    · exact h
    · split
      · exact ⟨h.get hn _, h.get hn _, fun b => by cases b; exact g_descPart hn (h.rev _ _) _ _; exact h⟩
      · exact g_descPart hn h _ _
theorem g_place {n : Nat} {p : Array Nat} (hn : 0 < n) (h : PermN n p) (k : Nat) : ∀ f l r, KGood n (fun _ : Nat => True) (kas_place p k f l r)
  | 0, _, _ => trivial
  | f + 1, l, r => by
    unfold kas_place
    split
    · exact trivial
    · exact ⟨h.get hn _, h.get hn _, fun b => by cases b; exact g_place hn h k f _ _; exact g_place hn h k f _ _⟩
theorem g_bin {n : Nat} (hn : 0 < n) : ∀ f (p : Array Nat) k, PermN n p → KGood n (PermN n) (kas_bin f p k)
  | 0, _, _, h => h
  | f + 1, p, k, h => (g_place hn h k k 0 k).bind fun l _ => g_bin hn f _ _ (h.bub _ _)
theorem g_sort {n : Nat} (hn : 0 < n) : KGood n (PermN n) (kas_sort n) :=
  (g_count hn (Array.Perm.refl _) n).bind fun r hr => by
    split
    · exact g_bin hn _ _ _ hr
    · exact hr
noncomputable def lt4 (a b c d e f : Bool) : Nat → Nat → Bool
  | 0, 1 => a | 1, 0 => !a | 0, 2 => b | 2, 0 => !b | 0, 3 => c | 3, 0 => !c | 1, 2 => d | 2, 1 => !d | 1, 3 => e | 3, 1 => !e | 2, 3 => f | 3, 2 => !f | _, _ => false
noncomputable def trans4 (n : Nat) (lt : Nat → Nat → Bool) : Bool := (List.range n).all fun i => (List.range n).all fun j => (List.range n).all fun k => !(lt i j && lt j k) || lt i k
noncomputable def sorted4 (n : Nat) (lt : Nat → Nat → Bool) (p : Array Nat) : Bool := (List.range (n - 1)).all fun i => lt (p.getD i 0) (p.getD (i + 1) 0)
theorem chk2 : ∀ a b c d e f : Bool, (!trans4 2 (lt4 a b c d e f) || sorted4 2 (lt4 a b c d e f) (kev (lt4 a b c d e f) (kas_sort 2))) = true := by decide +kernel
theorem chk3 : ∀ a b c d e f : Bool, (!trans4 3 (lt4 a b c d e f) || sorted4 3 (lt4 a b c d e f) (kev (lt4 a b c d e f) (kas_sort 3))) = true := by decide +kernel
theorem chk4 : ∀ a b c d e f : Bool, (!trans4 4 (lt4 a b c d e f) || sorted4 4 (lt4 a b c d e f) (kev (lt4 a b c d e f) (kas_sort 4))) = true := by decide +kernel
end
section
open PySem PySem.Calls
open PySem.W (KasT kas_sort kas_ask KatLex kas_item)
open PyProof.Rows (sortedHeap sortedHeap_old sortedHeap_at arrOf failedOf seqObj keyLt' tuples' keyKind' general' sortRuns' SortSt list_sort_plain listItems_at listUpdate_at seqEpoch_at get?_update_seq size_push' SortKind)
noncomputable def lexRes : List Str → List Str → Bool → Bool
  | a :: r, b :: t, fin => if a = b then lexRes r t fin else decide (a.cps.toList < b.cps.toList)
  | _, _, fin => fin
noncomputable def tupLt (xs ys : List Str) : Bool := lexRes xs ys (decide (xs.length < ys.length))
section
variable {prog : Program} {w : World} {A : Around} {E : Value → Shared → Prop} {s : Shared} {F : PMap}
theorem lex_at {fin : Bool} {Q : Bool → Shared → Prop} : ∀ {xs ys : List Str} {us vs : List Value} (i : Nat), StrsAt xs us → StrsAt ys vs → Q (lexRes xs ys fin) s → KatLex prog w A true fin Q (us.zip vs) i s
  | [], _, _, _, i, .nil, _, h => by
    rw [List.zip_nil_left]; exact PySem.W.kat_nil (by unfold lexRes at h; exact h)
  | _ :: _, [], _, _, i, .cons _, .nil, h => by
    rw [List.zip_nil_right]; exact PySem.W.kat_nil (by unfold lexRes at h; exact h)
  | a :: r, b :: t, _, _, i, .cons (t := tk) h1, .cons (t := tk') h2, h => by
    rw [List.zip_cons_cons]
    refine PySem.W.kat_cons ((PySem.strKind prog w).eqBool (strKind_is _ _ _ _) (strKind_is _ _ _ _) ?_)
    unfold lexRes at h
    by_cases e : a = b
    · rw [decide_eq_true e]
      rw [if_pos e] at h
      exact PySem.W.kat_yes (lex_at (i + 1) h1 h2 h)
    · rw [decide_eq_false e]
      rw [if_neg e] at h
      refine PySem.W.kat_no ?_
      by_cases hi : i = 0
      · subst hi
        exact PyProof.Rows.strKind_oneLt prog w A _ s _ _ _ _ rfl rfl h
      · have : (true && (i == 0)) = false := by simpa using hi
        rw [this]
        exact PySem.W.kat_one _ _ (PyProof.Rows.lt_str h)
theorem tup_lt {xs ys : List Str} {u v : Value} {Q : Bool → Shared → Prop} (hF : PIn F s.heap) (hu : StrTup F xs u) (hv : StrTup F ys v) (h : Q (tupLt xs ys) s) : wpAny (model prog w) A (keyLt' (tuples' true) u v) Q E s := by
  (refine el33 hu fun a ws n qq3 g1 g2 => ?_; try clear hu; subst qq3)
  (refine el33 hv fun b ws' n' qq3 g3 g4 => ?_; try clear hv; subst qq3)
  have len : ∀ {xs : List Str} {vs : List Value}, StrsAt xs vs → vs.length = xs.length := fun h => by
    induction h with
    | nil => rfl
    | cons _ ih => simp [ih]
  refine PySem.W.kat_lt (hF _ _ g1) rfl (hF _ _ g3) rfl ?_
  refine lex_at 0 g2 g4 ?_
  have e1 : ws.size = xs.length := by rw [← Array.length_toList, len g2]
  have e2 : ws'.size = ys.length := by rw [← Array.length_toList, len g4]
  rw [e1, e2]; exact h
end
noncomputable def sortOrd (L : List (List Str)) : List Nat := if L.length < 2 then List.range L.length else (kev (fun i j => tupLt (L.getD i []) (L.getD j [])) (kas_sort L.length)).toList
theorem sortOrd_perm (L : List (List Str)) : (sortOrd L).Perm (List.range L.length) := by
  unfold sortOrd
  split
  · exact .refl _
  · have := KGood.ev (fun i j => tupLt (L.getD i []) (L.getD j [])) (g_sort (n := L.length) (by lia))
    have := Array.perm_iff_toList_perm.mp this
    simpa using this
section
variable {C : Cx} {d : Nat} {sc : Scope} {ε : Env1} {μ μ' : Mem} {k k' : PostW} {kb : Bool → Mem → Prop} {kl : List W → Mem → Prop} {kf kf' : PostF}
theorem Vals.tups {P : Params} {F : PMap} : ∀ {L : List (List Str)} {vs : List Value}, Vals P F ((L.map Key.t).map Key.val) vs → ∀ i, i < L.length → ∃ a, vs.getD i Value.none = .ref a ∧ StrTup F (L.getD i []) (.ref a)
  | [], _, .nil, i, h => by cases h
  | x :: r, _, .cons a b, i, h => by
    cases i with
    | zero => have := Val.strTup a; (refine el32 this fun ad ws n e q => ?_; try clear this); exact ⟨ad, e, ad, ws, n, rfl, q⟩
    | succ i => exact Vals.tups b i (by simpa using h)
theorem Vals.katTups {P : Params} {F : PMap} {h : Heap} (hF : PIn F h) : ∀ {L : List (List Str)} {vs : List Value}, Vals P F ((L.map Key.t).map Key.val) vs → (∀ x ∈ L, x ≠ []) → ∃ fs, PySem.W.KatTups h vs fs ∧ fs.length = L.length ∧ ∀ f ∈ fs, ∃ x t, f = Value.str x t
  | [], _, .nil, _ => ⟨[], PySem.W.KatTups.nil, rfl, fun _ h => by cases h⟩
  | x :: r, _, .cons a b, hne => by
    refine el13 (Vals.katTups hF b fun y hy => hne y (.tail _ hy)) fun fs h1 h2 h3 => ?_
    refine el33 (Val.strTup a) fun ad ws n e g1 g2 => ?_
    cases x with
    | nil => exact absurd rfl (hne [] (.head _))
    | cons y ys =>
      have : ∃ t rest, ws.toList = Value.str y t :: rest := by
        generalize ws.toList = l at g2
        cases g2 with | cons h => exact ⟨_, _, rfl⟩
      (refine el21 this fun t rest hl => ?_; try clear this)
      refine ⟨.str y t :: fs, ?_, by simp [h2], fun f hf => ?_⟩
      · rw [e]
        exact PySem.W.KatTups.cons (hF _ _ g1) rfl rfl (by rw [← Array.getElem?_toList, hl]; rfl) h1
      · rcases List.mem_cons.mp hf with q | q
        · exact ⟨y, t, q⟩
        · exact h3 f q
theorem sort_tups {L : List (List Str)} {vs : List Value} {a : Addr} {n : Nat} {A : Around} {F : PMap} {s : Shared} {P : PySem.Fin → Shared → Prop} (hne : ∀ x ∈ L, x ≠ []) (hvs : Vals C.P F ((L.map Key.t).map Key.val) vs) (h64 : L.length < 64) (hF : PIn F s.heap) (hFa : F a = none)
    (ho : s.heap.get? a = some (seqObj "list" vs.toArray n)) (h : P (.done (.ret .none)) { s with heap := sortedHeap s.heap a vs ((sortOrd L).map fun i => vs.getD i Value.none).toArray }) :
    wpAny C.M A (Builtin.«list.sort» ⟨[.ref a], []⟩) P (fun _ _ => False) s := by
  have hlen : vs.length = L.length := by rw [hvs.length, List.length_map, List.length_map]
  rw [list_sort_plain]
  have ha : a < s.heap.objs.size := Heap.lt_size ho
  refine wpAny_bind (listItems_at ho rfl ?_)
  refine wpAny_bind (listUpdate_at ho rfl ?_ (by rw [List.size_toArray, sizeLine_eq]; lia) (Nat.zero_le _))
  obtain ⟨e1, ho1⟩ : ∃ e1, (s.heap.update a (Obj.mapSeq fun _ => #[])).get? a = some (seqObj "list" #[] e1) := ⟨_, get?_update_seq ho (fun _ => #[])⟩
  refine wpAny_bind (seqEpoch_at ho1 rfl ?_)
  refine wpAny_bind (wpAny_newTuple ?_ (by show vs.length ≤ _; rw [sizeLine_eq]; lia))
  refine wpAny_bind (wpAny_newList ?_ (Nat.zero_le _))
  refine wpAny_holding ?_
  have ho6 : (((s.heap.update a (Obj.mapSeq fun _ => #[])).push (seqObj "tuple" vs.toArray 0)).push (seqObj "list" #[] 0)).get? a = some (seqObj "list" #[] e1) := by
    rw [Heap.get?_push_ne _ _ _ (by rw [size_push', Heap.size_update]; exact Nat.ne_of_lt (Nat.lt_succ_of_lt ha)), Heap.get?_push_ne _ _ _ (by rw [Heap.size_update]; exact Nat.ne_of_lt ha)]
    exact ho1
  show wpAny C.M A _ P _ { s with heap := ((s.heap.update a (Obj.mapSeq fun _ => #[])).push (seqObj "tuple" vs.toArray 0)).push (seqObj "list" #[] 0) }
  have hF6 : PIn F (((s.heap.update a (Obj.mapSeq fun _ => #[])).push (seqObj "tuple" vs.toArray 0)).push (seqObj "list" #[] 0)) := fun b o e => by
    have hb : b ≠ a := fun q => by rw [q, hFa] at e; cases e
    exact Heap.get?_push_of_some _ (Heap.get?_push_of_some _ ((Heap.get?_update_other _ _ (Ne.symm hb)).trans (hF b o e)))
  dsimp only
  have hsz : vs.toArray.size = vs.length := by simp
  by_cases h2 : vs.toArray.size < 2
  · rw [if_pos h2, if_pos h2]
    refine wpAny_bind (wpAny_pure ?_)
    rw [StateT.run_pure]
    refine wpAny_bind (wpAny_pure ?_)
    dsimp only
    refine wpAny_bind (seqEpoch_at ho6 rfl ?_)
    refine wpAny_bind (listUpdate_at ho6 rfl ?_ (Nat.zero_le _) (by rw [Array.size_map]; show (PyProof.Rows.pairsOf vs).size ≤ _; rw [PyProof.Rows.pairsOf_size, sizeLine_eq]; lia))
    simp only [bne_self_eq_false, Bool.false_eq_true, if_false]
    have e : ((sortOrd L).map fun i => vs.getD i Value.none).toArray = (arrOf (SortSt.mk' general' (vs.toArray.zip vs.toArray) #[] 7 none)).map (·.2) := by
      unfold sortOrd
      rw [if_pos (by lia)]
      show _ = (PyProof.Rows.pairsOf vs).map (·.2)
      apply Array.ext'
      rw [Array.toList_map, PyProof.Rows.pairsOf_toList, ← hlen]
      match vs with
      | [] => rfl
      | [x] => rfl
      | _ :: _ :: _ => simp at h2; lia
    rw [e] at h
    exact wpAny_pure h
  · rw [if_neg h2, if_neg h2]
    refine el13 (Vals.katTups hF6 hvs hne) fun fs k1 k2 k3 => ?_
    refine wpAny_bind (PySem.W.kat_kind (T := .type "str") k1 (by lia) (fun f hf => ?_) (by decide) ?_)
    · (refine el21 (k3 f hf) fun x t qq2 => ?_; subst qq2)
      exact PySem.W.Looks.of_pure rfl
    · have hask : (kas_sort vs.length).kasWp (kas_ask C.prog C.w A (tuples' true) vs) (fun p s' => p = kev (fun i j => tupLt (L.getD i []) (L.getD j [])) (kas_sort vs.length) ∧ s' = { s with heap := ((s.heap.update a (Obj.mapSeq fun _ => #[])).push (seqObj "tuple" vs.toArray 0)).push (seqObj "list" #[] 0) })
          { s with heap := ((s.heap.update a (Obj.mapSeq fun _ => #[])).push (seqObj "tuple" vs.toArray 0)).push (seqObj "list" #[] 0) } := by
        refine kev_wp (n := vs.length) (P := PermN vs.length) (lt := fun i j => tupLt (L.getD i []) (L.getD j [])) (fun i j Q hi hj hq => ?_) (g_sort (by lia)) ⟨rfl, rfl⟩
        refine el12 (hvs.tups i (by lia)) fun x ex hx => ?_
        refine el12 (hvs.tups j (by lia)) fun y ey hy => ?_
        show wpAny _ A (keyLt' (tuples' true) (vs.getD i Value.none) (vs.getD j Value.none)) Q _ _
        rw [ex, ey]
        exact tup_lt hF6 hx hy hq
      refine wpAny_bind (wpAny_mono (PySem.W.kat_run (ks := vs) (vs := vs) (Q := fun st' s' => ∃ p : Array Nat, p.size = vs.length ∧ arrOf st' = p.map (kas_item (vs.toArray.zip vs.toArray)) ∧ failedOf st' = none ∧ p = kev (fun i j => tupLt (L.getD i []) (L.getD j [])) (kas_sort vs.length) ∧ s' = { s with heap := ((s.heap.update a (Obj.mapSeq fun _ => #[])).push (seqObj "tuple" vs.toArray 0)).push (seqObj "list" #[] 0) })
        rfl (by lia) (by lia) (fun p' st' s' a1 a2 a3 a4 => ⟨p', a1, a2, a3, a4.1, a4.2⟩) hask) ?_ fun _ _ e => e)
      rintro ⟨⟨⟩, st'⟩ s' ⟨p, hp, har, hf, hpe, rfl⟩
      dsimp only
      have hout := PySem.W.kat_snds (ks := vs) (vs := vs) rfl har
      have hpo : sortOrd L = p.toList := by unfold sortOrd; rw [if_neg (by lia), hpe, ← hlen]
      rw [hpo] at h
      rw [hout]
      refine wpAny_bind (seqEpoch_at ho6 rfl ?_)
      refine wpAny_bind (listUpdate_at ho6 rfl ?_ (Nat.zero_le _) (by rw [List.size_toArray, List.length_map, Array.length_toList, hp, sizeLine_eq]; lia))
      rw [hf]
      simp only [bne_self_eq_false, Bool.false_eq_true, if_false]
      exact wpAny_pure h
end
end
section
open PySem PySem.Calls
open PySem.W (KasT kas_sort kas_ask KatLex kas_item)
theorem Str.ext' {a b : Str} (h : a.cps.toList = b.cps.toList) : a = b := by
  obtain ⟨⟨x⟩⟩ := a; obtain ⟨⟨y⟩⟩ := b; cases h; rfl
theorem cps_tri {a b : Str} (h : a ≠ b) : decide (a.cps.toList < b.cps.toList) = !decide (b.cps.toList < a.cps.toList) := by
  have irr := PyProof.Rows.strKind.irrefl
  cases h1 : decide (a.cps.toList < b.cps.toList) with
  | true =>
    cases h2 : decide (b.cps.toList < a.cps.toList) with
    | false => rfl
    | true =>
      have := PyProof.Rows.strKind.trans _ _ _ h1 h2
      rw [irr] at this; cases this
  | false =>
    cases h2 : decide (b.cps.toList < a.cps.toList) with
    | true => rfl
    | false => exact absurd (Str.ext' (PyProof.Rows.strKind.total _ _ h1 h2)) h
theorem tupLt_tri : ∀ {xs ys : List Str}, xs ≠ ys → tupLt xs ys = !tupLt ys xs
  | [], [], h => absurd rfl h
  | [], _ :: _, _ => by simp [tupLt, lexRes]
  | _ :: _, [], _ => by simp [tupLt, lexRes]
  | a :: r, b :: t, h => by
    unfold tupLt lexRes
    by_cases e : a = b
    · subst e
      rw [if_pos rfl, if_pos rfl]
      have := tupLt_tri (xs := r) (ys := t) fun q => h (by rw [q])
      simpa [tupLt] using this
    · rw [if_neg e, if_neg (Ne.symm e)]
      exact cps_tri e
theorem tupLt_irr : ∀ (xs : List Str), tupLt xs xs = false
  | [] => by simp [tupLt, lexRes]
  | a :: r => by
    have := tupLt_irr r
    unfold tupLt lexRes
    rw [if_pos rfl]
    simpa [tupLt] using this
theorem tupLt_trans : ∀ {xs ys zs : List Str}, tupLt xs ys = true → tupLt ys zs = true → tupLt xs zs = true
  | [], [], _, h, _ => by simp [tupLt, lexRes] at h
  | [], _ :: _, [], _, h => by simp [tupLt, lexRes] at h
  | [], _ :: _, _ :: _, _, _ => by simp [tupLt, lexRes]
  | _ :: _, [], _, h, _ => by simp [tupLt, lexRes] at h
  | _ :: _, _ :: _, [], _, h => by simp [tupLt, lexRes] at h
  | a :: r, b :: t, c :: u, h1, h2 => by
    unfold tupLt lexRes at h1 h2 ⊢
    by_cases e1 : a = b
    · subst e1
      rw [if_pos rfl] at h1
      by_cases e2 : a = c
      · subst e2
        rw [if_pos rfl] at h2 ⊢
        have := tupLt_trans (xs := r) (ys := t) (zs := u) (by simpa [tupLt] using h1) (by simpa [tupLt] using h2)
        simpa [tupLt] using this
      · rw [if_neg e2] at h2 ⊢; exact h2
    · rw [if_neg e1] at h1
      by_cases e2 : b = c
      · subst e2; rw [if_neg e1]; exact h1
      · rw [if_neg e2] at h2
        have h3 : decide (a.cps.toList < c.cps.toList) = true := PyProof.Rows.strKind.trans _ _ _ h1 h2
        have e3 : a ≠ c := fun q => by subst q; have := PyProof.Rows.strKind.irrefl a.cps.toList; rw [show PyProof.Rows.strKind.blt a.cps.toList a.cps.toList = decide (a.cps.toList < a.cps.toList) from rfl, h3] at this; cases this
        rw [if_neg e3]; exact h3
theorem pw_adj {α : Type} {r : α → α → Prop} (ht : ∀ a b c, r a b → r b c → r a c) : ∀ (l : List α), (∀ (i : Nat) (a b : α), l[i]? = some a → l[i + 1]? = some b → r a b) → l.Pairwise r
  | [], _ => .nil
  | [x], _ => List.pairwise_singleton _ _
  | x :: y :: l, h => by
    have ih := pw_adj ht (y :: l) fun i a b ha hb => h (i + 1) a b ha hb
    have hxy := h 0 x y rfl rfl
    refine List.pairwise_cons.mpr ⟨fun z hz => ?_, ih⟩
    rcases List.mem_cons.mp hz with q | q
    · rw [q]; exact hxy
    · exact ht _ _ _ hxy (List.rel_of_pairwise_cons ih q)
theorem sortOrd_sorted {L : List (List Str)} (hn : L.Nodup) (h4 : L.length ≤ 4) : ((sortOrd L).map fun i => L.getD i []).Pairwise fun a b => tupLt a b = true := by
  have hp := sortOrd_perm L
  unfold sortOrd at hp ⊢
  by_cases h2 : L.length < 2
  · rw [if_pos h2]
    match L, h2 with
    | [], _ => exact .nil
    | [x], _ => exact List.pairwise_singleton _ _
  · rw [if_neg h2] at hp ⊢
    have inj : ∀ i j, i < L.length → j < L.length → i ≠ j → L.getD i [] ≠ L.getD j [] := fun i j hi hj hne e => hne ((List.getElem_inj hn).mp (by simpa [hi, hj] using e))
    have tri : ∀ i j, i < L.length → j < L.length → i ≠ j → tupLt (L.getD i []) (L.getD j []) = !tupLt (L.getD j []) (L.getD i []) := fun i j hi hj hne => tupLt_tri (inj i j hi hj hne)
    generalize hlt : (fun i j => tupLt (L.getD i []) (L.getD j [])) = lt at *
    have eqlt : ∀ i j, lt i j = tupLt (L.getD i []) (L.getD j []) := fun i j => by rw [← hlt]
    have agree : ∀ i j, i < L.length → j < L.length → lt i j = lt4 (lt 0 1) (lt 0 2) (lt 0 3) (lt 1 2) (lt 1 3) (lt 2 3) i j := fun i j hi hj => by
      have irr : ∀ i, lt i i = false := fun i => by rw [eqlt]; exact tupLt_irr _
      have t : ∀ i j, i < L.length → j < L.length → i ≠ j → lt i j = !lt j i := fun i j hi hj hne => by rw [eqlt, eqlt]; exact tri i j hi hj hne
      have hi4 : i < 4 := by lia
      have hj4 : j < 4 := by lia
      match i, j, hi4, hj4 with
      | 0, 0, _, _ => exact irr 0
      | 1, 1, _, _ => exact irr 1
      | 2, 2, _, _ => exact irr 2
      | 3, 3, _, _ => exact irr 3
      | 0, 1, _, _ => rfl
      | 0, 2, _, _ => rfl
      | 0, 3, _, _ => rfl
      | 1, 2, _, _ => rfl
      | 1, 3, _, _ => rfl
      | 2, 3, _, _ => rfl
      | 1, 0, _, _ => exact t 1 0 hi hj (by decide)
      | 2, 0, _, _ => exact t 2 0 hi hj (by decide)
      | 3, 0, _, _ => exact t 3 0 hi hj (by decide)
      | 2, 1, _, _ => exact t 2 1 hi hj (by decide)
      | 3, 1, _, _ => exact t 3 1 hi hj (by decide)
      | 3, 2, _, _ => exact t 3 2 hi hj (by decide)
    have tr : trans4 L.length (lt4 (lt 0 1) (lt 0 2) (lt 0 3) (lt 1 2) (lt 1 3) (lt 2 3)) = true := by
      unfold trans4
      simp only [List.all_eq_true, List.mem_range]
      intro i hi j hj k hk
      rw [← agree i j hi hj, ← agree j k hj hk, ← agree i k hi hk]
      cases h1 : lt i j with
      | false => rfl
      | true =>
        cases h2 : lt j k with
        | false => rfl
        | true =>
          rw [eqlt] at h1 h2 ⊢
          rw [tupLt_trans h1 h2]; rfl
    have sd : sorted4 L.length (lt4 (lt 0 1) (lt 0 2) (lt 0 3) (lt 1 2) (lt 1 3) (lt 2 3)) (kev (lt4 (lt 0 1) (lt 0 2) (lt 0 3) (lt 1 2) (lt 1 3) (lt 2 3)) (kas_sort L.length)) = true := by
      have h3 : L.length = 2 ∨ L.length = 3 ∨ L.length = 4 := by lia
      rcases h3 with q | q | q
      · rw [q] at tr ⊢; have := chk2 (lt 0 1) (lt 0 2) (lt 0 3) (lt 1 2) (lt 1 3) (lt 2 3); rw [tr] at this; simpa using this
      · rw [q] at tr ⊢; have := chk3 (lt 0 1) (lt 0 2) (lt 0 3) (lt 1 2) (lt 1 3) (lt 2 3); rw [tr] at this; simpa using this
      · rw [q] at tr ⊢; have := chk4 (lt 0 1) (lt 0 2) (lt 0 3) (lt 1 2) (lt 1 3) (lt 2 3); rw [tr] at this; simpa using this
    have hgood := g_sort (n := L.length) (by lia)
    rw [← kev_congr (fun i j hi hj => agree i j hi hj) hgood] at sd
    generalize hpp : kev lt (kas_sort L.length) = p at *
    have hps : p.size = L.length := by rw [← Array.length_toList, hp.length_eq, List.length_range]
    refine pw_adj (r := fun a b => tupLt a b = true) (fun a b c h1 h2 => tupLt_trans h1 h2) _ fun i a b ha hb => ?_
    rw [List.getElem?_map] at ha hb
    (refine el12 (Option.map_eq_some_iff.mp ha) fun x hx qq2 => ?_; subst qq2)
    (refine el12 (Option.map_eq_some_iff.mp hb) fun y hy qq2 => ?_; subst qq2)
    have hx' : x < L.length := by have := hp.mem_iff.mp (List.mem_of_getElem? hx); simpa using this
    have hy' : y < L.length := by have := hp.mem_iff.mp (List.mem_of_getElem? hy); simpa using this
    have hi1 : i + 1 < p.size := by rw [← Array.length_toList]; exact (List.getElem?_eq_some_iff.mp hy).1
    unfold sorted4 at sd
    have := List.all_eq_true.mp sd i (List.mem_range.mpr (by lia))
    have ex : p.getD i 0 = x := by
      rw [Array.getElem?_toList] at hx
      obtain ⟨h1, h2⟩ := Array.getElem?_eq_some_iff.mp hx
      simp [Array.getD, h1, h2]
    have ey : p.getD (i + 1) 0 = y := by
      rw [Array.getElem?_toList] at hy
      obtain ⟨h1, h2⟩ := Array.getElem?_eq_some_iff.mp hy
      simp [Array.getD, h1, h2]
    rw [ex, ey, ← agree x y hx' hy', eqlt] at this
    exact this
section
variable {C : Cx} {d : Nat} {sc : Scope} {ε : Env1} {μ μ' : Mem} {k k' : PostW} {kb : Bool → Mem → Prop} {kl : List W → Mem → Prop} {kf kf' : PostF}
theorem keys_tups {L : List Key} (h : ∀ x ∈ L, x.kind = 1) : ∃ ss : List (List Str), L = ss.map Key.t := by
  induction L with
  | nil => exact ⟨[], rfl⟩
  | cons k r ih =>
    obtain ⟨ss, e⟩ := ih fun x hx => h x (.tail _ hx)
    have h0 := h k (.head _)
    cases k with
    | t x => exact ⟨x :: ss, by rw [e]; rfl⟩
    | _ => cases h0
theorem getD_vals {P : Params} {F : PMap} : ∀ {L : List V} {vs : List Value}, Vals P F L vs → ∀ i, i < L.length → ∃ x, L[i]? = some x ∧ Val P F x (vs.getD i Value.none)
  | [], _, .nil, i, h => by cases h
  | _ :: _, _, .cons a b, i, h => by
    cases i with
    | zero => exact ⟨_, rfl, a⟩
    | succ i => exact getD_vals b i (by simpa using h)
theorem ord_vals {P : Params} {F : PMap} {L : List (List Str)} {vs : List Value} (hvs : Vals P F ((L.map Key.t).map Key.val) vs) : ∀ (ord : List Nat), (∀ i ∈ ord, i < L.length) → Vals P F ((ord.map fun i => L.getD i []).map fun xs => V.tup (xs.map V.str)) (ord.map fun i => vs.getD i Value.none)
  | [], _ => .nil
  | i :: r, h => by
    have hi := h i (.head _)
    refine el12 (getD_vals hvs i (by simpa using hi)) fun x e hx => ?_
    rw [List.getElem?_map, List.getElem?_map, List.getElem?_eq_getElem hi] at e
    have e := Option.some.inj e
    refine .cons ?_ (ord_vals hvs r fun j hj => h j (.tail _ hj))
    have : L.getD i [] = L[i] := by simp [hi]
    show Val P F (V.tup ((L.getD i []).map V.str)) (vs.getD i Value.none)
    rw [this]
    rw [← e] at hx; exact hx
theorem c_sortedT {ks : List Key} (h1 : ∀ x ∈ ks, x.kind = 1) (hne : Key.t [] ∉ ks) (hnd : ks.Nodup) (hz : ks.length < 64) (h : ∀ R : List (List Str), (R.map Key.t).Perm ks → (ks.length ≤ 4 → R.Pairwise fun a b => tupLt a b = true) → k (.v (.list (R.map fun xs => .tup (xs.map V.str)))) μ) :
    cCall C (d + 3) μ (.builtin "sorted") [.v (.set ks)] [] k := fun A F Z s us kws hA S hv hkw => by
  refine KwAt.i_nil hkw ?_
  refine WsAt.i1 hv fun u hu => ?_
  refine Calls.call_function_entry PyProof.Rows.kind_sorted PyProof.Rows.plain_sorted PyProof.Rows.entry_sorted (PyProof.Rows.args_sorted1 _) ?_
  unfold Builtin.«sorted»
  refine wpAny_bind (m := checkCount "sorted" 1 1 _) (wpAny_pure ?_)
  refine wpAny_bind (collect_set (d := d) hA.in1 S hu (by lia) fun L vs F' s' hP le S' hvs => ?_)
  obtain ⟨ss, hss⟩ := keys_tups (L := L) fun x hx => h1 x (hP.mem_iff.mp hx)
  subst hss
  have hlen : vs.length = ks.length := by rw [hvs.length, List.length_map, hP.length_eq]
  have hsl : ss.length = ks.length := by rw [← hP.length_eq, List.length_map]
  have hne' : ∀ x ∈ ss, x ≠ [] := fun x hx e => hne (hP.mem_iff.mp (e ▸ List.mem_map_of_mem (f := Key.t) hx))
  have hnd' : ss.Nodup := by
    have := hP.nodup_iff.mpr hnd
    exact (List.pairwise_map.mp this).imp fun hne e => hne (by rw [e])
  refine wpAny_bind (wpAny_newObj_type ?_ (by show vs.toArray.size ≤ sizeLine; rw [List.size_toArray, sizeLine_eq]; lia))
  refine el03 (fresh_none S') fun nF nZ nM => ?_
  have hoL : (s'.heap.push { cls := .type "list", data := .seq vs.toArray }).get? s'.heap.objs.size = some (PyProof.Rows.seqObj "list" vs.toArray 0) := Heap.get?_push_size _ rfl
  refine wpAny_bind (wpAny_holding (wpAny_call_entry PyProof.Rows.slot_list_sort ⟨_, hoL, rfl⟩ PyProof.Rows.entry_list_sort (sort_tups (F := F') hne' hvs (by lia) (fun a o e => Heap.get?_push_of_some _ (S'.fz a o e)) nF hoL ⟨_, rfl, ?_⟩) (PyProof.Rows.args_list_sort _)))
  have hperm := sortOrd_perm ss
  obtain ⟨e, he⟩ := PyProof.Rows.sortedHeap_at (out := ((sortOrd ss).map fun i => vs.getD i Value.none).toArray) hoL
  have hold : ∀ b o, s'.heap.get? b = some o → (PyProof.Rows.sortedHeap (s'.heap.push { cls := .type "list", data := .seq vs.toArray }) s'.heap.objs.size vs ((sortOrd ss).map fun i => vs.getD i Value.none).toArray).get? b = some o := fun b o q => by
    have hlt := Heap.lt_size q
    rw [PyProof.Rows.sortedHeap_old (Nat.ne_of_lt hlt) (by rw [Heap.size_push]; exact Nat.lt_succ_of_lt hlt)]
    exact Heap.get?_push_of_some _ q
  refine el13 (S'.newF (s' := { s' with heap := PyProof.Rows.sortedHeap (s'.heap.push { cls := .type "list", data := .seq vs.toArray }) s'.heap.objs.size vs ((sortOrd ss).map fun i => vs.getD i Value.none).toArray }) hold he rfl rfl) fun F'' le' hF S'' => ?_
  have hR : ((sortOrd ss).map fun i => ss.getD i []).Perm ss := by
    have e1 := hperm.map fun i => ss.getD i []
    have e2 : (List.range ss.length).map (fun i => ss.getD i []) = ss := by
      apply List.ext_getElem
      · simp
      · intro i q1 q2; simp [q2]
    rw [e2] at e1; exact e1
  refine wpAny_pure ⟨_, rfl, .v (.list (((sortOrd ss).map fun i => ss.getD i []).map fun xs => .tup (xs.map V.str))), F'', μ, h _ ((hR.map _).trans hP) (fun h4 => sortOrd_sorted hnd' (by lia)), le.trans le', S'', .list hF ?_⟩
  exact Vals.mono le' (ord_vals hvs _ fun i hi => by have := hperm.mem_iff.mp hi; simpa using this)
end
end
section
open PySem PySem.Calls
/-! the driver's helpers: the shape of a goal tells the rule -/
section
variable {C : Cx} {d : Nat} {sc : Scope} {ε : Env1} {μ : Mem} {k : PostW} {kf : PostF} {kb : Bool → Mem → Prop}
theorem seqK_next {rest : List Stmt} (h : cS C d sc ε μ rest kf) : seqK C d sc rest kf .next ε μ := h
theorem seqK_ret {rest : List Stmt} {w : W} (h : kf (.ret w) ε μ) : seqK C d sc rest kf (.ret w) ε μ := h
noncomputable def retK (k : PostW) : PostF := fun fl _ μ' => match fl with | .ret w => k w μ' | _ => k (.v .none) μ'
theorem retK_ret {w : W} (h : k w μ) : retK k (.ret w) ε μ := h
theorem retK_next (h : k (.v .none) μ) : retK k .next ε μ := h
theorem cS_let {st : Stmt} {rest : List Stmt} {kf : PostF} (h : let e := ε; let m := μ; cS1 C d sc e m st (seqK C d sc rest kf)) : cS C d sc ε μ (st :: rest) kf := cS_cons h
end
theorem cCall_enter {C : Cx} {d : Nat} {μ : Mem} {k : PostW} {f : Addr} {name qual : Str} {params : Arguments} {body : List Stmt} {scope : Scope} {dV kV doc pm cdv ct oc : Value} {an od : Option Addr} {osl : Array (Option Value)} {xs : List W} {kws : List (Str × W)} (bs : List (Str × W))
    (ho : C.K.lookup f = some ⟨oc, od, .func (PySem.W.fnOf name qual params body scope dV kV doc pm an cdv ct), osl⟩) (hcd : codeT C.K cdv qual = true)
    (hbind : ∀ F s vs kvs, C.K.In s.heap → WsAt C.P F xs vs → KwAt C.P F kws kvs → ∃ binds, BindsTo s (PySem.W.fnOf name qual params body scope dV kV doc pm an cdv ct) ⟨vs, kvs⟩ binds ∧ BindAt C.P F bs binds)
    (hkind : ((bs.map (·.1)).all fun y => scope.names.lookup y == some .local || scope.names.lookup y == some .cell) = true) (hn : decide (bs.map (·.1)).Nodup = true) (hfree : ∀ y ∈ scope.names, y.2 ≠ .free)
    (hco : scope.isCoroutine = false) (hgen : scope.isGenerator = false) (hk : scope.kind = .function)
    (h : cS C d scope bs μ body (retK k)) :
    cCall C (d + 1) μ (.ref f) xs kws k := by
  refine cCall_def ho hcd hbind ?_ (of_decide_eq_true hn) hfree hco hgen hk h
  rw [List.all_map] at hkind
  exact hkind
end
section
open PySem PySem.Calls
/-! ranges -/
noncomputable def rngV (a b : Int) : List V := (List.range (b - a).toNat).map fun (i : Nat) => .int (a + (i : Int))
theorem rngV_get {a b : Int} {i : Nat} {x : V} (h : (rngV a b)[i]? = some x) : i < (b - a).toNat ∧ x = .int (a + i) := by
  simp only [rngV, List.getElem?_map] at h
  by_cases q : i < (b - a).toNat
  · rw [List.getElem?_range q] at h
    cases h
    exact ⟨q, rfl⟩
  · rw [List.getElem?_eq_none (by simpa using q)] at h
    cases h
theorem rngV_none {a b : Int} {i : Nat} (h : (rngV a b)[i]? = none) : (b - a).toNat ≤ i := by
  simpa [rngV] using h
section
variable {C : Cx} {d : Nat} {sc : Scope} {ε : Env1} {μ : Mem} {k : PostW}
theorem rng_1 {n : Int} (h : k (.v (.rng 0 n)) μ) : cCall C d μ (.type "range") [.v (.int n)] [] k := fun A F Z s us kvs hA S hv hkv => by
  refine KwAt.i_nil hkv ?_
  refine WsAt.i1 hv fun u hu => ?_
  refine Val.i_int hu fun _ => ?_
  refine call_range_1 ?_
  obtain ⟨F', le, hF, S'⟩ := (S.tok (s.toks + 1 + 1)).pushF (o := { cls := .type "range", data := .fields #[.int 0 s.toks, .int n _, .int 1 (s.toks + 1)] }) rfl
  exact ⟨.v (.rng 0 n), F', μ, h, le, S', .rng hF⟩
theorem it_rng {a b : Int} (ha : -100000 < a) (ha' : a < 100000) (hb : -100000 < b) (hb' : b < 100000) : cIter C d μ (.v (.rng a b)) (· = rngV a b) := fun A F Z s v hA S hv => by
  refine Val.i_rng hv fun r t u x h1 => ?_
  have hne : r ≠ s.heap.objs.size := Nat.ne_of_lt (Heap.lt_size (S.fz _ _ h1))
  refine wpAny_pyIter_range (S.fz _ _ h1) (small_one (by lia) (by lia) (by lia) (by lia)) ⟨s.heap.objs.size, rngV a b,
    fun i o => o = { cls := .type "range_iterator", data := .fields #[rawInt (a + i), rawInt (Builtin.Range.rangeSize a b 1 - i), rawInt 1] }, F, _, rfl, rfl, .refl _, S.pushZ rfl, (fresh_none S).2.1, by simp, ?_⟩
  have hsz := rangeSize_one a b
  refine ⟨fun i o h => ⟨_, _, congrArg Obj.cls h, congrArg Obj.data h, by decide⟩, fun i x A s' Q E o hh hF ho hJ hx hQ => ?_, fun i A s' Q E o hh hF ho hJ hx hQ => ?_, fun i A s' Q E o ho hJ h => wpAny_pyIter_rangeiter (hJ ▸ ho) h⟩
  · obtain ⟨q, rfl⟩ := rngV_get hx
    refine wpAny_pyNext_range_item (hJ ▸ ho) (by rw [hsz]; split <;> lia) fun h' hit hs => ?_
    refine hQ _ h' _ _ (.int _ _) hs hit ?_
    rw [show a + (i : Int) + 1 = a + ((i + 1 : Nat) : Int) by lia, show Builtin.Range.rangeSize a b 1 - (i : Int) - 1 = Builtin.Range.rangeSize a b 1 - ((i + 1 : Nat) : Int) by lia]
  · have q := rngV_none hx
    exact wpAny_pyNext_range_end hh (hJ ▸ ho) (by rw [hsz]; split <;> lia) fun h' hs => hQ h' s'.toks hs
end
end
section
open PySem PySem.Calls
/-! a list comprehension whose elements are frozen and leave the memory as it was -/
section
variable {C : Cx} {d : Nat} {sc sc₀ : Scope} {ε : Env1} {μ : Mem} {k : PostW}
theorem cIfs.mono {ifs : List Expr} {kb kb' : Bool → Mem → Prop} (h : cIfs C d sc ε μ ifs kb) (hk : ∀ b m, kb b m → kb' b m) : cIfs C d sc ε μ ifs kb' := fun A env F Z s hA hs R S =>
  wpAny_mono (h A env F Z s hA hs R S) (fun b s' ⟨F', μ', a, x, y⟩ => ⟨F', μ', hk _ _ a, x, y⟩) fun _ _ e => e
theorem cE_listV {elt target iter : Expr} {ifs : List Expr} {pos : Pos} (hk : sc₀.kind = .function) (hn : decide (sc₀.names.map (·.1)).Nodup = true)
    (hfree : (sc₀.names.all fun x => x.2 != .free || (sc.names.lookup x.1 == some .cell || sc.names.lookup x.1 == some .free)) = true) (hs : ∀ env x, foldedSetIterable iter env x = pure x)
    (h : cE C d sc ε μ iter fun w μ₁ => ∃ P, cIter C d μ₁ w P ∧ ∀ items, P items → ∃ (p : V → Bool) (g : V → V), items.length < 100000 ∧
      (∀ x ∈ items, ∃ bs, cTgt C sc₀ target (.v x) bs ∧ ∀ acc L, cIfs C d (relS sc₀ sc) (bs ++ dropN sc₀ ε) ((acc, L) :: μ₁) ifs fun b m => b = p x ∧ m = (acc, L) :: μ₁ ∧
        (b = true → cE C d (relS sc₀ sc) (bs ++ dropN sc₀ ε) ((acc, L) :: μ₁) elt fun w m => w = .v (g x) ∧ m = (acc, L) :: μ₁)) ∧ k (.v (.list ((items.filter p).map g))) μ₁) :
    cE C d sc ε μ (.ListComp elt [⟨target, iter, ifs, 0⟩] sc₀ pos) k := by
  refine cE.fzR (cE_comp (compL_ok hk (of_decide_eq_true hn) hfree hs) (fun env => rfl) ?_)
  refine cE.mono h fun w μ₁ ⟨P, hi, hP⟩ => ⟨P, hi, fun items hpi => ?_⟩
  refine el23 (hP items hpi) fun p g hsz turn hk' => ?_
  refine fun acc => ⟨fun i m => m = (acc, .list ((((items.take i).filter p).map g).map .v)) :: μ₁, by simp, fun i x μ' hx hm => ?_, fun μ' hm => ?_⟩
  · subst hm
    have hlt : i < items.length := (List.getElem?_eq_some_iff.mp hx).1
    have htk : items.take (i + 1) = items.take i ++ [x] := by rw [List.take_add_one, hx]; rfl
    refine el12 (turn x (List.mem_of_getElem? hx)) fun bs ht hif => ?_
    refine ⟨bs, ht, cIfs.mono (hif acc _) fun b m ⟨hb, hm, he⟩ => ?_⟩
    subst hm
    refine ⟨fun q => u_list (cE.mono (he q) fun w m ⟨hw, hm⟩ => ?_), fun q => ?_⟩
    · subst hw
      subst hm
      refine v_append .here ?_ ?_
      · simp only [List.length_map]
        have := List.length_filter_le p (items.take i)
        have := List.length_take_le i items
        lia
      · show _ = _
        rw [htk, List.filter_append]
        simp [hb ▸ q]
    · show _ = _
      rw [htk, List.filter_append]
      simp [show p x = false from hb ▸ q]
  · subst hm
    rw [List.take_length]
    refine ⟨_, .v (.list ((items.filter p).map g)), μ₁, fz_obj (.head _) (.list (frozen_map _)) .here (FrzT.refl _), .put, hk'⟩
end
end
section
open PySem PySem.Calls
/-! any and all over frozen bools -/
section
variable {C : Cx} {d : Nat} {sc sc₀ : Scope} {ε : Env1} {μ : Mem} {k : PostW}
theorem Sim.weakZ {F Z Z' : PMap} {s : Shared} (S : Sim C F Z μ s) (le : PLe Z' Z) : Sim C F Z' μ s := by
  refine ⟨S.base, S.fz, fun a o e => S.zz a o (le a o e), fun a o e => S.dis a o (le a o e), fun a x hm => ?_, S.nod, S.os, S.gens⟩
  refine el03 (S.own a x hm) fun h1 h2 h3 => ?_
  refine ⟨h1, ?_, h3⟩
  cases e : Z' a with
  | none => rfl
  | some o => rw [le a o e] at h2; cases h2
theorem Iter.next {A : Around} {Z F₂ : PMap} {it : Addr} {items : List V} {J : Nat → Obj → Prop} {i : Nat} {o : Obj} {s : Shared} (hh : A.handled = none) (hit : Iter C F₂ it items J) (hz : Z it = none) (hi : i ≤ items.length)
    (S : Sim C F₂ (PSet Z it o) μ s) (hJ : J i o) {Q : Option Value → Shared → Prop} {E : Value → Shared → Prop}
    (h1 : ∀ (hlt : i < items.length) v s' o', Val C.P F₂ items[i] v → Sim C F₂ (PSet Z it o') μ s' → J (i + 1) o' → Q (some v) s')
    (h0 : i = items.length → ∀ s', Sim C F₂ Z μ s' → Q none s') : wpAny C.M A (pyNext (.ref it)) Q E s := by
  have hto : s.heap.get? it = some o := S.zz _ _ (PSet.self ..)
  rcases Nat.lt_or_ge i items.length with hlt | hge
  · have hx : items[i]? = some items[i] := List.getElem?_eq_getElem hlt
    refine hit.item i _ A s _ _ o hh S.fz hto hJ hx fun v h' o' tk hv hsb ho' hJ' => ?_
    have S' : Sim C F₂ (PSet Z it o') μ { s with heap := h', toks := tk } := by
      have := S.setZ (a := it) (PSet.self ..) hsb ho' tk
      rw [PSet.twice] at this; exact this
    exact h1 hlt v _ o' hv S' hJ'
  · have hx : items[i]? = none := List.getElem?_eq_none_iff.mpr hge
    refine hit.done i A s _ _ o hh S.fz hto hJ hx fun h' tk hk' => ?_
    refine h0 (by lia) _ (S.but ⟨o, PSet.self ..⟩ (fun b ob e => ?_) hz hk' tk)
    have ne : b ≠ it := fun q => by rw [q, hz] at e; cases e
    rw [PSet.ne _ _ ne]; exact e
theorem any_loop {A : Around} {Z F₂ : PMap} {it : Addr} {bs : List Bool} {J : Nat → Obj → Prop} (hA : Rm A d) (hit : Iter C F₂ it (bs.map .bool) J) (hz : Z it = none)
    {R : Result → Shared → Prop} : ∀ (m i : Nat) (o : Obj) (s : Shared), bs.length - i = m → i ≤ bs.length → Sim C F₂ (PSet Z it o) μ s → J i o →
      (∀ s', Sim C F₂ Z μ s' → R (.ok (.ret (.bool ((bs.drop i).any id)))) s') →
      codeAny C.M A (.builtin "any.loop" ⟨[.ref it], []⟩) R s := less fun m ih i o s hmi hi S hJ hR => by
    refine codeAny_builtin PySem.F.entry_any_loop ?_
    rw [Around.under_plainId PySem.F.plain_any_loop _]
    show wpAny _ A.in1 (pyNext (.ref it) >>= _) _ _ s
    refine wpAny_bind (Iter.next (A := A.in1) hA.hd hit hz (by simpa using hi) S hJ (fun hlt v s' o' hv S' hJ' => ?_) fun e s' S' => ?_)
    · have hlt' : i < bs.length := by simpa using hlt
      rw [List.getElem_map] at hv
      refine Val.i_bool hv ?_
      refine wpAny_bind (wpAny_holding (wpAny_truthy_bool ?_))
      refine wpAny_bind (wpAny_letGo ?_)
      have hd : bs.drop i = bs[i] :: bs.drop (i + 1) := List.drop_eq_getElem_cons hlt'
      cases hb : bs[i] with
      | false =>
        (first | rw [if_neg Bool.false_ne_true] | simp only [Bool.false_eq_true, if_false])
        refine wpAny_pure ⟨plainId_quiet PySem.F.plain_any_loop _, ih (bs.length - (i + 1)) (by lia) (i + 1) o' s' rfl (by lia) S' hJ' fun s'' S'' => ?_⟩
        have := hR s'' S''
        rw [hd, List.any_cons, hb] at this
        exact this
      | true =>
        (first | rw [if_pos (rfl : true = true)] | simp only [if_true])
        refine wpAny_bind (wpAny_rule (wpAny_pure ?_))
        have := hR s' (S'.weakZ (PSet.le hz))
        rw [hd, List.any_cons, hb] at this
        exact this
    · refine wpAny_bind (wpAny_rule (wpAny_pure ?_))
      have := hR s' S'
      rw [List.drop_of_length_le (by simp at e; lia)] at this
      exact this
theorem c_any {bs : List Bool} (h : k (.v (.bool (bs.any id))) μ) : cCall C (d + 2) μ (.builtin "any") [.v (.list (bs.map .bool))] [] k := fun A F Z s us kvs hA S hv hkv => by
  refine KwAt.i_nil hkv ?_
  refine WsAt.i1 hv fun u hu => ?_
  refine call_function_tree PySem.F.kind_any PySem.F.plain_any PySem.F.entry_any (PySem.F.args_any1 _) ?_
  unfold Builtin.«any»
  refine wpAny_bind (m := oneArg "any" _) (wpAny_pure ?_)
  refine wpAny_bind (wpAny_mono (it_list (C := C) (μ := μ) (d := d + 1) A.in1 F Z s u hA.in1 S hu) (fun it s₂ h₂ => ?_) fun _ _ e => e.elim)
  obtain ⟨I, items, J, F', o, rfl, rfl, le, S', hz, hJ, hit⟩ := h₂
  refine wpAny_pure ⟨plainId_quiet PySem.F.plain_any_loop _, any_loop hA hit hz bs.length 0 o s₂ (by lia) (by lia) S' hJ fun s' S'' => ?_⟩
  exact ⟨.v (.bool (bs.any id)), F', μ, h, le, S'', .bool _⟩
end
end
section
open PySem PySem.Calls
/-! comprehensions over range(n), with values as elements -/
theorem rngV_zero (n : Nat) : rngV 0 n = (List.range n).map fun (i : Nat) => .int i := by
  unfold rngV
  simp
noncomputable def natOf : V → Nat
  | .int i => i.toNat
  | _ => 0
section
variable {C : Cx} {d : Nat} {sc sc₀ : Scope} {ε : Env1} {μ : Mem} {k : PostW}
theorem cE_listR1 {elt iter test : Expr} {x : Str} {px pos : Pos} (hk : sc₀.kind = .function) (hn : decide (sc₀.names.map (·.1)).Nodup = true)
    (hfree : (sc₀.names.all fun x => x.2 != .free || (sc.names.lookup x.1 == some .cell || sc.names.lookup x.1 == some .free)) = true) (hs : ∀ env x, foldedSetIterable iter env x = pure x)
    (hx : sc₀.names.lookup x = some .local ∨ sc₀.names.lookup x = some .cell)
    (h : cE C d sc ε μ iter fun w μ₁ => ∃ (n : Nat), w = .v (.rng 0 n) ∧ n < 1000 ∧ ∃ (p : Nat → Bool) (g : Nat → V),
      (∀ i, i < n → ∀ acc L, cT C d (relS sc₀ sc) ((x, .v (.int i)) :: dropN sc₀ ε) ((acc, L) :: μ₁) test fun b m => b = p i ∧ m = (acc, L) :: μ₁ ∧
        (b = true → cE C d (relS sc₀ sc) ((x, .v (.int i)) :: dropN sc₀ ε) ((acc, L) :: μ₁) elt fun w m => w = .v (g i) ∧ m = (acc, L) :: μ₁)) ∧ k (.v (.list (((List.range n).filter p).map g))) μ₁) :
    cE C d sc ε μ (.ListComp elt [⟨.Name x px, iter, [test], 0⟩] sc₀ pos) k := by
  refine cE_listV hk hn hfree hs (cE.mono h fun w μ₁ hq => ?_)
  (refine el13 hq fun n hw hn' qr => ?_; try clear hq; refine el22 qr fun p g turn hk' => ?_; try clear qr)
  subst hw
  refine ⟨_, it_rng (by decide) (by decide) (by lia) (by lia), fun items e => ⟨fun y => p (natOf y), fun y => g (natOf y), ?_, fun y hy => ?_, ?_⟩⟩
  · rw [e, rngV_zero]; simp; lia
  · rw [e, rngV_zero] at hy
    (refine el12 (List.mem_map.mp hy) fun i hi qq2 => ?_; subst qq2)
    have hi' : i < n := by simpa using hi
    exact ⟨[(x, .v (.int i))], tgt_name hx, fun acc L => ifs_one (turn i hi' acc L)⟩
  · rw [e, rngV_zero, List.filter_map, List.map_map]
    exact hk'
theorem cE_listR0 {elt iter : Expr} {x : Str} {px pos : Pos} (hk : sc₀.kind = .function) (hn : decide (sc₀.names.map (·.1)).Nodup = true)
    (hfree : (sc₀.names.all fun x => x.2 != .free || (sc.names.lookup x.1 == some .cell || sc.names.lookup x.1 == some .free)) = true) (hs : ∀ env x, foldedSetIterable iter env x = pure x)
    (hx : sc₀.names.lookup x = some .local ∨ sc₀.names.lookup x = some .cell)
    (h : cE C d sc ε μ iter fun w μ₁ => ∃ (n : Nat), w = .v (.rng 0 n) ∧ n < 1000 ∧ ∃ (g : Nat → V),
      (∀ i, i < n → ∀ acc L, cE C d (relS sc₀ sc) ((x, .v (.int i)) :: dropN sc₀ ε) ((acc, L) :: μ₁) elt fun w m => w = .v (g i) ∧ m = (acc, L) :: μ₁) ∧ k (.v (.list ((List.range n).map g))) μ₁) :
    cE C d sc ε μ (.ListComp elt [⟨.Name x px, iter, [], 0⟩] sc₀ pos) k := by
  refine cE_listV hk hn hfree hs (cE.mono h fun w μ₁ hq => ?_)
  (refine el13 hq fun n hw hn' qr => ?_; try clear hq; refine el12 qr fun g turn hk' => ?_; try clear qr)
  subst hw
  refine ⟨_, it_rng (by decide) (by decide) (by lia) (by lia), fun items e => ⟨fun y => true, fun y => g (natOf y), ?_, fun y hy => ?_, ?_⟩⟩
  · rw [e, rngV_zero]; simp; lia
  · rw [e, rngV_zero] at hy
    (refine el12 (List.mem_map.mp hy) fun i hi qq2 => ?_; subst qq2)
    have hi' : i < n := by simpa using hi
    exact ⟨[(x, .v (.int i))], tgt_name hx, fun acc L => ifs_nil ⟨rfl, rfl, fun _ => turn i hi' acc L⟩⟩
  · rw [e, rngV_zero, List.filter_map, List.map_map, List.filter_eq_self.mpr (by intros; rfl)]
    exact hk'
end
section
variable {C : Cx} {d : Nat} {μ : Mem} {k : PostW}
theorem c_anyF {α : Type} {l : List α} {f : α → Bool} (h : k (.v (.bool ((l.map f).any id))) μ) : cCall C (d + 2) μ (.builtin "any") [.v (.list (l.map fun x => .bool (f x)))] [] k := by
  have := c_any (C := C) (d := d) (bs := l.map f) h
  rw [List.map_map] at this
  exact this
end
noncomputable def rowV (f : Nat → Bool) : V := .list ((List.range 4).map fun j => .bool (f j))
noncomputable def matV (f : Nat → Nat → Bool) : V := .list ((List.range 4).map fun i => rowV (f i))
section
variable {C : Cx} {d : Nat} {sc sc₀ : Scope} {ε : Env1} {μ : Mem} {k : PostW}
theorem i_mat {f : Nat → Nat → Bool} {i : Nat} (hi : i < 4) (h : k (.v (rowV (f i))) μ) : SubOk C μ (.v (matV f)) ∧ cV2 C d μ (.v (matV f)) (.v (.int i)) getItem k :=
  ⟨sub_list, v_item_list (x := rowV (f i)) (by lia) (by lia) (by simp [hi]) h⟩
theorem i_row {f : Nat → Bool} {i : Nat} (hi : i < 4) (h : k (.v (.bool (f i))) μ) : SubOk C μ (.v (rowV f)) ∧ cV2 C d μ (.v (rowV f)) (.v (.int i)) getItem k :=
  ⟨sub_list, v_item_list (x := .bool (f i)) (by lia) (by lia) (by simp [hi]) h⟩
end
end
section
open PySem PySem.Calls
/-! a dict comprehension whose keys are its items and whose values are frozen -/
section
variable {C : Cx} {d : Nat} {sc sc₀ : Scope} {ε : Env1} {μ : Mem} {k : PostW}
theorem cE_dictV {kx vx target iter : Expr} {pos : Pos} (hk : sc₀.kind = .function) (hn : decide (sc₀.names.map (·.1)).Nodup = true)
    (hfree : (sc₀.names.all fun x => x.2 != .free || (sc.names.lookup x.1 == some .cell || sc.names.lookup x.1 == some .free)) = true) (hs : ∀ env x, foldedSetIterable iter env x = pure x)
    (h : cE C d sc ε μ iter fun w μ₁ => ∃ P, cIter C d μ₁ w P ∧ ∀ items, P items → ∃ (L : List Key) (g : Key → V) (κ : Nat), items = L.map Key.val ∧ L.Nodup ∧ (∀ x ∈ L, x.kind = κ) ∧ κ ≠ 2 ∧ L.length < 1000 ∧
      (∀ key ∈ L, ∃ bs, cTgt C sc₀ target (.v key.val) bs ∧ ∀ acc D, cE C d (relS sc₀ sc) (bs ++ dropN sc₀ ε) ((acc, D) :: μ₁) kx fun w m => w = .v key.val ∧
        cE C d (relS sc₀ sc) (bs ++ dropN sc₀ ε) m vx fun w m => w = .v (g key) ∧ m = (acc, D) :: μ₁) ∧ k (.v (.dict (L.map fun key => (key, g key)))) μ₁) :
    cE C d sc ε μ (.DictComp kx vx [⟨target, iter, [], 0⟩] sc₀ pos) k := by
  refine cE.fzR (cE_comp (compD_ok hk (of_decide_eq_true hn) hfree hs) (fun env => rfl) ?_)
  refine cE.mono h fun w μ₁ ⟨P, hi, hP⟩ => ⟨P, hi, fun items hpi => ?_⟩
  (refine el37 (hP items hpi) fun L g κ qq3 hnd hkd hκ hsz turn hk' => ?_; subst qq3)
  refine fun acc => ⟨fun i m => m = (acc, .dict ((L.take i).map fun key => (key, .v (g key)))) :: μ₁, by simp, fun i x μ' hx hm => ?_, fun μ' hm => ?_⟩
  · subst hm
    rw [List.getElem?_map] at hx
    (refine el12 (Option.map_eq_some_iff.mp hx) fun key hkey qq2 => ?_; subst qq2)
    have hlt : i < L.length := (List.getElem?_eq_some_iff.mp hkey).1
    have htk : L.take (i + 1) = L.take i ++ [key] := by rw [List.take_add_one, hkey]; rfl
    refine el12 (turn key (List.mem_of_getElem? hkey)) fun bs ht hif => ?_
    refine ⟨bs, ht, ifs_nil ⟨fun _ => u_dict (cE.mono (hif acc _) fun w m ⟨hw, hv⟩ => ?_), fun q => by cases q⟩⟩
    subst hw
    refine cE.mono hv fun w m hq => ?_
    obtain ⟨hw, hm⟩ := hq
    subst hw
    subst hm
    have hout : key ∉ ((L.take i).map fun key => (key, W.v (g key))).map (·.1) := by
      rw [List.map_map, show ((fun x : Key × W => x.1) ∘ fun key => (key, W.v (g key))) = id from rfl, List.map_id]
      intro h2
      have h3 := hnd
      rw [← List.take_append_drop i L] at h3
      have h4 : key ∈ L.drop i := by
        rw [List.drop_eq_getElem_cons hlt]
        have := (List.getElem?_eq_some_iff.mp hkey).2
        rw [this]; exact .head _
      exact (List.nodup_append.mp h3).2.2 key h2 key h4 rfl
    refine ds_dict .here ?_ ?_ ?_ ?_
    · intro p hp
      (refine el12 (List.mem_map.mp hp) fun y hy qq2 => ?_; subst qq2)
      rw [hkd y (List.mem_of_mem_take hy), hkd key (List.mem_of_getElem? hkey)]
    · rw [hkd key (List.mem_of_getElem? hkey)]; exact hκ
    · simp only [List.length_map]
      have := List.length_take_le i L
      lia
    · show _ = _
      rw [kput_new hout, htk, List.map_append]
      rfl
  · subst hm
    rw [List.length_map, List.take_length]
    refine ⟨_, .v (.dict (L.map fun key => (key, g key))), μ₁, fz_obj (.head _) (.dict ?_) .here (FrzT.refl _), .put, hk'⟩
    have := frozenD_map (L.map fun key => (key, g key))
    rw [List.map_map] at this
    exact this
end
end
section
open PySem PySem.Calls
/-! four letters, and the sets of them -/
theorem perm_of_mem {α : Type} [DecidableEq α] {l₁ l₂ : List α} (h₁ : l₁.Nodup) (h₂ : l₂.Nodup) (h : ∀ x, x ∈ l₁ ↔ x ∈ l₂) : l₁.Perm l₂ := by
  rw [List.perm_iff_count]
  intro a
  rw [h₁.count, h₂.count]
  simp only [h a]
noncomputable def nm (i : Nat) : Str := ⟨#[65 + i]⟩
noncomputable def nmK (i : Nat) : Key := .s (nm i)
theorem nm_inj {i j : Nat} (h : nm i = nm j) : i = j := by
  have h' : (65 + i) = 65 + j := by
    have := congrArg (fun x : Str => x.cps[0]?) h
    simpa [nm] using this
  lia
theorem nmK_inj {i j : Nat} (h : nmK i = nmK j) : i = j := by
  unfold nmK at h
  injection h with h
  exact nm_inj h
theorem nm_sorted {i j : Nat} (h : i < j) : ¬ (nm j).cps.toList < (nm i).cps.toList := by
  show ¬ ([65 + j] : List Nat) < [65 + i]
  rw [List.cons_lt_cons_iff]
  rintro (q | ⟨q, _⟩) <;> lia
noncomputable def pick (f : Nat → Bool) : List Nat := (List.range 4).filter f
theorem pick_pw (f : Nat → Bool) : (pick f).Pairwise (· < ·) := List.pairwise_lt_range.filter _
theorem pick_mem {f : Nat → Bool} {j : Nat} : j ∈ pick f ↔ j < 4 ∧ f j = true := by simp [pick]
theorem pick_nodup (f : Nat → Bool) : (pick f).Nodup := (pick_pw f).imp fun h => Nat.ne_of_lt h
theorem map_nodup {α β : Type} {g : α → β} {l : List α} (hi : ∀ x ∈ l, ∀ y ∈ l, g x = g y → x = y) (h : l.Nodup) : (l.map g).Nodup := by
  rw [List.Nodup, List.pairwise_map]
  exact List.Pairwise.imp_of_mem (fun {a b} ha hb hne q => hne (hi a ha b hb q)) h
structure SetIs (K : Nat → Key) (ks : List Key) (f : Nat → Bool) : Prop where
  nd : ks.Nodup
  mem : ∀ key, key ∈ ks ↔ ∃ j, j < 4 ∧ f j = true ∧ key = K j
structure Naming (K : Nat → Key) : Prop where
  inj : ∀ i j, i < 4 → j < 4 → K i = K j → i = j
  kind : ∃ κ, κ ≠ 2 ∧ ∀ i, (K i).kind = κ
theorem naming_nm : Naming nmK := ⟨fun i j _ _ h => nmK_inj h, 0, by decide, fun _ => rfl⟩
theorem SetIs.perm {K : Nat → Key} {ks : List Key} {f : Nat → Bool} (N : Naming K) (h : SetIs K ks f) : ks.Perm ((pick f).map K) := by
  refine perm_of_mem h.nd (map_nodup (fun x hx y hy q => N.inj x y (pick_mem.mp hx).1 (pick_mem.mp hy).1 q) (pick_nodup f)) fun x => ?_
  rw [h.mem, List.mem_map]
  exact ⟨fun ⟨j, a, b, c⟩ => ⟨j, pick_mem.mpr ⟨a, b⟩, c.symm⟩, fun ⟨j, a, c⟩ => ⟨j, (pick_mem.mp a).1, (pick_mem.mp a).2, c.symm⟩⟩
theorem pick_len (f : Nat → Bool) : (pick f).length ≤ 4 := by
  have := List.length_filter_le f (List.range 4)
  simpa [pick] using this
theorem SetIs.len {K : Nat → Key} {ks : List Key} {f : Nat → Bool} (N : Naming K) (h : SetIs K ks f) : ks.length ≤ 4 := by
  rw [(h.perm N).length_eq, List.length_map]; exact pick_len f
noncomputable def sOf : Key → Str
  | .s x => x
  | _ => ⟨#[]⟩
theorem str_antisymm {a b : Str} (h₁ : ¬ b.cps.toList < a.cps.toList) (h₂ : ¬ a.cps.toList < b.cps.toList) : a = b := by
  have : a.cps.toList = b.cps.toList := List.le_antisymm h₁ h₂
  cases a; cases b
  congr 1
  exact Array.toList_inj.mp this
theorem SetIs.sorted {ks : List Key} {f : Nat → Bool} (h : SetIs nmK ks f) {L : List Str} (hp : (L.map Key.s).Perm ks) (hs : StrSorted L) : L = (pick f).map nm := by
  have p1 := (hp.trans (h.perm naming_nm)).map sOf
  rw [List.map_map, List.map_map, show sOf ∘ Key.s = id from rfl, List.map_id, show sOf ∘ nmK = nm from rfl] at p1
  refine List.Perm.eq_of_pairwise (le := fun a b : Str => ¬ b.cps.toList < a.cps.toList) (fun a b _ _ => str_antisymm) hs ?_ p1
  rw [List.pairwise_map]
  exact (pick_pw f).imp fun h => nm_sorted h
theorem SetIs.kind {K : Nat → Key} {ks : List Key} {f : Nat → Bool} {κ : Nat} (h : SetIs K ks f) (hκ : ∀ i, (K i).kind = κ) : ∀ x ∈ ks, x.kind = κ := fun x hx => by
  (refine el13 ((h.mem x).mp hx) fun j _ _ qq3 => ?_; subst qq3)
  exact hκ j
noncomputable def gV (K : Nat → Key) (dom : List Nat) (ks : Nat → List Key) : V := .dict (dom.map fun i => (K i, .set (ks i)))
theorem gV_has {K : Nat → Key} {dom : List Nat} {ks : Nat → List Key} {μ : Mem} : Has μ (.v (gV K dom ks)) (.dict (dom.map fun i => (K i, .v (.set (ks i))))) := by
  show O.dict _ = O.dict _
  rw [List.map_map]
  rfl
section
variable {C : Cx} {d : Nat} {μ : Mem} {k : PostW} {K : Nat → Key} {dom : List Nat} {ks : Nat → List Key}
theorem gV_kind (N : Naming K) (i : Nat) : (∀ p ∈ dom.map fun i => (K i, W.v (.set (ks i))), p.1.kind = (K i).kind) ∧ (K i).kind ≠ 2 := by
  refine el12 (N.kind) fun κ h2 hκ => ?_
  refine ⟨fun p hp => ?_, by rw [hκ]; exact h2⟩
  (refine el12 (List.mem_map.mp hp) fun j _ qq2 => ?_; subst qq2)
  rw [hκ, hκ]
theorem g_item (N : Naming K) {i : Nat} (hi : i ∈ dom) (h : k (.v (.set (ks i))) μ) : SubOk C μ (.v (gV K dom ks)) ∧ cV2 C d μ (.v (gV K dom ks)) (.v (K i).val) getItem k :=
  ⟨sub_dict gV_has, v_itemD gV_has (gV_kind (dom := dom) (ks := ks) N i).1 (gV_kind (dom := dom) (ks := ks) N i).2 (List.mem_map.mpr ⟨i, hi, rfl⟩) h⟩
theorem g_keys (i : Nat) : (K i) ∈ (dom.map fun i => (K i, W.v (.set (ks i)))).map (·.1) ↔ ∃ j ∈ dom, K j = K i := by
  rw [List.map_map, List.mem_map]
  rfl
theorem g_in (N : Naming K) (hd : ∀ i ∈ dom, i < 4) {i : Nat} (hi : i < 4) (h : k (.v (.bool (decide (i ∈ dom)))) μ) : cV2 C d μ (.v (K i).val) (.v (gV K dom ks)) (compareOp .In) k := by
  refine v_inD gV_has (gV_kind (dom := dom) (ks := ks) N i).1 (gV_kind (dom := dom) (ks := ks) N i).2 ?_
  have e : decide (K i ∈ (dom.map fun i => (K i, W.v (.set (ks i)))).map (·.1)) = decide (i ∈ dom) := by
    rw [decide_eq_decide, g_keys]
    exact ⟨fun ⟨j, a, b⟩ => N.inj j i (hd j a) hi b ▸ a, fun a => ⟨i, a, rfl⟩⟩
  rw [e]; exact h
theorem g_get (N : Naming K) (hd : ∀ i ∈ dom, i < 4) {i : Nat} (hi : i < 4) {w : W} (h1 : i ∈ dom → k (.v (.set (ks i))) μ) (h0 : i ∉ dom → k w μ) : cCall C d μ (.builtin "dict.get") [.v (gV K dom ks), .v (K i).val, w] [] k := by
  refine c_getD gV_has (gV_kind (dom := dom) (ks := ks) N i).1 (gV_kind (dom := dom) (ks := ks) N i).2 (fun hn => h0 fun q => hn ((g_keys i).mpr ⟨i, q, rfl⟩)) fun u hu => ?_
  refine el12 (List.mem_map.mp hu) fun j hj e => ?_
  have e1 : K j = K i := congrArg Prod.fst e
  have e2 : W.v (.set (ks j)) = u := congrArg Prod.snd e
  have := N.inj j i (hd j hj) hi e1
  subst this
  rw [← e2]
  exact h1 hj
end
end
section
open PySem PySem.Calls
/-! names kept over a loop's turn -/
noncomputable def looks (ε' ε : Env1) : List Str → Prop
  | [] => True
  | n :: r => ε.lookup n = ε'.lookup n ∧ looks ε' ε r
theorem looks_mem {ε' ε : Env1} : ∀ {l : List Str}, looks ε' ε l → ∀ n ∈ l, ε.lookup n = ε'.lookup n
  | [], _, _, h => by cases h
  | a :: r, h, n, hn => by
    rcases List.mem_cons.mp hn with rfl | hn
    · exact h.1
    · exact looks_mem h.2 n hn
theorem lookup_none_of {ε : Env1} {x : Str} (h : x ∉ ε.map (·.1)) : ε.lookup x = none := by
  induction ε with
  | nil => rfl
  | cons p r ih =>
    obtain ⟨n, w⟩ := p
    simp only [List.map_cons, List.mem_cons, not_or] at h
    rw [lookup_cons_ne h.1]
    exact ih h.2
theorem look_sub {ε' ε : Env1} (h : looks ε' ε (ε'.map (·.1))) : ∀ x w, ε'.lookup x = some w → ε.lookup x = some w := fun x w e => by
  by_cases q : x ∈ ε'.map (·.1)
  · rw [looks_mem h x q]; exact e
  · rw [lookup_none_of q] at e; cases e
/-! what can be reached in a graph -/
inductive Reach (dom : List Nat) (f : Nat → Nat → Bool) (i : Nat) : Nat → Prop
  | refl : Reach dom f i i
  | step {j k : Nat} : Reach dom f i j → j ∈ dom → k < 4 → f j k = true → Reach dom f i k
noncomputable def SortOk (C : Cx) (K : Nat → Key) : Prop := ∀ (d : Nat) (μ : Mem) (ks : List Key) (k : PostW), ks.Nodup → (∀ x ∈ ks, ∃ j, j < 4 ∧ x = K j) →
  (∀ L : List Nat, (L.map K).Perm ks → (∀ j ∈ L, j < 4) → k (.v (.list (L.map fun j => (K j).val))) μ) → cCall C (d + 3) μ (.builtin "sorted") [.v (.set ks)] [] k
theorem nodup_len {K : Nat → Key} {ks : List Key} (hn : ks.Nodup) (h : ∀ x ∈ ks, ∃ j, j < 4 ∧ x = K j) : ks.length ≤ 4 := by
  have := (List.Nodup.length_le_of_subset hn (l₂ := (List.range 4).map K) fun x hx => by
    (refine el12 (h x hx) fun j hj qq2 => ?_; subst qq2)
    exact List.mem_map.mpr ⟨j, by simpa using hj, rfl⟩)
  simpa using this
theorem unname {K : Nat → Key} {α : Type} {g : α → Key} : ∀ {R : List α}, (∀ x ∈ R, ∃ j, j < 4 ∧ g x = K j) → ∃ L : List Nat, R.map g = L.map K ∧ ∀ j ∈ L, j < 4
  | [], _ => ⟨[], rfl, by simp⟩
  | x :: r, h => by
    refine el12 (unname (R := r) fun y hy => h y (.tail _ hy)) fun L e h4 => ?_
    refine el12 (h x (.head _)) fun j hj ej => ?_
    refine ⟨j :: L, by rw [List.map_cons, List.map_cons, e, ej], fun m hm => ?_⟩
    rcases List.mem_cons.mp hm with rfl | hm
    · exact hj
    · exact h4 m hm
theorem sortOk_nm {C : Cx} : SortOk C nmK := fun d μ ks k hn hj h => by
  refine c_sortedS (fun x hx => by (refine el12 (hj x hx) fun j _ qq2 => ?_; subst qq2); rfl) (by have := nodup_len hn hj; lia) fun R hR _ => ?_
  refine el12 (unname (R := R) (g := Key.s) (K := nmK) fun x hx => hj _ (hR.subset (List.mem_map_of_mem (f := Key.s) hx))) fun L e h4 => ?_
  have := h L (e ▸ hR) h4
  have e2 : R.map V.str = L.map fun j => (nmK j).val := by
    have := congrArg (List.map Key.val) e
    rw [List.map_map, List.map_map] at this
    exact this
  rw [e2]; exact this
noncomputable def tN : Str := "N"
noncomputable def tK (i : Nat) : Key := .t [tN, nm i]
theorem tK_inj {i j : Nat} (h : tK i = tK j) : i = j := by
  unfold tK at h
  injection h with h
  injection h with _ h
  injection h with h
  exact nm_inj h
theorem naming_t : Naming tK := ⟨fun i j _ _ h => tK_inj h, 1, by decide, fun _ => rfl⟩
theorem sortOk_t {C : Cx} : SortOk C tK := fun d μ ks k hn hj h => by
  refine c_sortedT (fun x hx => by (refine el12 (hj x hx) fun j _ qq2 => ?_; subst qq2); rfl) (fun q => by refine el12 (hj _ q) fun j _ e => ?_; cases e) hn (by have := nodup_len hn hj; lia) fun R hR _ => ?_
  refine el12 (unname (R := R) (g := Key.t) (K := tK) fun x hx => hj _ (hR.subset (List.mem_map_of_mem (f := Key.t) hx))) fun L e h4 => ?_
  have := h L (e ▸ hR) h4
  have e2 : (R.map fun xs => V.tup (xs.map V.str)) = L.map fun j => (tK j).val := by
    have := congrArg (List.map Key.val) e
    rw [List.map_map, List.map_map] at this
    exact this
  rw [e2]; exact this
section
variable {C : Cx} {d : Nat} {sc : Scope} {ε : Env1} {μ : Mem} {k : PostW} {kf : PostF}
theorem both_t {p q : Prop} (h : p) : (true = true → p) ∧ (true = false → q) := ⟨fun _ => h, fun e => nomatch e⟩
theorem both_f {p q : Prop} (h : q) : (false = true → p) ∧ (false = false → q) := ⟨(fun e => nomatch e), fun _ => h⟩
theorem both_ft {p q : Prop} (h : q) : (false = false → q) ∧ (false = true → p) := ⟨fun _ => h, fun e => nomatch e⟩
noncomputable def envOf (sc : Scope) : Env := { scope := sc, locals := 0, globals := 0, cells := [] }
theorem sw_at {e : Expr} {t : Option Expr} {l : Nat} {b : Bool} (h : swapsWith e t l (envOf sc) = pure b) (env : Env) (he : env.scope = sc) : swapsWith e t l env = pure b := by
  subst he; exact h
theorem forK_next {Inv J : Nat → Env1 → Mem → Prop} {i : Nat} {ε' : Env1} {μ' : Mem} (hJ : ∀ {i ε μ}, Inv i ε μ → J i ε μ) (hk : looks ε' ε (ε'.map (·.1))) (hm : μ'.Sublist μ) (h : Inv (i + 1) ε' μ') : forK J i kf .next ε μ := ⟨ε', μ', ⟨look_sub hk, hm⟩, hJ h⟩
theorem cFor_mk {t : Expr} {body : List Stmt} {items : List V} (Inv : Nat → Env1 → Mem → Prop) (h0 : Inv 0 ε μ)
    (turn : ∀ J : Nat → Env1 → Mem → Prop, (∀ {i ε μ}, Inv i ε μ → J i ε μ) → ∀ i x ε' μ', items[i]? = some x → Inv i ε' μ' → cAsg C d sc ε' μ' t (.v x) fun ε₁ μ₁ => cS C d sc ε₁ μ₁ body (forK J i kf))
    (fin : ∀ ε' μ', Inv items.length ε' μ' → kf .next ε' μ') : cFor C d sc ε μ t body items kf := ⟨Inv, h0, turn Inv id, fin⟩
theorem cS1_whileJ {test : Expr} {body : List Stmt} {pos : Pos} (Inv : Nat → Env1 → Mem → Prop) (n₀ : Nat) (h0 : Inv n₀ ε μ)
    (turn : ∀ J : Nat → Env1 → Mem → Prop, (∀ {i ε μ}, Inv i ε μ → J i ε μ) → ∀ n ε' μ', Inv n ε' μ' → cT C d sc ε' μ' test fun b μ₂ => (b = true → cS C d sc ε' μ₂ body (whK J n kf)) ∧ (b = false → kf .next ε' μ₂)) : cS1 C d sc ε μ (.While test body [] pos) kf := cS1_while Inv n₀ h0 (turn Inv id)
theorem cS1.join {st : Stmt} {kf' : PostF} (kj : PostF) (h : ∀ K : PostF, (∀ {f e m}, kj f e m → K f e m) → cS1 C d sc ε μ st K) (hk : ∀ f e m, kj f e m → kf' f e m) : cS1 C d sc ε μ st kf' := (h kj id).mono hk
theorem whK_next {Inv J : Nat → Env1 → Mem → Prop} {n m : Nat} {ε' : Env1} {μ' : Mem} (hJ : ∀ {i ε μ}, Inv i ε μ → J i ε μ) (hmn : m < n) (hk : looks ε' ε (ε'.map (·.1))) (hm : μ'.Sublist μ) (h : Inv m ε' μ') : whK J n kf .next ε μ := ⟨m, ε', μ', hmn, ⟨look_sub hk, hm⟩, hJ h⟩
theorem keep_and {fv : Value} {P : Prop} (hk : KeepOk C fv) (h : P) : KeepOk C fv ∧ P := ⟨hk, h⟩
theorem g_getF {K : Nat → Key} {dom : List Nat} {ks : Nat → List Key} {f : Nat → Nat → Bool} (N : Naming K) (hd : ∀ i ∈ dom, i < 4) (hs : ∀ i ∈ dom, SetIs K (ks i) (f i)) {j : Nat} (hj : j < 4) {a : Addr}
    (h : ∀ S : List Key, S.Nodup → (∀ x, x ∈ S ↔ j ∈ dom ∧ ∃ m, m < 4 ∧ f j m = true ∧ x = K m) → k (.v (.set S)) μ) :
    cCall C d ((a, .set []) :: μ) (.builtin "dict.get") [.v (gV K dom ks), .v (K j).val, .l a] [] k := by
  refine cCall.fzR (g_get N hd hj (fun hin => ?_) fun hout => ?_)
  · exact ⟨_, _, μ, Fz.weak (List.sublist_cons_self ..), rfl, h _ (hs j hin).nd fun x => ⟨fun q => ⟨hin, ((hs j hin).mem x).mp q⟩, fun q => ((hs j hin).mem x).mpr q.2⟩⟩
  · exact ⟨_, .v (.set []), μ, fz_obj (.head _) .set .here (FrzT.refl _), .put, h [] .nil fun x => ⟨(fun q => by cases q), (fun q => absurd q.1 hout)⟩⟩
theorem UpdAt.named {a : Addr} {x y : O} {μ μ₁ : Mem} (h : UpdAt a x y μ μ₁) : a ∈ μ.map (·.1) := List.mem_map_of_mem (f := (·.1)) h.mem
theorem UpdAt.uniq {a : Addr} {x y : O} {μ μ₁ μ₂ : Mem} (h₁ : UpdAt a x y μ μ₁) (h₂ : UpdAt a x y μ μ₂) (hn : (μ.map (·.1)).Nodup) : μ₁ = μ₂ := by
  induction h₁ generalizing μ₂ with
  | here =>
    cases h₂ with
    | here => rfl
    | there q => exact absurd q.named (List.nodup_cons.mp hn).1
  | there q ih =>
    cases h₂ with
    | here => exact absurd q.named (List.nodup_cons.mp hn).1
    | there q' => rw [ih q' (List.nodup_cons.mp hn).2]
theorem c_setaddU {a : Addr} {ks : List Key} {key : Key} (hm : (a, O.set ks) ∈ μ) (hkd : ∀ k' ∈ ks, k'.kind = key.kind) (hp : key.kind ≠ 2) (hz : ks.length + 1 < 400)
    (hin : key ∈ ks → k (.v .none) μ) (hout : key ∉ ks → ∀ ks', ks'.Perm (key :: ks) → ∃ μ', UpdAt a (.set ks) (.set ks') μ μ' ∧ k (.v .none) μ') : cCall C d μ (.builtin "set.add") [.l a, .v key.val] [] k := fun A F Z s vs kvs hA S hv hkv =>
  c_setadd (k := k) hm hkd hp hz hin (fun hn ks' μ' hp' hU => by
    refine el12 (hout hn ks' hp') fun μ'' hU' hk => ?_
    rw [hU.uniq hU' S.nod.1]; exact hk) A F Z s vs kvs hA S hv hkv
end
end
section
open PySem PySem.Calls
section
variable {C : Cx} {d : Nat} {μ : Mem} {k : PostW}
theorem isi_str {x : Str} {c : Addr} (e : PySem.W.isNotIn C.K "str" c = true) (h : k (.v (.bool false)) μ) : cCall C d μ (.builtin "isinstance") [.v (.str x), .v (.glob (.ref c))] [] k := fun A F Z s vs kvs hA S hv hkv => by
  refine KwAt.i_nil hkv ?_
  (refine el23 (hv.inv2) fun u v qq2 hu hv' => ?_; subst qq2)
  refine Val.i_str hu fun _ => ?_
  cases hv'
  exact PySem.W.isn_call (P := fun _ => True) S.kin (fun M => .of_pure rfl) e (by nofun) trivial PySem.W.str_cls ⟨.v (.bool false), F, μ, h, .refl _, S.tok _, .bool _⟩
theorem isi_inst {c : Addr} {fs : List (Str × V)} (e : PySem.W.isIn C.K (.ref c) c = true) (h : k (.v (.bool true)) μ) : cCall C d μ (.builtin "isinstance") [.v (.inst c fs), .v (.glob (.ref c))] [] k := fun A F Z s vs kvs hA S hv hkv => by
  refine KwAt.i_nil hkv ?_
  (refine el23 (hv.inv2) fun u v qq2 hu hv' => ?_; subst qq2)
  cases hv'
  refine Val.i_inst hu fun _ _ _ _ _ h1 h2 h3 h4 h5 => ?_
  exact PySem.W.isi_call S.kin (fun M => (S.inst h1 h2).type) e (by nofun) ⟨.v (.bool true), F, μ, h, .refl _, S, .bool _⟩
theorem isi_liststr {vs : List V} (h : k (.v (.bool false)) μ) : cCall C d μ (.builtin "isinstance") [.v (.list vs), .v (.glob (.type "str"))] [] k := fun A F Z s us kvs hA S hv hkv => by
  refine KwAt.i_nil hkv ?_
  (refine el23 (hv.inv2) fun u v qq2 hu hv' => ?_; subst qq2)
  cases hv'
  refine Val.i_list hu fun _ _ _ h1 h2 => ?_
  exact call_isinstance (isinstance_false_list (by decide) (by kernel_rfl) (by rw [isSubtype_type]; kernel_rfl)) ⟨⟨_, S.fz _ _ h1, rfl⟩, .v (.bool false), F, μ, h, .refl _, S.tok _, .bool _⟩
end
end
section
open PySem PySem.Calls
section
variable {C : Cx} {d : Nat} {sc : Scope} {ε : Env1} {μ : Mem} {k k' : PostW}
noncomputable def cCode (C : Cx) (d : Nat) (μ : Mem) (fv : Value) (xs : List W) (kws : List (Str × W)) (k : PostW) : Prop :=
  ∀ (A : Around) (F Z : PMap) (s : Shared) (vs : List Value) (kvs : List (Str × Value)), Rm A d → Sim C F Z μ s → WsAt C.P F xs vs → KwAt C.P F kws kvs →
    codeAny C.M A (.call fv ⟨vs, kvs⟩) (fun r s' => match r with | .ok (.ret v) => Post C Z k F v s' | .ok _ => False | .error _ => False) s
theorem cCode_def {f : Addr} {name qual : Str} {params : Arguments} {body : List Stmt} {scope : Scope} {dV kV doc pm cdv ct oc : Value} {an od : Option Addr} {osl : Array (Option Value)} {xs : List W} {kws : List (Str × W)} {bs : List (Str × W)}
    (ho : C.K.lookup f = some ⟨oc, od, .func (PySem.W.fnOf name qual params body scope dV kV doc pm an cdv ct), osl⟩) (hcd : codeT C.K cdv qual = true)
    (hbind : ∀ F s vs kvs, C.K.In s.heap → WsAt C.P F xs vs → KwAt C.P F kws kvs → ∃ binds, BindsTo s (PySem.W.fnOf name qual params body scope dV kV doc pm an cdv ct) ⟨vs, kvs⟩ binds ∧ BindAt C.P F bs binds)
    (hkind : (bs.all fun y => scope.names.lookup y.1 == some .local || scope.names.lookup y.1 == some .cell) = true) (hn : (bs.map (·.1)).Nodup) (hfree : ∀ y ∈ scope.names, y.2 ≠ .free)
    (hco : scope.isCoroutine = false) (hgen : scope.isGenerator = false) (hk : scope.kind = .function)
    (h : cS C d scope bs μ body fun fl _ μ' => match fl with | .ret w => k w μ' | _ => k (.v .none) μ') :
    cCode C (d + 1) μ (.ref f) xs kws k := fun A F Z s vs kvs hA S hv hkv => by
  refine el12 (hbind F s vs kvs S.kin hv hkv) fun binds hbt hba => ?_
  have hall : (binds.all fun y => scope.names.lookup y.1 == some .local || scope.names.lookup y.1 == some .cell) = true := by
    refine List.all_eq_true.mpr fun y hy => ?_
    have : y.1 ∈ bs.map (·.1) := hba.names ▸ List.mem_map_of_mem (f := (·.1)) hy
    refine el12 (List.mem_map.mp this) fun z hz e => ?_
    have := List.all_eq_true.mp hkind z hz
    rw [e] at this
    exact this
  refine codeAny_call_function (fd := PySem.W.fnOf name qual params body scope dV kV doc pm an cdv ct) (body := body) hA.lim (S.kin _ _ ho) rfl hco hgen rfl (PySem.W.codeRec_of S.kin (codeT_in hcd)) (hbt _ _ _ _ ?_)
  refine wpAny_newFunctionEnv_cells hk (PySem.W.kindsX hall _) fun env he s' x => ?_
  have keep := x.toInCall.keep
  refine ⟨S.lim.keeps keep, codeAny_func ?_⟩
  have hs : env.scope = scope := by subst he; rfl
  have SS : SimS C F Z μ s' env bs := by
    refine SimS.enter S hba hn (by rw [hs]; exact hk) (by subst he; rfl) ⟨by subst he; rfl, by subst he; exact CodeOk.of (q := qual) hcd⟩ (by rw [hs]; exact hfree) (by subst he; rfl) x
  have hA' : Rm (A.deeper env) d := ⟨hA.hd, by have := hA.dp; show A.depth + 1 + 2 * d + 2 < 700; lia, by have := hA.un; show A.units + 3 + 16 * d + 16 < cLine; lia⟩
  refine wpBot (h (A.deeper env) env F Z s' hA' hs SS) fun fl s₂ hq => ?_
  obtain ⟨fl', ε', μ', F', hk', hfl, le, S'⟩ := hq
  refine el13 S' fun S₀ S' _ _ => ?_
  cases fl' with
  | ret w => (refine el12 hfl fun v qq1 hw => ?_; try clear hfl; subst qq1); exact ⟨w, F', μ', hk', le, S'.dropZ, hw⟩
  | next => cases hfl; exact ⟨_, F', μ', hk', le, S'.dropZ, .none⟩
  | brk => cases hfl; exact ⟨_, F', μ', hk', le, S'.dropZ, .none⟩
  | cont => cases hfl; exact ⟨_, F', μ', hk', le, S'.dropZ, .none⟩
theorem Rm.under {A : Around} {d : Nat} {c : Addr} {vs : List Value} {kvs : List (Str × Value)} (h : Rm A (d + 1)) : Rm (A.under (.builtin "type.__call__" ⟨.ref c :: vs, kvs⟩)) d :=
  ⟨h.hd, by have := h.dp; show A.depth + 1 + 2 * d + 2 < 700; lia, by
    have := h.un
    have e : (A.under (.builtin "type.__call__" ⟨.ref c :: vs, kvs⟩)).units = A.units + (Code.builtin "type.__call__" ⟨.ref c :: vs, kvs⟩).cUnits := rfl
    have e2 : (Code.builtin "type.__call__" ⟨.ref c :: vs, kvs⟩).cUnits ≤ 3 := by first | exact Nat.le_trans (Nat.le_of_eq (rfl : _ = 1)) (by decide) | exact Nat.le_trans (Nat.le_of_eq (rfl : _ = 2)) (by decide) | exact Nat.le_trans (Nat.le_of_eq (rfl : _ = 3)) (by decide)
    lia⟩
theorem c_make {c fI : Addr} {xs : List W} {kws : List (Str × W)} (ok : ClsOk C c) (hi : PySem.W.findIn C.K (.ref c) "__init__" = some (some (.ref fI))) (hf : PySem.W.typeIn C.K (.ref fI) = some (.type "function"))
    (h : ∀ a dd, cCode C d ((a, .inst c dd) :: (dd, .ns []) :: μ) (.ref fI) (.l a :: xs) kws fun w μ' => w = .v .none ∧ k (.l a) μ') : cCall C (d + 1) μ (.ref c) xs kws k := fun A F Z s vs kvs hA S hv hkv => by
  refine wpAny_call ?_
  obtain ⟨hh, g, dr, t, os⟩ := s
  refine PySem.W.make_core (PySem.W.makes_of S.kin ok.mkk) (PySem.W.looks_findIn S.kin hi) (fun self => PySem.W.bind_fn S.kin self hf) (.inl rfl) ?_
  have hA' : Rm (A.under (.builtin "type.__call__" ⟨.ref c :: vs, kvs⟩)) d := hA.under
  have S1 := S.pushM (o := PySem.W.emptyDict) (x := .ns []) rfl ⟨#[], 0, rfl, (fun e hi => by simp at hi), by simp, fun x w q => by cases q⟩
  have S2 := S1.pushM (o := PySem.W.instObj c hh.objs.size) (x := .inst c hh.objs.size) rfl rfl
  rw [Heap.size_push] at S2
  exact codeAny_mono (h _ _ _ F Z _ _ kvs hA' S2 (.cons rfl hv) hkv) fun r s' q => by
    cases r with
    | error e => exact q.elim
    | ok f =>
      cases f with
      | ret v =>
        obtain ⟨x, F', μ', ⟨rfl, hk⟩, le, S', hx⟩ := q
        refine Val.i_none hx ?_
        exact ⟨rfl, _, F', μ', hk, le, S', rfl⟩
      | _ => exact q.elim
theorem cCode_enter {f : Addr} {name qual : Str} {params : Arguments} {body : List Stmt} {scope : Scope} {dV kV doc pm cdv ct oc : Value} {an od : Option Addr} {osl : Array (Option Value)} {xs : List W} {kws : List (Str × W)} (bs : List (Str × W))
    (ho : C.K.lookup f = some ⟨oc, od, .func (PySem.W.fnOf name qual params body scope dV kV doc pm an cdv ct), osl⟩) (hcd : codeT C.K cdv qual = true)
    (hbind : ∀ F s vs kvs, C.K.In s.heap → WsAt C.P F xs vs → KwAt C.P F kws kvs → ∃ binds, BindsTo s (PySem.W.fnOf name qual params body scope dV kV doc pm an cdv ct) ⟨vs, kvs⟩ binds ∧ BindAt C.P F bs binds)
    (hkind : ((bs.map (·.1)).all fun y => scope.names.lookup y == some .local || scope.names.lookup y == some .cell) = true) (hn : decide (bs.map (·.1)).Nodup = true) (hfree : ∀ y ∈ scope.names, y.2 ≠ .free)
    (hco : scope.isCoroutine = false) (hgen : scope.isGenerator = false) (hk : scope.kind = .function)
    (h : cS C d scope bs μ body (retK k)) :
    cCode C (d + 1) μ (.ref f) xs kws k := by
  refine cCode_def ho hcd hbind ?_ (of_decide_eq_true hn) hfree hco hgen hk h
  rw [List.all_map] at hkind
  exact hkind
end
end
section
open PySem PySem.Calls PyProof.Rows
noncomputable abbrev Cx.inGen (C : Cx) (g : Nat) : Cx := { C with gen := true, gs := (g, .running) :: C.gs }
theorem setGen_ne {s : Shared} {g k : Nat} {x : GenState} (h : k ≠ g) : (s.setGen g x).gens[k]? = s.gens[k]? := (GenOnly.setGen s g x).2 k h
theorem allBare_set {s : Shared} {g : Nat} {x : GenState} (h : AllBare s.gens) (hx : x.bare = true) : AllBare (s.setGen g x).gens := fun y hy => by
  obtain ⟨i, hi, rfl⟩ := Array.mem_iff_getElem.mp hy
  have hs : (s.setGen g x).gens.size = s.gens.size := (GenOnly.setGen s g x).1
  by_cases e : i = g
  · subst e
    have h1 : s.gens[i]? = some s.gens[i] := Array.getElem?_eq_getElem (by lia)
    have := setGen_self (x := x) h1
    rw [Array.getElem?_eq_getElem hi] at this
    rw [Option.some.inj this]; exact hx
  · have := setGen_ne (s := s) (x := x) e
    rw [Array.getElem?_eq_getElem hi, Array.getElem?_eq_getElem (by lia)] at this
    rw [Option.some.inj this]; exact h _ (Array.getElem_mem _)
section
variable {C : Cx} {μ : Mem} {F Z : PMap} {s : Shared} {g : Nat}
theorem Sim.into (S : Sim C F Z μ s) (hg : ∀ p ∈ C.gs, p.1 ≠ g) {gs : GenState} (hs : s.gens[g]? = some gs) : Sim (C.inGen g) F Z μ (s.setGen g .running) :=
  ⟨S.base, S.fz, S.zz, S.dis, S.own, S.nod, S.os, allBare_set S.gens.1 rfl, fun p hp => by
    rcases List.mem_cons.mp hp with rfl | hp
    · exact setGen_self hs
    · rw [setGen_ne (hg p hp)]; exact S.gens.2 p hp⟩
theorem Sim.outof (S : Sim (C.inGen g) F Z μ s) (hg : ∀ p ∈ C.gs, p.1 ≠ g) {x : GenState} (hx : x.bare = true) : Sim C F Z μ (s.setGen g x) ∧ (s.setGen g x).gens[g]? = some x :=
  ⟨⟨S.base, S.fz, S.zz, S.dis, S.own, S.nod, S.os, allBare_set S.gens.1 hx, fun p hp => by rw [setGen_ne (hg p hp)]; exact S.gens.2 p (.tail _ hp)⟩, setGen_self (S.gens.2 _ (.head _))⟩
theorem Iter.gen {it : Addr} {items : List V} {J : Nat → Obj → Prop} (h : Iter C F it items J) : Iter (C.inGen g) F it items J := ⟨h.shape, h.item, h.done, h.self⟩
end
theorem Rm.over {A : Around} {d : Nat} {c : Code} (h : Rm A (d + 1)) (hw : c.weight ≤ 1) (hu : c.cUnits ≤ 3) : Rm (A.over c []) d :=
  ⟨h.hd, by have := h.dp; show A.depth + 0 + c.weight + 2 * d + 2 < 700; lia, by
    have := h.un
    have e : (A.over c []).units = A.units + 0 + c.cUnits := rfl
    lia⟩
theorem PUn.nil (Z : PMap) : PUn Z (fun _ => none) = Z := by funext a; unfold PUn; simp
noncomputable def Zp (pr : List Addr) (Z : PMap) (s : Shared) : PMap := fun b => if b ∈ pr then s.heap.get? b else Z b
structure GIt (C : Cx) (F₀ Z : PMap) (g : Nat) (it L : Addr) (pr : List Addr) (items : List V) (J : Nat → Obj → Prop) (sc₀ : Scope) (cenv : Env) : Prop where
  iter : Iter C F₀ it items J
  zi : Z it = none
  zl : Z L = none
  ne : L ≠ it
  pi : it ∉ pr
  pl : L ∉ pr
  sc : cenv.scope = sc₀
  lo : cenv.locals = L
  gl : cenv.globals = mainGlobals
  bl : cenv.builtins = builtinsNs
  kd : sc₀.kind = .function
  nc : sc₀.names.all (fun y => y.2 != .cell && y.2 != .free) = true
  co : sc₀.isCoroutine = false
  gs : ∀ p ∈ C.gs, p.1 ≠ g
noncomputable def DictOk (o : Obj) : Prop := ∃ es n, o.data = .dict es n ∧ StrKeys es
section
variable {C : Cx} {d : Nat} {μ : Mem} {F₀ Z : PMap} {g : Nat} {it L : Addr} {pr : List Addr} {items : List V} {J : Nat → Obj → Prop} {sc₀ : Scope} {cenv : Env} {K : List V}
noncomputable def gR (C : Cx) (μ : Mem) (F₀ Z : PMap) (g : Nat) (pr : List Addr) : GenEnd := fun n s₀ r s₁ => r = .ok .next ∧ n = 0 ∧ ∃ F', PLe F₀ F' ∧ Sim (C.inGen g) F' (Zp pr Z s₀) μ s₁
noncomputable def gY (C : Cx) (μ : Mem) (F₀ Z : PMap) (g : Nat) (it L : Addr) (pr : List Addr) (K : List V) : Protocol := fun m s₀ v s kap =>
  ∃ F' x o oL, K[K.length - 1 - m]? = some x ∧ PLe F₀ F' ∧ Val C.P F' x v ∧ Sim (C.inGen g) F' (PSet (PSet (Zp pr Z s₀) it o) L oL) μ s ∧
    ∀ s'', Sim (C.inGen g) F' (PSet (PSet (Zp pr Z s'') it o) L oL) μ s'' → kap (.send .none) s''
theorem GIt.frame (G : GIt C F₀ Z g it L pr items J sc₀ cenv) {F : PMap} {s₀ : Shared} {o oL : Obj} (hL : DictOk oL) :
    CEnv (C.inGen g) sc₀ F (PSet (Zp pr Z s₀) it o) (PSet (fun _ => none) L oL) cenv [] ∧ PUn (PSet (Zp pr Z s₀) it o) (PSet (fun _ => none) L oL) = PSet (PSet (Zp pr Z s₀) it o) L oL := by
  have zl : PSet (Zp pr Z s₀) it o L = none := by
    rw [PSet.ne _ _ G.ne]; unfold Zp; rw [if_neg G.pl]; exact G.zl
  have e : PUn (PSet (Zp pr Z s₀) it o) (PSet (fun _ => none) L oL) = PSet (PSet (Zp pr Z s₀) it o) L oL := by rw [PUn.set zl, PUn.nil]
  have nk : ∀ y, ¬ (cenv.kindOf y = some .cell ∨ cenv.kindOf y = some .free) := fun y q => by
    unfold Env.kindOf at q
    rw [G.sc] at q
    rcases q with q | q
    · have := List.all_eq_true.mp G.nc _ (mem_of_lookup q); simp at this
    · have := List.all_eq_true.mp G.nc _ (mem_of_lookup q); simp at this
  refine ⟨⟨⟨by rw [G.sc]; exact G.kd, G.gl, ⟨G.bl, fun q => by cases q⟩, ?_, fun y q => (nk y q).elim⟩, fun a ob q => ?_, ⟨oL, by rw [G.lo]; exact PSet.self ..⟩, fun y c q => (nk y q).elim, fun y c q => ?_, fun y q => ?_, fun y q => ?_⟩, e⟩
  · (refine el22 hL fun es n h1 h2 => ?_; try clear hL)
    rw [e, G.lo]
    exact ⟨oL, es, n, PSet.self .., h1, h2, fun x w q => by cases q⟩
  · by_cases q2 : a = L
    · rw [q2]; exact zl
    · rw [PSet.ne _ _ q2] at q; cases q
  · exact (nk y (.inl (by unfold Env.kindOf; rw [G.sc]; exact q))).elim
  · unfold Env.kindOf; rw [G.sc]; exact q
  · unfold Env.kindOf; rw [G.sc]; exact q
theorem seg_loop {elt target iter : Expr} {ifs : List Expr} {pos : Pos} {A : Around} {p : V → Bool} {f : V → V} (G : GIt C F₀ Z g it L pr items J sc₀ cenv) (hA : Rm A (d + 1))
    (hK : K = (items.filter p).map f)
    (turn : ∀ x ∈ items, ∃ bs, cTgt (C.inGen g) sc₀ target (.v x) bs ∧ cIfs (C.inGen g) d sc₀ bs μ ifs fun b m => b = p x ∧ m = μ ∧ (b = true → cE (C.inGen g) d sc₀ bs μ elt fun w m => w = .v (f x) ∧ m = μ)) :
    ∀ (k i : Nat) (s₀ s : Shared) (F : PMap) (o oL : Obj), items.length - i = k → i ≤ items.length → PLe F₀ F → Sim (C.inGen g) F (PSet (PSet (Zp pr Z s₀) it o) L oL) μ s → J i o → DictOk oL →
      Seg C.M A (gR C μ F₀ Z g pr) (gY C μ F₀ Z g it L pr K) ((items.drop i).filter p).length s₀
        (.compLoop (.GeneratorExp elt [⟨target, iter, ifs, 0⟩] sc₀ pos) 0 (.ref it) .none cenv)
        (C.M.den (.compLoop (.GeneratorExp elt [⟨target, iter, ifs, 0⟩] sc₀ pos) 0 (.ref it) .none cenv)) [] s := by
  have hh' : (A.over (.compLoop (.GeneratorExp elt [⟨target, iter, ifs, 0⟩] sc₀ pos) 0 (.ref it) .none cenv) []).handled = none := hA.hd
  have hA' : Rm (A.over (.compLoop (.GeneratorExp elt [⟨target, iter, ifs, 0⟩] sc₀ pos) 0 (.ref it) .none cenv) []) d := hA.over (by exact Nat.le_refl _) (by exact Nat.le_refl _)
  have hit : Iter (C.inGen g) F₀ it items J := G.iter.gen
  intro k
  induction k with
  | zero =>
    intro i s₀ s F o oL hk hi le S hJ hL
    have hin : i = items.length := by lia
    subst hin
    rw [List.drop_length]
    show Seg _ A _ _ _ s₀ _ ((compTurn (.GeneratorExp elt [⟨target, iter, ifs, 0⟩] sc₀ pos) 0 (.ref it) .none cenv).onRaise (leaving cenv)) [] s
    rw [compTurn_gen, Sem.onRaise_eq_wrap]
    refine seg_bind_wrap (wpAny_standAt ?_)
    have zi : PSet (Zp pr Z s₀) L oL it = none := by
      rw [PSet.ne _ _ (Ne.symm G.ne)]; unfold Zp; rw [if_neg G.pi]; exact G.zi
    have to : s.heap.get? it = some o := S.zz _ _ (by rw [PSet.ne _ _ (Ne.symm G.ne)]; exact PSet.self ..)
    refine seg_bind_wrap (hit.done items.length _ s _ _ o hh' (fun a ob e => S.fz _ _ (le a ob e)) to hJ (List.getElem?_eq_none_iff.mpr (Nat.le_refl _)) fun h' tk hk' => ?_)
    refine seg_end (.ok .next) ⟨rfl, rfl, F, le, ?_⟩
    have z0 : Zp pr Z s₀ it = none := by unfold Zp; rw [if_neg G.pi]; exact G.zi
    refine S.but ⟨o, by rw [PSet.ne _ _ (Ne.symm G.ne)]; exact PSet.self ..⟩ (fun a ob e => ?_) z0 hk' tk
    have n1 : a ≠ L := fun q => by subst q; unfold Zp at e; rw [if_neg G.pl, G.zl] at e; cases e
    have n2 : a ≠ it := fun q => by subst q; rw [z0] at e; cases e
    rw [PSet.ne _ _ n1, PSet.ne _ _ n2]; exact e
  | succ k ih =>
    intro i s₀ s F o oL hk hi le S hJ hL
    have hlt : i < items.length := by lia
    have hx : items[i]? = some items[i] := List.getElem?_eq_getElem hlt
    show Seg _ A _ _ _ s₀ _ ((compTurn (.GeneratorExp elt [⟨target, iter, ifs, 0⟩] sc₀ pos) 0 (.ref it) .none cenv).onRaise (leaving cenv)) [] s
    rw [compTurn_gen, Sem.onRaise_eq_wrap]
    refine seg_bind_wrap (wpAny_standAt ?_)
    have to : s.heap.get? it = some o := S.zz _ _ (by rw [PSet.ne _ _ (Ne.symm G.ne)]; exact PSet.self ..)
    refine el12 (turn items[i] (List.getElem_mem hlt)) fun bs htg hifs => ?_
    refine seg_bind_wrap (hit.item i items[i] _ s _ _ o hh' (fun a ob e => S.fz _ _ (le a ob e)) to hJ hx fun v h' o'' tk hv hsb ho'' hJ'' => ?_)
    have q := S.setZ (a := it) (o := o) (by rw [PSet.ne _ _ (Ne.symm G.ne)]; exact PSet.self ..) hsb ho'' tk
    have e1 : PSet (PSet (PSet (Zp pr Z s₀) it o) L oL) it o'' = PSet (PSet (Zp pr Z s₀) it o'') L oL := by
      funext b
      by_cases h1 : b = it
      · subst h1; rw [PSet.self, PSet.ne _ _ (Ne.symm G.ne), PSet.self]
      · by_cases h2 : b = L
        · subst h2; rw [PSet.ne _ _ h1, PSet.self, PSet.self]
        · rw [PSet.ne _ _ h1, PSet.ne _ _ h2, PSet.ne _ _ h1, PSet.ne _ _ h2, PSet.ne _ _ h1]
    rw [e1] at q
    obtain ⟨hC, e2⟩ := G.frame (F := F) (s₀ := s₀) (o := o'') hL
    rw [← e2] at q
    refine seg_bind_wrap (letGo_ok hit hJ'' ho'' ?_)
    refine seg_bind_wrap (wpBot (htg.2 _ cenv F _ _ _ μ _ v hh' hC q (Val.mono le hv)) fun _ s₂ hq => ?_)
    (refine el12 hq fun S₂ Sm₂ C₂ => ?_; try clear hq)
    rw [List.append_nil] at C₂
    refine seg_bind_wrap (wpBot (hifs _ cenv F _ s₂ hA' G.sc C₂.rel Sm₂) fun b s₃ hq => ?_)
    obtain ⟨F₃, μ₃, ⟨hb, hm, he⟩, le₃, Sm₃⟩ := hq
    subst hm
    have C₃ := C₂.mono le₃
    have fin : ∀ {F₄ : PMap} {s₄ : Shared}, PLe F₃ F₄ → Sim (C.inGen g) F₄ (PUn (PSet (Zp pr Z s₀) it o'') S₂) μ₃ s₄ → ∃ oL', DictOk oL' ∧ Sim (C.inGen g) F₄ (PSet (PSet (Zp pr Z s₀) it o'') L oL') μ₃ s₄ := fun {F₄ s₄} l4 Sm₄ => by
      refine el34 (C₃.rel.ns) fun ob es m h1 h2 h3 h4 => ?_
      rw [G.lo] at h1
      refine ⟨ob, ⟨es, m, h2, h3⟩, Sm₄.weakZ fun a oa e => ?_⟩
      by_cases h5 : a = L
      · subst h5; rw [PSet.self] at e; cases e; exact h1
      · rw [PSet.ne _ _ h5] at e; exact PLe.unL a oa e
    have hdr : items.drop i = items[i] :: items.drop (i + 1) := List.drop_eq_getElem_cons hlt
    cases b with
    | false =>
      rw [hdr, List.filter_cons_of_neg (by rw [← hb]; decide)]
      (first | rw [if_neg Bool.false_ne_true] | simp only [Bool.false_eq_true, if_false])
      refine el12 (fin (PLe.refl _) Sm₃) fun oL' hL' Sm' => ?_
      exact seg_again rfl (ih (i + 1) s₀ _ F₃ o'' oL' (by lia) hlt (le.trans le₃) Sm' hJ'' hL')
    | true =>
      rw [hdr, List.filter_cons_of_pos (by rw [← hb]), List.length_cons]
      (first | rw [if_pos (rfl : true = true)] | simp only [if_true])
      have hy : ∀ v, yieldOut cenv v = yieldValue v := fun v => by simp only [yieldOut, G.sc, G.co, Bool.false_eq_true, if_false]
      simp only [hy]
      rw [Sem.bind_eq_wrap', Sem.bind_eq_wrap', Sem.wrap_wrap, Sem.wrap_wrap]
      refine seg_wrap (wpBot (he rfl _ cenv F₃ _ s₃ hA' G.sc C₃.rel Sm₃) fun y s₄ hq => ?_)
      obtain ⟨w, F₄, μ₄, ⟨hw, hm⟩, le₄, Sm₄, hwy⟩ := hq
      subst hm
      subst hw
      refine el12 (fin le₄ Sm₄) fun oL' hL' Sm' => ?_
      refine seg_at (seg_yield rfl rfl rfl ⟨F₄, f items[i], o'', oL', ?_, (le.trans le₃).trans le₄, hwy, Sm', fun s'' S'' => ?_⟩)
      · have e3 : items = items.take i ++ items[i] :: items.drop (i + 1) := by rw [← hdr, List.take_append_drop]
        have e4 : K = ((items.take i).filter p).map f ++ f items[i] :: ((items.drop (i + 1)).filter p).map f := by
          rw [hK]
          conv => lhs; rw [e3]
          rw [List.filter_append, List.filter_cons_of_pos (by rw [← hb]), List.map_append, List.map_cons]
        rw [e4, List.length_append, List.length_cons, List.length_map, List.length_map]
        have e5 : ((items.take i).filter p).length + (((items.drop (i + 1)).filter p).length + 1) - 1 - ((items.drop (i + 1)).filter p).length = ((items.take i).filter p).length := by lia
        rw [e5, List.getElem?_append_right (by rw [List.length_map]; exact Nat.le_refl _), List.length_map, Nat.sub_self]; rfl
      · exact seg_again rfl (ih (i + 1) s'' s'' F₄ o'' oL' (by lia) hlt ((le.trans le₃).trans le₄) S'' hJ'' hL')
end
end
section
open PySem PySem.Calls PyProof.Rows
section
variable {C : Cx} {d : Nat} {μ : Mem} {F₀ Z : PMap} {g : Nat} {it L : Addr} {pr : List Addr} {items : List V} {J : Nat → Obj → Prop} {sc₀ : Scope} {cenv : Env} {K : List V}
theorem seg_start {elt target iter : Expr} {ifs : List Expr} {pos : Pos} {A : Around} {p : V → Bool} {f : V → V} (G : GIt C F₀ Z g it L pr items J sc₀ cenv) (hA : Rm A (d + 1))
    (hK : K = (items.filter p).map f)
    (turn : ∀ x ∈ items, ∃ bs, cTgt (C.inGen g) sc₀ target (.v x) bs ∧ cIfs (C.inGen g) d sc₀ bs μ ifs fun b m => b = p x ∧ m = μ ∧ (b = true → cE (C.inGen g) d sc₀ bs μ elt fun w m => w = .v (f x) ∧ m = μ))
    {s₀ s : Shared} {F : PMap} {o oL : Obj} (le : PLe F₀ F) (S : Sim (C.inGen g) F (PSet (PSet (Zp pr Z s₀) it o) L oL) μ s) (hJ : J 0 o) (hL : DictOk oL) :
    Seg C.M A (gR C μ F₀ Z g pr) (gY C μ F₀ Z g it L pr K) K.length s₀
      (.compStart (.GeneratorExp elt [⟨target, iter, ifs, 0⟩] sc₀ pos) 0 (.ref it) .none cenv)
      (C.M.den (.compStart (.GeneratorExp elt [⟨target, iter, ifs, 0⟩] sc₀ pos) 0 (.ref it) .none cenv)) [] s := by
  have loop := seg_loop (iter := iter) (pos := pos) G hA hK turn items.length 0 s₀ s F o oL (Nat.sub_zero _) (Nat.zero_le _) le S hJ hL
  rw [List.drop_zero] at loop
  have hl : K.length = (items.filter p).length := by rw [hK, List.length_map]
  rw [hl]
  have to : s.heap.get? it = some o := S.zz _ _ (by rw [PSet.ne _ _ (Ne.symm G.ne)]; exact PSet.self ..)
  show Seg _ A _ _ _ s₀ _ ((compStart (.GeneratorExp elt [⟨target, iter, ifs, 0⟩] sc₀ pos) 0 (.ref it) .none cenv).onRaise (leaving cenv)) [] s
  unfold compStart
  rw [Sem.onRaise_eq_wrap]
  show Seg _ A _ _ _ s₀ _ ((ask >>= _).wrap _ _ _ _) [] s
  refine seg_bind_wrap (wpAny_askSetting ?_)
  split
  · exact seg_again rfl loop
  · first
      | exact seg_bind_wrap (wpAny_rule (seg_bind_wrap (wpAny_standAt (seg_bind_wrap (G.iter.self 0 _ s _ _ o to hJ (seg_again rfl loop))))))
      | (refine seg_bind_wrap (wpAny_rule ?_); show Seg _ A _ _ _ s₀ _ ((standAt iter.pos >>= _).wrap _ _ _ _) [] s; exact seg_bind_wrap (wpAny_standAt (seg_bind_wrap (G.iter.self 0 _ s _ _ o to hJ (seg_again rfl loop)))))
noncomputable def GAt (C : Cx) (A : Around) (μ : Mem) (F₀ Z : PMap) (g : Nat) (it L : Addr) (pr : List Addr) (K : List V) (j : Nat) (F : PMap) (s : Shared) : Prop :=
  ∃ gs o oL, s.gens[g]? = some gs ∧ Sim C F (PSet (PSet (Zp pr Z s) it o) L oL) μ s ∧
    ∀ s'', Sim (C.inGen g) F (PSet (PSet (Zp pr Z s'') it o) L oL) μ s'' → gs.Goes C.M A.in1 (gR C μ F₀ Z g pr) (gY C μ F₀ Z g it L pr K) (K.length - j) (.send .none) s''
theorem GIt.at (G : GIt C F₀ Z g it L pr items J sc₀ cenv) {s : Shared} {o oL : Obj} {b : Addr} (hb : b ∈ pr) : PSet (PSet (Zp pr Z s) it o) L oL b = s.heap.get? b := by
  have n1 : b ≠ L := fun q => G.pl (by rw [← q]; exact hb)
  have n2 : b ≠ it := fun q => G.pi (by rw [← q]; exact hb)
  rw [PSet.ne _ _ n1, PSet.ne _ _ n2]
  unfold Zp; rw [if_pos hb]
theorem Zp.same {pr : List Addr} {Z : PMap} {s s' : Shared} (h : ∀ b ∈ pr, s'.heap.get? b = s.heap.get? b) : Zp pr Z s' = Zp pr Z s := by
  funext b; unfold Zp; split
  · exact h b (by assumption)
  · rfl
theorem GAt.fresh {elt target iter : Expr} {ifs : List Expr} {pos : Pos} {A : Around} {p : V → Bool} {f : V → V} (G : GIt C F₀ Z g it L pr items J sc₀ cenv) (hA : Rm A.in1 (d + 1))
    (hK : K = (items.filter p).map f)
    (turn : ∀ x ∈ items, ∃ bs, cTgt (C.inGen g) sc₀ target (.v x) bs ∧ cIfs (C.inGen g) d sc₀ bs μ ifs fun b m => b = p x ∧ m = μ ∧ (b = true → cE (C.inGen g) d sc₀ bs μ elt fun w m => w = .v (f x) ∧ m = μ))
    {s : Shared} {o oL : Obj} (S : Sim C F₀ (PSet (PSet (Zp pr Z s) it o) L oL) μ s) (hJ : J 0 o) (hL : DictOk oL)
    (hs : s.gens[g]? = some (.fresh (.compStart (.GeneratorExp elt [⟨target, iter, ifs, 0⟩] sc₀ pos) 0 (.ref it) .none cenv))) : GAt C A μ F₀ Z g it L pr K 0 F₀ s :=
  ⟨_, o, oL, hs, S, fun s'' S'' => ⟨rfl, seg_start G hA hK turn (.refl _) S'' hJ hL⟩⟩
theorem GAt.next {A : Around} {a : Addr} {j : Nat} {F : PMap} {s : Shared} {Q : Option Value → Shared → Prop} {E : Value → Shared → Prop} (G : GIt C F₀ Z g it L pr items J sc₀ cenv) (hh : A.handled = none) (hroom : A.depth < recursionLimit)
    (hle : PLe F₀ F) (ha : ∀ h : Heap, PIn F₀ h → h.IsGen a g) (hpr : ∀ b ∈ pr, ∃ ob, s.heap.get? b = some ob) (H : GAt C A μ F₀ Z g it L pr K j F s) (hj : j ≤ K.length)
    (hQ : ∀ v x s' F', K[j]? = some x → PLe F₀ F' → Val C.P F' x v → GAt C A μ F₀ Z g it L pr K (j + 1) F' s' → (∀ b ∈ pr, s'.heap.get? b = s.heap.get? b) → Q (some v) s')
    (hD : j = K.length → ∀ s' F', PLe F₀ F' → Sim C F' (Zp pr Z s) μ s' → (∀ b ∈ pr, s'.heap.get? b = s.heap.get? b) → Q none s') : wpAny C.M A (pyNext (.ref a)) Q E s := by
  (refine el33 H fun gs o oL hgs S hgo => ?_; try clear H)
  have zp' : ∀ {b : Addr} {ob : Obj}, b ∈ pr → s.heap.get? b = some ob → Zp pr Z s b = some ob := fun {b ob} hb e => by unfold Zp; rw [if_pos hb]; exact e
  refine wpAny_pyNext_genexpQ (P := fun n s₀ s₁ => n = 0 ∧ ∃ F', PLe F₀ F' ∧ Sim (C.inGen g) F' (Zp pr Z s₀) μ s₁) (Y := gY C μ F₀ Z g it L pr K) (n := K.length - j) hh S.lim hroom (ha _ fun b ob e => S.fz _ _ (hle b ob e)) hgs (hgo _ (S.into G.gs hgs)) (fun v s₁ gs' hb hv => ?_) (fun s₁ hp h' hk => ?_)
  · (refine el45 hv fun F' x o' oL' hx le' hv' S' hkap => ?_; try clear hv)
    have S' : Sim (C.inGen g) F' (PSet (PSet (Zp pr Z s) it o') L oL') μ s₁ := S'
    cases e : K.length - j with
    | zero =>
      rw [e] at hkap
      exact (hkap s₁ (by
        have hsm : Zp pr Z s₁ = Zp pr Z s := Zp.same fun b hb => by
          obtain ⟨ob, hob⟩ := hpr b hb
          rw [hob]
          exact S'.zz _ _ ((G.at hb).trans hob)
        rw [hsm]; exact S')).elim
    | succ m =>
      rw [e] at hkap hx
      have hjl : j < K.length := by lia
      have hidx : K.length - 1 - (m + 1 - 1) = j := by lia
      rw [hidx] at hx
      obtain ⟨S₂, hg₂⟩ := S'.outof G.gs hb
      have hsame : ∀ b ∈ pr, (s₁.setGen g gs').heap.get? b = s.heap.get? b := fun b hb => by
        obtain ⟨ob, hob⟩ := hpr b hb
        rw [hob]
        exact S₂.zz _ _ ((G.at hb).trans hob)
      refine hQ v x _ F' hx le' hv' ⟨gs', o', oL', hg₂, by rw [Zp.same hsame]; exact S₂, fun s'' S'' => ?_⟩ hsame
      have e2 : K.length - (j + 1) = m := by lia
      rw [e2]
      exact hkap s'' S''
  · obtain ⟨hn, F', le', S'⟩ := hp
    have S₂ := (S'.outof G.gs (x := .finished) rfl).1
    have S₃ : Sim C F' (Zp pr Z s) μ { s₁.setGen g .finished with heap := h' } := Sim.ext S₂ hk _
    refine hD (by lia) _ F' le' S₃ fun b hb => ?_
    obtain ⟨ob, hob⟩ := hpr b hb
    rw [hob]
    exact S₃.zz _ _ (zp' hb hob)
end
section
variable {C : Cx} {d : Nat} {μ : Mem} {F₀ Z : PMap} {g : Nat} {it L : Addr} {items : List V} {J : Nat → Obj → Prop} {sc₀ : Scope} {cenv : Env}
theorem Zp.nil {Z : PMap} {s : Shared} : Zp [] Z s = Z := by funext b; unfold Zp; rw [if_neg (by simp)]
theorem GAt.sim {A : Around} {pr : List Addr} {K : List V} {j : Nat} {F : PMap} {s : Shared} (G : GIt C F₀ Z g it L pr items J sc₀ cenv) (H : GAt C A μ F₀ Z g it L pr K j F s) : Sim C F (Zp pr Z s) μ s := by
  (refine el33 H fun gs o oL hgs S hgo => ?_; try clear H)
  refine S.weakZ fun b ob e => ?_
  have n1 : b ≠ L := fun q => by subst q; unfold Zp at e; rw [if_neg G.pl, G.zl] at e; cases e
  have n2 : b ≠ it := fun q => by subst q; unfold Zp at e; rw [if_neg G.pi, G.zi] at e; cases e
  rw [PSet.ne _ _ n1, PSet.ne _ _ n2]; exact e
theorem all_loop {A : Around} {a : Addr} {bs : List Bool} {R : Result → Shared → Prop} (hA : Rm A (d + 1)) (G : GIt C F₀ Z g it L [] items J sc₀ cenv) (ha : ∀ h : Heap, PIn F₀ h → h.IsGen a g)
    (hR : ∀ s' F', PLe F₀ F' → Sim C F' Z μ s' → R (.ok (.ret (.bool (bs.all id)))) s') :
    ∀ (m j : Nat) (F : PMap) (s : Shared), bs.length - j = m → j ≤ bs.length → PLe F₀ F → GAt C A.in1 μ F₀ Z g it L [] (bs.map .bool) j F s → (bs.take j).all id = true →
      codeAny C.M A (.builtin "all.loop" ⟨[.ref a], []⟩) R s := less fun m ih j F s hmj hj hle H hall => by
    refine codeAny_builtin PySem.F.entry_all_loop ?_
    rw [Around.under_plainId PySem.F.plain_all_loop _]
    show wpAny _ A.in1 (pyNext (.ref a) >>= _) _ _ s
    refine wpAny_bind (H.next (A := A.in1) G hA.hd (hA.in1).lim hle ha (fun b hb => by cases hb) (by simpa using hj) (fun v x s' F' hx le' hv H' _ => ?_) fun e s' F' le' S' _ => ?_)
    · rw [List.getElem?_map] at hx
      (refine el12 (Option.map_eq_some_iff.mp hx) fun b hb qq2 => ?_; subst qq2)
      refine Val.i_bool hv ?_
      have hlt : j < bs.length := (List.getElem?_eq_some_iff.mp hb).1
      have htk : bs.take (j + 1) = bs.take j ++ [b] := by rw [List.take_add_one, hb]; rfl
      refine wpAny_bind (wpAny_holding (wpAny_truthy_bool ?_))
      refine wpAny_bind (wpAny_letGo ?_)
      cases hbb : b with
      | true =>
        (first | rw [if_pos (rfl : true = true)] | simp only [if_true])
        refine wpAny_pure ⟨plainId_quiet PySem.F.plain_all_loop _, ih (bs.length - (j + 1)) (by lia) (j + 1) F' s' rfl (by lia) le' H' ?_⟩
        rw [htk, List.all_append, hall, hbb]; rfl
      | false =>
        (first | rw [if_neg Bool.false_ne_true] | simp only [Bool.false_eq_true, if_false])
        refine wpAny_bind (wpAny_rule (wpAny_pure ?_))
        have S' := H'.sim G
        rw [Zp.nil] at S'
        have := hR s' F' le' S'
        have e : bs.all id = false := by
          rw [List.all_eq_false]
          exact ⟨b, List.mem_of_getElem? hb, by rw [hbb]; decide⟩
        rw [e] at this
        exact this
    · rw [Zp.nil] at S'
      refine wpAny_bind (wpAny_rule (wpAny_pure ?_))
      have := hR s' F' le' S'
      rw [List.length_map] at e
      rw [e, List.take_length] at hall
      rw [hall] at this
      exact this
end
end
section
open PySem PySem.Calls PyProof.Rows
section
variable {C : Cx} {d : Nat} {μ : Mem} {F₀ Z : PMap} {g : Nat} {it L : Addr} {items : List V} {J : Nat → Obj → Prop} {sc₀ : Scope} {cenv : Env}
theorem GAt.upd {A : Around} {K : List V} {j : Nat} {F : PMap} {s : Shared} {S : Addr} {ob ob' : Obj} {h' : Heap} (G : GIt C F₀ Z g it L [S] items J sc₀ cenv) (H : GAt C A μ F₀ Z g it L [S] K j F s) (hob : s.heap.get? S = some ob)
    (hs : Heap.SameBut S s.heap h') (ho : h'.get? S = some ob') (t : Nat) : GAt C A μ F₀ Z g it L [S] K j F { s with heap := h', toks := t } := by
  (refine el33 H fun gs o oL hgs SS hgo => ?_; try clear H)
  have n1 : S ≠ L := fun q => G.pl (q ▸ List.mem_singleton.mpr rfl)
  have n2 : S ≠ it := fun q => G.pi (q ▸ List.mem_singleton.mpr rfl)
  refine ⟨gs, o, oL, hgs, ?_, hgo⟩
  have q := SS.setZ (a := S) (o := ob) (by rw [PSet.ne _ _ n1, PSet.ne _ _ n2]; unfold Zp; rw [if_pos (List.mem_singleton.mpr rfl)]; exact hob) hs ho t
  have e : PSet (PSet (PSet (Zp [S] Z s) it o) L oL) S ob' = PSet (PSet (Zp [S] Z { s with heap := h', toks := t }) it o) L oL := by
    funext b
    by_cases h1 : b = S
    · subst h1
      rw [PSet.self, PSet.ne _ _ n1, PSet.ne _ _ n2]; unfold Zp; rw [if_pos (List.mem_singleton.mpr rfl)]; exact ho.symm
    · rw [PSet.ne _ _ h1]
      unfold PSet
      by_cases h2 : b = L
      · rw [if_pos h2, if_pos h2]
      · rw [if_neg h2, if_neg h2]
        by_cases h3 : b = it
        · rw [if_pos h3, if_pos h3]
        · rw [if_neg h3, if_neg h3]
          unfold Zp
          rw [if_neg (by simpa using h1), if_neg (by simpa using h1)]
  rw [e] at q; exact q
theorem max_loop {A : Around} {a S : Addr} {is : List Int} {R : Result → Shared → Prop} (hA : Rm A (d + 1)) (G : GIt C F₀ Z g it L [S] items J sc₀ cenv) (hZS : Z S = none) (ha : ∀ h : Heap, PIn F₀ h → h.IsGen a g)
    (hR : ∀ s' F' m t, PLe F₀ F' → Sim C F' Z μ s' → R (.ok (.ret (.int m t))) s') :
    ∀ (m j : Nat) (F : PMap) (s : Shared) (b : Int) (t : Tok) (c : Nat), is.length - j = m → j ≤ is.length → PLe F₀ F → GAt C A.in1 μ F₀ Z g it L [S] (is.map .int) j F s →
      s.heap.get? S = some { cls := .type "list", dict := none, data := .seq #[.int b t, .int b t] c, slots := #[] } →
      codeAny C.M A (.builtin "max.loop" ⟨[.ref a, .none, .ref S], []⟩) R s := less fun m ih j F s b t c hmj hj hle H hS => by
    have hname : (toString "max" ++ toString ".loop" : String) = "max.loop" := by decide
    refine codeAny_builtin PySem.F.entry_max_loop ?_
    rw [Around.under_plainId PySem.F.plain_max_loop _]
    show wpAny _ A.in1 (seqItems? (.ref S) >>= _) _ _ s
    refine wpAny_bind (wpAny_seqItems hS rfl ?_)
    show wpAny _ A.in1 (tryCatch (pyNext (.ref a)) _ >>= _) _ _ s
    refine wpAny_bind (wpAny_tryCatch (H.next (A := A.in1) G hA.hd (hA.in1).lim hle ha (fun x hx => by cases List.mem_singleton.mp hx; exact ⟨_, hS⟩) (by simpa using hj) (fun v x s' F' hx le' hv H' hsm => ?_) fun e s' F' le' S' hsm => ?_))
    · rw [List.getElem?_map] at hx
      (refine el12 (Option.map_eq_some_iff.mp hx) fun i hi qq2 => ?_; subst qq2)
      refine Val.i_int hv fun _ => ?_
      rename_i tk
      have hlt : j < is.length := (List.getElem?_eq_some_iff.mp hi).1
      have hS' := (hsm S (List.mem_singleton.mpr rfl)).trans hS
      show wpAny _ A.in1 (tryCatch (holding [_, _] (richCompare .Gt (.int i tk) (.int b t) >>= _)) _ >>= _) _ _ _
      refine wpAny_bind (wpAny_tryCatch (wpAny_holding (wpAny_bind (PyProof.Rows.gt_int (a := i) (b := b) (t := tk) (u := t) ?_))))
      refine wpAny_bind (wpAny_holding (wpAny_truthy_bool ?_))
      refine wpAny_bind (wpAny_letGo (wpAny_pure ?_))
      split
      · refine wpAny_bind ?_
        refine wpAny_updateSeq hS' rfl (wpAny_bind (wpAny_letGo ?_))
        rw [hname]
        exact wpAny_pure ⟨plainId_quiet PySem.F.plain_max_loop _, ih (is.length - (j + 1)) (by lia) (j + 1) F' _ i tk _ rfl (by lia) le' (H'.upd G hS' (Heap.SameBut.update ..) (Heap.get?_update_self _ hS' rfl) _) (Heap.get?_update_self _ hS' rfl)⟩
      · refine wpAny_bind (wpAny_letGo ?_)
        rw [hname]
        exact wpAny_pure ⟨plainId_quiet PySem.F.plain_max_loop _, ih (is.length - (j + 1)) (by lia) (j + 1) F' _ b t c rfl (by lia) le' H' hS'⟩
    · have hS' := (hsm S (List.mem_singleton.mpr rfl)).trans hS
      show wpAny _ A.in1 (updateSeq S (fun _ => #[]) >>= _) _ _ _
      refine wpAny_bind ?_
      refine wpAny_updateSeq hS' rfl (wpAny_bind (wpAny_letGo (wpAny_pure ?_)))
      refine hR _ F' b t le' (S'.but (a := S) ⟨_, by unfold Zp; rw [if_pos (List.mem_singleton.mpr rfl)]; exact hS⟩ (fun x ob e => ?_) hZS (fun x ob hx e => (Heap.get?_update_other _ _ (Ne.symm hx)).trans e) _)
      have : x ≠ S := fun q => by subst q; rw [hZS] at e; cases e
      unfold Zp; rw [if_neg (by simpa using this)]; exact e
theorem max_first {A : Around} {a S : Addr} {is : List Int} {R : Result → Shared → Prop} {F : PMap} {s : Shared} {c : Nat} (hA : Rm A (d + 1)) (G : GIt C F₀ Z g it L [S] items J sc₀ cenv) (hZS : Z S = none) (ha : ∀ h : Heap, PIn F₀ h → h.IsGen a g)
    (hR : ∀ s' F' m t, PLe F₀ F' → Sim C F' Z μ s' → R (.ok (.ret (.int m t))) s') (hn : is ≠ []) (hle : PLe F₀ F) (H : GAt C A.in1 μ F₀ Z g it L [S] (is.map .int) 0 F s)
    (hS : s.heap.get? S = some { cls := .type "list", dict := none, data := .seq #[] c, slots := #[] }) :
      codeAny C.M A (.builtin "max.loop" ⟨[.ref a, .none, .ref S], []⟩) R s := by
  have hname : (toString "max" ++ toString ".loop" : String) = "max.loop" := by decide
  refine codeAny_builtin PySem.F.entry_max_loop ?_
  rw [Around.under_plainId PySem.F.plain_max_loop _]
  show wpAny _ A.in1 (seqItems? (.ref S) >>= _) _ _ s
  refine wpAny_bind (wpAny_seqItems hS rfl ?_)
  show wpAny _ A.in1 (tryCatch (pyNext (.ref a)) _ >>= _) _ _ s
  refine wpAny_bind (wpAny_tryCatch (H.next (A := A.in1) G hA.hd (hA.in1).lim hle ha (fun x hx => by cases List.mem_singleton.mp hx; exact ⟨_, hS⟩) (Nat.zero_le _) (fun v x s' F' hx le' hv H' hsm => ?_) fun e s' F' le' S' hsm => ?_))
  · rw [List.getElem?_map] at hx
    (refine el12 (Option.map_eq_some_iff.mp hx) fun i hi qq2 => ?_; subst qq2)
    refine Val.i_int hv fun _ => ?_
    rename_i tk
    have hlt : 0 < is.length := (List.getElem?_eq_some_iff.mp hi).1
    have hS' := (hsm S (List.mem_singleton.mpr rfl)).trans hS
    show wpAny _ A.in1 (updateSeq S (fun _ => #[_, _]) >>= _) _ _ _
    refine wpAny_bind ?_
    refine wpAny_updateSeq hS' rfl ?_
    rw [hname]
    exact wpAny_pure ⟨plainId_quiet PySem.F.plain_max_loop _, max_loop hA G hZS ha hR (is.length - 1) 1 F' _ i tk _ rfl (by lia) le' (H'.upd G hS' (Heap.SameBut.update ..) (Heap.get?_update_self _ hS' rfl) _) (Heap.get?_update_self _ hS' rfl)⟩
  · rw [List.length_map] at e
    exact absurd (List.eq_nil_of_length_eq_zero e.symm) hn
theorem min_loop {A : Around} {a S : Addr} {is : List Int} {R : Result → Shared → Prop} (hA : Rm A (d + 1)) (G : GIt C F₀ Z g it L [S] items J sc₀ cenv) (hZS : Z S = none) (ha : ∀ h : Heap, PIn F₀ h → h.IsGen a g)
    (hR : ∀ s' F' m t, PLe F₀ F' → Sim C F' Z μ s' → R (.ok (.ret (.int m t))) s') :
    ∀ (m j : Nat) (F : PMap) (s : Shared) (b : Int) (t : Tok) (c : Nat), is.length - j = m → j ≤ is.length → PLe F₀ F → GAt C A.in1 μ F₀ Z g it L [S] (is.map .int) j F s →
      s.heap.get? S = some { cls := .type "list", dict := none, data := .seq #[.int b t, .int b t] c, slots := #[] } →
      codeAny C.M A (.builtin "min.loop" ⟨[.ref a, .none, .ref S], []⟩) R s := less fun m ih j F s b t c hmj hj hle H hS => by
    have hname : (toString "min" ++ toString ".loop" : String) = "min.loop" := by decide
    refine codeAny_builtin PySem.F.entry_min_loop ?_
    rw [Around.under_plainId PySem.F.plain_min_loop _]
    show wpAny _ A.in1 (seqItems? (.ref S) >>= _) _ _ s
    refine wpAny_bind (wpAny_seqItems hS rfl ?_)
    show wpAny _ A.in1 (tryCatch (pyNext (.ref a)) _ >>= _) _ _ s
    refine wpAny_bind (wpAny_tryCatch (H.next (A := A.in1) G hA.hd (hA.in1).lim hle ha (fun x hx => by cases List.mem_singleton.mp hx; exact ⟨_, hS⟩) (by simpa using hj) (fun v x s' F' hx le' hv H' hsm => ?_) fun e s' F' le' S' hsm => ?_))
    · rw [List.getElem?_map] at hx
      (refine el12 (Option.map_eq_some_iff.mp hx) fun i hi qq2 => ?_; subst qq2)
      refine Val.i_int hv fun _ => ?_
      rename_i tk
      have hlt : j < is.length := (List.getElem?_eq_some_iff.mp hi).1
      have hS' := (hsm S (List.mem_singleton.mpr rfl)).trans hS
      show wpAny _ A.in1 (tryCatch (holding [_, _] (richCompare .Lt (.int i tk) (.int b t) >>= _)) _ >>= _) _ _ _
      refine wpAny_bind (wpAny_tryCatch (wpAny_holding (wpAny_bind (PyProof.Rows.lt_int (a := i) (b := b) (t := tk) (u := t) ?_))))
      refine wpAny_bind (wpAny_holding (wpAny_truthy_bool ?_))
      refine wpAny_bind (wpAny_letGo (wpAny_pure ?_))
      split
      · refine wpAny_bind ?_
        refine wpAny_updateSeq hS' rfl (wpAny_bind (wpAny_letGo ?_))
        rw [hname]
        exact wpAny_pure ⟨plainId_quiet PySem.F.plain_min_loop _, ih (is.length - (j + 1)) (by lia) (j + 1) F' _ i tk _ rfl (by lia) le' (H'.upd G hS' (Heap.SameBut.update ..) (Heap.get?_update_self _ hS' rfl) _) (Heap.get?_update_self _ hS' rfl)⟩
      · refine wpAny_bind (wpAny_letGo ?_)
        rw [hname]
        exact wpAny_pure ⟨plainId_quiet PySem.F.plain_min_loop _, ih (is.length - (j + 1)) (by lia) (j + 1) F' _ b t c rfl (by lia) le' H' hS'⟩
    · have hS' := (hsm S (List.mem_singleton.mpr rfl)).trans hS
      show wpAny _ A.in1 (updateSeq S (fun _ => #[]) >>= _) _ _ _
      refine wpAny_bind ?_
      refine wpAny_updateSeq hS' rfl (wpAny_bind (wpAny_letGo (wpAny_pure ?_)))
      refine hR _ F' b t le' (S'.but (a := S) ⟨_, by unfold Zp; rw [if_pos (List.mem_singleton.mpr rfl)]; exact hS⟩ (fun x ob e => ?_) hZS (fun x ob hx e => (Heap.get?_update_other _ _ (Ne.symm hx)).trans e) _)
      have : x ≠ S := fun q => by subst q; rw [hZS] at e; cases e
      unfold Zp; rw [if_neg (by simpa using this)]; exact e
theorem min_first {A : Around} {a S : Addr} {is : List Int} {R : Result → Shared → Prop} {F : PMap} {s : Shared} {c : Nat} (hA : Rm A (d + 1)) (G : GIt C F₀ Z g it L [S] items J sc₀ cenv) (hZS : Z S = none) (ha : ∀ h : Heap, PIn F₀ h → h.IsGen a g)
    (hR : ∀ s' F' m t, PLe F₀ F' → Sim C F' Z μ s' → R (.ok (.ret (.int m t))) s') (hn : is ≠ []) (hle : PLe F₀ F) (H : GAt C A.in1 μ F₀ Z g it L [S] (is.map .int) 0 F s)
    (hS : s.heap.get? S = some { cls := .type "list", dict := none, data := .seq #[] c, slots := #[] }) :
      codeAny C.M A (.builtin "min.loop" ⟨[.ref a, .none, .ref S], []⟩) R s := by
  have hname : (toString "min" ++ toString ".loop" : String) = "min.loop" := by decide
  refine codeAny_builtin PySem.F.entry_min_loop ?_
  rw [Around.under_plainId PySem.F.plain_min_loop _]
  show wpAny _ A.in1 (seqItems? (.ref S) >>= _) _ _ s
  refine wpAny_bind (wpAny_seqItems hS rfl ?_)
  show wpAny _ A.in1 (tryCatch (pyNext (.ref a)) _ >>= _) _ _ s
  refine wpAny_bind (wpAny_tryCatch (H.next (A := A.in1) G hA.hd (hA.in1).lim hle ha (fun x hx => by cases List.mem_singleton.mp hx; exact ⟨_, hS⟩) (Nat.zero_le _) (fun v x s' F' hx le' hv H' hsm => ?_) fun e s' F' le' S' hsm => ?_))
  · rw [List.getElem?_map] at hx
    (refine el12 (Option.map_eq_some_iff.mp hx) fun i hi qq2 => ?_; subst qq2)
    refine Val.i_int hv fun _ => ?_
    rename_i tk
    have hlt : 0 < is.length := (List.getElem?_eq_some_iff.mp hi).1
    have hS' := (hsm S (List.mem_singleton.mpr rfl)).trans hS
    show wpAny _ A.in1 (updateSeq S (fun _ => #[_, _]) >>= _) _ _ _
    refine wpAny_bind ?_
    refine wpAny_updateSeq hS' rfl ?_
    rw [hname]
    exact wpAny_pure ⟨plainId_quiet PySem.F.plain_min_loop _, min_loop hA G hZS ha hR (is.length - 1) 1 F' _ i tk _ rfl (by lia) le' (H'.upd G hS' (Heap.SameBut.update ..) (Heap.get?_update_self _ hS' rfl) _) (Heap.get?_update_self _ hS' rfl)⟩
  · rw [List.length_map] at e
    exact absurd (List.eq_nil_of_length_eq_zero e.symm) hn
end
end
section
open PySem PySem.Calls PyProof.Rows
theorem mem_uniq : ∀ {μ : Mem} {a : Addr} {x y : O}, (μ.map (·.1)).Nodup → (a, x) ∈ μ → (a, y) ∈ μ → x = y
  | (b, z) :: r, a, x, y, hn, h1, h2 => by
    simp only [List.map_cons, List.nodup_cons] at hn
    rcases List.mem_cons.mp h1 with q | q
    · rcases List.mem_cons.mp h2 with q2 | q2
      · cases q; cases q2; rfl
      · cases q; exact absurd (List.mem_map_of_mem (f := (·.1)) q2) hn.1
    · rcases List.mem_cons.mp h2 with q2 | q2
      · cases q2; exact absurd (List.mem_map_of_mem (f := (·.1)) q) hn.1
      · exact mem_uniq hn.2 q q2
section
variable {C : Cx} {d : Nat} {μ : Mem} {F Z : PMap} {s : Shared}
theorem Sim.tabbed (S : Sim C F Z μ s) {P : Addr} (hm : (P, O.tab) ∈ μ) {h' : Heap} (hx : Heap.ExtBut P s.heap h') {ps : Array Value} (hP : h'.get? P = some { cls := .none, data := .fields ps }) (ht : TriplesOk ps.toList) (t : Nat) :
    Sim C F Z μ { s with heap := h', toks := t } := by
  refine el03 (S.own _ _ hm) fun h1 h2 _ => ?_
  refine ⟨S.base, fun a o e => hx a o (fun q => by rw [q, h1] at e; cases e) (S.fz a o e), fun a o e => hx a o (fun q => by rw [q, h2] at e; cases e) (S.zz a o e), S.dis, fun a x hm' => ?_, S.nod, S.os, S.gens⟩
  obtain ⟨g1, g2, ob, g3, g4⟩ := S.own a x hm'
  by_cases e : a = P
  · subst e
    have : x = O.tab := mem_uniq S.nod.1 hm' hm
    subst this
    exact ⟨g1, g2, _, hP, ps, rfl, ht⟩
  · exact ⟨g1, g2, ob, hx a ob e g3, g4⟩
theorem Sim.pushG (S : Sim C F Z μ s) {x : GenState} (hx : x.bare = true) : Sim C F Z μ { s with gens := s.gens.push x } ∧ (∀ p ∈ C.gs, p.1 ≠ s.gens.size) :=
  have lt : ∀ p ∈ C.gs, p.1 < s.gens.size := fun p hp => (Array.getElem?_eq_some_iff.mp (S.gens.2 p hp)).1
  ⟨⟨S.base, S.fz, S.zz, S.dis, S.own, S.nod, S.os, S.gens.1.push hx, fun p hp => by
    rw [Array.getElem?_push, if_neg (Nat.ne_of_lt (lt p hp))]; exact S.gens.2 p hp⟩, fun p hp => Nat.ne_of_lt (lt p hp)⟩
theorem genexprCode_at {A : Around} {ε : Env1} {env : Env} {pos : Pos} {qualname : Str} {scope : Scope} {Q : Value → Shared → Prop} (hg : C.gen = false) (hT : ∀ P ∈ C.tabs, (P, O.tab) ∈ μ) (R : EnvRel C F Z env ε) (S : Sim C F Z μ s)
    {Z' : PMap} (S' : Sim C F Z' μ s) (hQ : ∀ code s', Sim C F Z' μ s' → (∀ a, Z' a = none → True) → s'.gens = s.gens → Q code s') : wpAny C.M A (genexprCode env pos qualname scope) Q (fun _ _ => False) s := by
  obtain ⟨_, c, P, hc, hat, hP⟩ := R.blt.2 hg
  have hm := hT P hP
  obtain ⟨h1, h2, ob, h3, ps, h4, h5⟩ := S.own _ _ hm
  subst h4
  obtain ⟨hcode, htab⟩ := hat s.heap ps S.keep h3 h5
  cases hf : codeAmong pos ps.toList with
  | some c' => exact wpAny_genexprCode_hit hc hcode hf (hQ _ _ S' (fun _ _ => trivial) rfl)
  | none =>
    refine wpAny_genexprCodeX hc hcode htab hf fun c' h' tk hx hle hlt hcode' _ htab' _ => ?_
    obtain ⟨o, vs, file, tf, flags, tg, inF, text, tt, op, g1, g2, g3, g4, g5, g6, g7, g8, g9, g10, g11⟩ := hcode'
    exact hQ _ _ (S'.tabbed hm hx htab'.2 g10 tk) (fun _ _ => trivial) rfl
end
structure GNew (C : Cx) (F Z : PMap) (μ : Mem) (e : Expr) (items : List V) (sc₀ : Scope) (a : Addr) (g : Nat) (it L : Addr) (J : Nat → Obj → Prop) (cenv : Env) (o oL : Obj) (s : Shared) : Prop where
  git : GIt C F Z g it L [] items J sc₀ cenv
  sim : Sim C F (PSet (PSet Z it o) L oL) μ s
  j0 : J 0 o
  dk : DictOk oL
  fr : s.gens[g]? = some (.fresh (.compStart e 0 (.ref it) .none cenv))
  isg : ∀ h : Heap, PIn F h → h.IsGen a g
section
variable {C : Cx} {d : Nat} {sc sc₀ : Scope} {ε : Env1} {μ : Mem} {k : PostW}
theorem gen_make {elt target iter : Expr} {ifs : List Expr} {pos : Pos} {A : Around} {env : Env} {F Z : PMap} {s : Shared} {Q : Value → Shared → Prop} (hg : C.gen = false)
    (hk : sc₀.kind = .function) (h0 : sc₀.names.lookup (".0" : Str) = some NameKind.local) (hnc : sc₀.names.all (fun y => y.2 != .cell && y.2 != .free) = true) (hco : sc₀.isCoroutine = false)
    (hs : ∀ env x, genFold iter env x = pure x) (hA : Rm A d) (hsc : env.scope = sc) (R : EnvRel C F Z env ε) (S : Sim C F Z μ s)
    {Post : List V → Mem → Prop}
    (h : cE C d sc ε μ iter fun w μ₁ => ∃ P, cIter C d μ₁ w P ∧ (∀ Pt ∈ C.tabs, (Pt, O.tab) ∈ μ₁) ∧ ∀ items, P items → Post items μ₁)
    (hQ : ∀ (items : List V) (μ₁ : Mem) (F' : PMap) (s' : Shared) (a : Addr) (g : Nat) (it L : Addr) (J : Nat → Obj → Prop) (cenv : Env) (o oL : Obj), Post items μ₁ → PLe F F' →
      GNew C F' Z μ₁ (.GeneratorExp elt [⟨target, iter, ifs, 0⟩] sc₀ pos) items sc₀ a g it L J cenv o oL s' → Q (.ref a) s') :
    wpAny C.M A (eval (.GeneratorExp elt [⟨target, iter, ifs, 0⟩] sc₀ pos) env) Q (fun _ _ => False) s := by
  have hcl : closureFor sc₀ env = pure [] := by
    have e := closureFor_eq (sc₀ := sc₀) (env := env) (fun x hx q => by have := List.all_eq_true.mp hnc x hx; rw [q] at this; simp at this)
    rw [e]
    have : ∀ (names : List (Str × NameKind)) (acc : List (Str × Addr)), names.all (fun y => y.2 != .cell && y.2 != .free) = true → closL env.cells names acc = acc := by
      intro names
      induction names with
      | nil => intro acc _; rfl
      | cons y r ih =>
        intro acc q
        obtain ⟨n, kd⟩ := y
        rw [List.all_cons, Bool.and_eq_true_iff] at q
        unfold closL
        have : (kd == NameKind.free) = false := by
          have := q.1
          simp only [Bool.and_eq_true, bne_iff_ne, ne_eq] at this
          simpa using this.2
        rw [if_neg (by rw [this]; decide)]
        exact ih acc q.2
    rw [this _ _ hnc]
  refine wpAny_GeneratorExp_make hco hcl (fun y hy q => by have := List.all_eq_true.mp hnc y hy; rw [q] at this; simp at this) h0 hk hA.lim ?_ (hs env)
  refine wpBot (h A env F Z s hA hsc R S) fun xv s₁ hq => ?_
  obtain ⟨w, F₁, μ₁, ⟨P, hit, hT, hP⟩, le₁, S₁, hw⟩ := hq
  refine wpBot (hit A F₁ Z s₁ xv hA S₁ hw) fun itv s₂ hq => ?_
  obtain ⟨it, items, J, F₂, o, e1, hpi, le₂, S₂, hz, hJ, hIt⟩ := hq
  subst e1
  have R₂ : EnvRel C F₂ Z env ε := R.mono (le₁.trans le₂)
  have lez : PLe Z (PSet Z it o) := PSet.le hz
  refine ⟨S₂.lim, genexprCode_at hg hT R₂ (S₂.weakZ lez) S₂ fun code s₃ S₃ _ hgens => ?_⟩
  refine el21 (C.bmod) fun bm ob BM => ?_
  have BM' := BM.keeps S₃.keep
  refine wpAny_builtinsFor (bm := bm) (o := ob) (by rw [R₂.glob]; exact BM'.ns) BM'.name BM'.ne BM'.obj BM'.cls BM'.dict BM'.data ?_
  intro h' hn hsb
  refine el03 (fresh_none S₃) fun nF nZ nM => ?_
  have S₄ := S₃.pushZ (o := { cls := .type "frame", data := .dict #[] }) rfl
  refine el34 (StrKeys.of_ns hn) fun oL es n hoL hdL hkL _ => ?_
  have S₅ := S₄.setZ (a := s₃.heap.objs.size) (PSet.self ..) hsb hoL (s₃.toks + 1 + 1 + 1)
  rw [PSet.twice] at S₅
  refine el13 (Sim.pushF S₅ (o := { cls := .type "generator", data := .fields #[.int s₃.gens.size 0, .str "<genexpr>" (s₃.toks + 1), .str (env.qual ++ "<genexpr>") (s₃.toks + 1 + 1)] }) rfl) fun F' le' hF' S₆ => ?_
  obtain ⟨S₇, hgs⟩ := S₆.pushG (x := .fresh (.compStart (.GeneratorExp elt [⟨target, iter, ifs, 0⟩] sc₀ pos) 0 (.ref it) .none (genEnv sc₀ [] s₃.heap.objs.size code builtinsNs env))) rfl
  have hLz : Z s₃.heap.objs.size = none := by
    by_cases q : s₃.heap.objs.size = it
    · rw [q]; exact hz
    · rw [PSet.ne _ _ q] at nZ; exact nZ
  have hLi : s₃.heap.objs.size ≠ it := fun q => by rw [q, PSet.self] at nZ; cases nZ
  refine hQ items μ₁ F' _ _ s₃.gens.size it s₃.heap.objs.size J (genEnv sc₀ [] s₃.heap.objs.size code builtinsNs env) o oL (hP items hpi) ((le₁.trans le₂).trans le') ⟨⟨?_, hz, hLz, hLi, by simp, by simp, rfl, rfl, R.glob, rfl, hk, hnc, hco, hgs⟩, S₇, hJ, ⟨es, n, hdL, hkL⟩, Array.getElem?_push_size .., fun hh hp => ⟨_, _, _, hp _ _ hF', rfl, rfl, rfl⟩⟩
  exact ⟨hIt.shape, fun i x A s Q E o a1 a2 a3 a4 a5 a6 => hIt.item i x A s Q E o a1 (fun b p q => a2 b p (le' b p q)) a3 a4 a5 fun v h' o' tk hv => a6 v h' o' tk (Val.mono le' hv), fun i A s Q E o a1 a2 => hIt.done i A s Q E o a1 fun b p q => a2 b p (le' b p q), hIt.self⟩
end
end
section
open PySem PySem.Calls PyProof.Rows
section
variable {C : Cx} {d : Nat} {sc sc₀ : Scope} {ε : Env1} {μ : Mem} {k : PostW}
noncomputable def Turn (C : Cx) (d : Nat) (sc₀ : Scope) (target : Expr) (ifs : List Expr) (elt : Expr) (μ : Mem) (items : List V) (p : V → Bool) (f : V → V) : Prop :=
  ∀ g, ∀ x ∈ items, ∃ bs, cTgt (C.inGen g) sc₀ target (.v x) bs ∧ cIfs (C.inGen g) d sc₀ bs μ ifs fun b m => b = p x ∧ m = μ ∧ (b = true → cE (C.inGen g) d sc₀ bs μ elt fun w m => w = .v (f x) ∧ m = μ)
noncomputable def cGen (C : Cx) (d : Nat) (sc : Scope) (ε : Env1) (μ : Mem) (fe ge : Expr) (pos : Pos) (k : PostW) : Prop := cE C d sc ε μ (.Call fe [ge] [] pos) k
theorem cE_gn {x : Str} {px : Pos} {elt target iter : Expr} {ifs : List Expr} {gp pos : Pos} (h : cGen C d sc ε μ (.Name x px) (.GeneratorExp elt [⟨target, iter, ifs, 0⟩] sc₀ gp) pos k) : cE C d sc ε μ (.Call (.Name x px) [.GeneratorExp elt [⟨target, iter, ifs, 0⟩] sc₀ gp] [] pos) k := h
theorem gen_call {fe elt target iter : Expr} {ifs : List Expr} {gp pos : Pos} {id : String} (hg : C.gen = false)
    (hev : ∀ env, eval (.Call fe [.GeneratorExp elt [⟨target, iter, ifs, 0⟩] sc₀ gp] [] pos) env = (eval fe env >>= fun f => callWith pos f [] (backTo pos (starEach [.GeneratorExp elt [⟨target, iter, ifs, 0⟩] sc₀ gp] env)) []))
    (hst : ∀ env, starEach [.GeneratorExp elt [⟨target, iter, ifs, 0⟩] sc₀ gp] env = (false, eval (.GeneratorExp elt [⟨target, iter, ifs, 0⟩] sc₀ gp) env) :: starEach [] env)
    (hk : sc₀.kind = .function) (h0 : sc₀.names.lookup (".0" : Str) = some NameKind.local) (hnc : sc₀.names.all (fun y => y.2 != .cell && y.2 != .free) = true) (hco : sc₀.isCoroutine = false)
    (hs : ∀ env x, genFold iter env x = pure x)
    {Pt : List V → Mem → Prop}
    (use : ∀ (A : Around) (items : List V) (μ₁ : Mem) (F Z : PMap) (s : Shared) (a : Addr) (g : Nat) (it L : Addr) (J : Nat → Obj → Prop) (cenv : Env) (o oL : Obj), Rm A d → Pt items μ₁ →
      GNew C F Z μ₁ (.GeneratorExp elt [⟨target, iter, ifs, 0⟩] sc₀ gp) items sc₀ a g it L J cenv o oL s → wpAny C.M A (call (.builtin id) [.ref a]) (Post C Z k F) (fun _ _ => False) s)
    (h : cE C d sc ε μ fe fun fw μ₁ => fw = .v (.glob (.builtin id)) ∧ cE C d sc ε μ₁ iter fun w μ₂ => ∃ P, cIter C d μ₂ w P ∧ (∀ Pt ∈ C.tabs, (Pt, O.tab) ∈ μ₂) ∧ ∀ items, P items → Pt items μ₂) :
    cGen C d sc ε μ fe (.GeneratorExp elt [⟨target, iter, ifs, 0⟩] sc₀ gp) pos k := fun A env F Z s hA hsc R S => by
  rw [hev]
  refine wpAny_bind (wpBot (h A env F Z s hA hsc R S) fun v s₁ hq => ?_)
  obtain ⟨fw, F₁, μ₁, ⟨hfw, h₁⟩, le₁, S₁, hv⟩ := hq
  subst hfw
  cases hv
  refine callWith_at (C := C) (Z := Z) (.inr (.inl ⟨_, rfl⟩)) (by rw [hst]; rfl) ?_
  refine wpAny_items_cons ?_ (hst env)
  refine gen_make hg hk h0 hnc hco hs hA hsc (R.mono le₁) S₁ h₁ fun items μ₂ F₂ s₂ a g it L J cenv o oL hP le₂ N => ?_
  refine wpAny_items_nil ⟨N.sim.kin, ?_⟩
  exact wpBot (use A items μ₂ F₂ Z s₂ a g it L J cenv o oL hA hP N) fun _ _ q => q.trans (le₁.trans le₂)
theorem cGen_all {fe elt target iter : Expr} {ifs : List Expr} {gp pos : Pos} (hg : C.gen = false)
    (hev : ∀ env, eval (.Call fe [.GeneratorExp elt [⟨target, iter, ifs, 0⟩] sc₀ gp] [] pos) env = (eval fe env >>= fun f => callWith pos f [] (backTo pos (starEach [.GeneratorExp elt [⟨target, iter, ifs, 0⟩] sc₀ gp] env)) []))
    (hst : ∀ env, starEach [.GeneratorExp elt [⟨target, iter, ifs, 0⟩] sc₀ gp] env = (false, eval (.GeneratorExp elt [⟨target, iter, ifs, 0⟩] sc₀ gp) env) :: starEach [] env)
    (hk : sc₀.kind = .function) (h0 : sc₀.names.lookup (".0" : Str) = some NameKind.local) (hnc : sc₀.names.all (fun y => y.2 != .cell && y.2 != .free) = true) (hco : sc₀.isCoroutine = false)
    (hs : ∀ env x, genFold iter env x = pure x)
    (h : cE C (d + 3) sc ε μ fe fun fw μ₁ => fw = .v (.glob (.builtin "all")) ∧ cE C (d + 3) sc ε μ₁ iter fun w μ₂ => ∃ P, cIter C (d + 3) μ₂ w P ∧ (∀ Pt ∈ C.tabs, (Pt, O.tab) ∈ μ₂) ∧ ∀ items, P items →
      ∃ (p : V → Bool) (f : V → Bool), Turn C d sc₀ target ifs elt μ₂ items p (fun x => .bool (f x)) ∧ k (.v (.bool (((items.filter p).map f).all id))) μ₂) :
    cGen C (d + 3) sc ε μ fe (.GeneratorExp elt [⟨target, iter, ifs, 0⟩] sc₀ gp) pos k := by
  refine gen_call hg hev hst hk h0 hnc hco hs (fun A items μ₁ F Z s a g it L J cenv o oL hA hP N => ?_) h
  (refine el22 hP fun p f turn hk' => ?_; try clear hP)
  refine call_function_tree PySem.F.kind_all PySem.F.plain_all PySem.F.entry_all (PySem.F.args_all1 _) ?_
  unfold Builtin.«all»
  refine wpAny_bind (m := oneArg "all" _) (wpAny_pure ?_)
  refine wpAny_bind (wpAny_pyIter_gen (N.isg _ N.sim.fz) ?_)
  have hK : ((items.filter p).map f).map V.bool = (items.filter p).map fun x => .bool (f x) := by rw [List.map_map]; rfl
  have H : GAt C A.in1 μ₁ F Z g it L [] (((items.filter p).map f).map V.bool) 0 F s := GAt.fresh (d := d) N.git (Rm.in1 (Rm.in1 hA)) hK (turn g) (by rw [Zp.nil]; exact N.sim) N.j0 N.dk N.fr
  refine wpAny_pure ⟨plainId_quiet PySem.F.plain_all_loop _, all_loop (d := d + 2) hA N.git N.isg (fun s' F' le' S' => ?_) _ 0 F s rfl (Nat.zero_le _) (.refl _) H rfl⟩
  exact ⟨_, F', μ₁, hk', le', S', .bool _⟩
theorem cGen_max {fe elt target iter : Expr} {ifs : List Expr} {gp pos : Pos} (hg : C.gen = false)
    (hev : ∀ env, eval (.Call fe [.GeneratorExp elt [⟨target, iter, ifs, 0⟩] sc₀ gp] [] pos) env = (eval fe env >>= fun f => callWith pos f [] (backTo pos (starEach [.GeneratorExp elt [⟨target, iter, ifs, 0⟩] sc₀ gp] env)) []))
    (hst : ∀ env, starEach [.GeneratorExp elt [⟨target, iter, ifs, 0⟩] sc₀ gp] env = (false, eval (.GeneratorExp elt [⟨target, iter, ifs, 0⟩] sc₀ gp) env) :: starEach [] env)
    (hk : sc₀.kind = .function) (h0 : sc₀.names.lookup (".0" : Str) = some NameKind.local) (hnc : sc₀.names.all (fun y => y.2 != .cell && y.2 != .free) = true) (hco : sc₀.isCoroutine = false)
    (hs : ∀ env x, genFold iter env x = pure x)
    (h : cE C (d + 3) sc ε μ fe fun fw μ₁ => fw = .v (.glob (.builtin "max")) ∧ cE C (d + 3) sc ε μ₁ iter fun w μ₂ => ∃ P, cIter C (d + 3) μ₂ w P ∧ (∀ Pt ∈ C.tabs, (Pt, O.tab) ∈ μ₂) ∧ ∀ items, P items →
      ∃ (p : V → Bool) (f : V → Int), Turn C d sc₀ target ifs elt μ₂ items p (fun x => .int (f x)) ∧ items.filter p ≠ [] ∧ ∀ m, k (.v (.int m)) μ₂) :
    cGen C (d + 3) sc ε μ fe (.GeneratorExp elt [⟨target, iter, ifs, 0⟩] sc₀ gp) pos k := by
  refine gen_call hg hev hst hk h0 hnc hco hs (fun A items μ₁ F Z s a g it L J cenv o oL hA hP N => ?_) h
  (refine el23 hP fun p f turn hne hk' => ?_; try clear hP)
  have hname : (toString "max" ++ toString ".loop" : String) = "max.loop" := by decide
  refine call_function_tree PySem.F.kind_max PySem.F.plain_max PySem.F.entry_max (PySem.F.args_max1 _) ?_
  show wpAny _ A.in1 (Builtin.Builtins.bindParams "max" ["key", "default"] 0 ⟨[], []⟩ >>= _) _ _ s
  refine wpAny_bind (wpAny_of_eq (show Builtin.Builtins.bindParams "max" ["key", "default"] 0 ⟨[], []⟩ = pure [none, none] from rfl) ?_)
  refine wpAny_bind (wpAny_pure ?_)
  refine wpAny_bind (wpAny_pyIter_gen (N.isg _ N.sim.fz) ?_)
  refine wpAny_bind (wpAny_newObj_type ?_ (by size_fits))
  rw [hname]
  have hK : ((items.filter p).map f).map V.int = (items.filter p).map fun x => .int (f x) := by rw [List.map_map]; rfl
  refine el03 (fresh_none N.sim) fun nF nZ nM => ?_
  have n1 : s.heap.objs.size ≠ L := fun q => by rw [q, PSet.self] at nZ; cases nZ
  rw [PSet.ne _ _ n1] at nZ
  have n2 : s.heap.objs.size ≠ it := fun q => by rw [q, PSet.self] at nZ; cases nZ
  rw [PSet.ne _ _ n2] at nZ
  have G' : GIt C F Z g it L [s.heap.objs.size] items J sc₀ cenv := ⟨N.git.iter, N.git.zi, N.git.zl, N.git.ne, fun q => n2 (List.mem_singleton.mp q).symm, fun q => n1 (List.mem_singleton.mp q).symm, N.git.sc, N.git.lo, N.git.gl, N.git.bl, N.git.kd, N.git.nc, N.git.co, N.git.gs⟩
  have hS : (s.heap.push { cls := .type "list", dict := none, data := .seq #[] }).get? s.heap.objs.size = some { cls := .type "list", dict := none, data := .seq #[] } := Heap.get?_push_size _ rfl
  have S₁ := N.sim.pushZ (o := { cls := .type "list", dict := none, data := .seq #[] }) rfl
  have e : PSet (PSet (PSet Z it o) L oL) s.heap.objs.size { cls := .type "list", dict := none, data := .seq #[] } = PSet (PSet (Zp [s.heap.objs.size] Z { s with heap := s.heap.push { cls := .type "list", dict := none, data := .seq #[] } }) it o) L oL := by
    funext b
    by_cases h1 : b = s.heap.objs.size
    · subst h1
      rw [PSet.self, PSet.ne _ _ n1, PSet.ne _ _ n2]; unfold Zp; rw [if_pos (List.mem_singleton.mpr rfl)]; exact hS.symm
    · rw [PSet.ne _ _ h1]
      unfold PSet
      by_cases h2 : b = L
      · rw [if_pos h2, if_pos h2]
      · rw [if_neg h2, if_neg h2]
        by_cases h3 : b = it
        · rw [if_pos h3, if_pos h3]
        · rw [if_neg h3, if_neg h3]
          unfold Zp
          rw [if_neg (by simpa using h1)]
  rw [e] at S₁
  have H : GAt C A.in1 μ₁ F Z g it L [s.heap.objs.size] (((items.filter p).map f).map V.int) 0 F { s with heap := s.heap.push { cls := .type "list", dict := none, data := .seq #[] } } := GAt.fresh (d := d) G' (Rm.in1 (Rm.in1 hA)) hK (turn g) S₁ N.j0 N.dk N.fr
  refine wpAny_pure ⟨plainId_quiet PySem.F.plain_max_loop _, max_first (d := d + 2) hA G' nZ N.isg (fun s' F' m t le' S' => ?_) (by simpa using hne) (.refl _) H hS⟩
  exact ⟨_, F', μ₁, hk' m, le', S', .int _ _⟩
theorem cGen_min {fe elt target iter : Expr} {ifs : List Expr} {gp pos : Pos} (hg : C.gen = false)
    (hev : ∀ env, eval (.Call fe [.GeneratorExp elt [⟨target, iter, ifs, 0⟩] sc₀ gp] [] pos) env = (eval fe env >>= fun f => callWith pos f [] (backTo pos (starEach [.GeneratorExp elt [⟨target, iter, ifs, 0⟩] sc₀ gp] env)) []))
    (hst : ∀ env, starEach [.GeneratorExp elt [⟨target, iter, ifs, 0⟩] sc₀ gp] env = (false, eval (.GeneratorExp elt [⟨target, iter, ifs, 0⟩] sc₀ gp) env) :: starEach [] env)
    (hk : sc₀.kind = .function) (h0 : sc₀.names.lookup (".0" : Str) = some NameKind.local) (hnc : sc₀.names.all (fun y => y.2 != .cell && y.2 != .free) = true) (hco : sc₀.isCoroutine = false)
    (hs : ∀ env x, genFold iter env x = pure x)
    (h : cE C (d + 3) sc ε μ fe fun fw μ₁ => fw = .v (.glob (.builtin "min")) ∧ cE C (d + 3) sc ε μ₁ iter fun w μ₂ => ∃ P, cIter C (d + 3) μ₂ w P ∧ (∀ Pt ∈ C.tabs, (Pt, O.tab) ∈ μ₂) ∧ ∀ items, P items →
      ∃ (p : V → Bool) (f : V → Int), Turn C d sc₀ target ifs elt μ₂ items p (fun x => .int (f x)) ∧ items.filter p ≠ [] ∧ ∀ m, k (.v (.int m)) μ₂) :
    cGen C (d + 3) sc ε μ fe (.GeneratorExp elt [⟨target, iter, ifs, 0⟩] sc₀ gp) pos k := by
  refine gen_call hg hev hst hk h0 hnc hco hs (fun A items μ₁ F Z s a g it L J cenv o oL hA hP N => ?_) h
  (refine el23 hP fun p f turn hne hk' => ?_; try clear hP)
  have hname : (toString "min" ++ toString ".loop" : String) = "min.loop" := by decide
  refine call_function_tree PySem.F.kind_min PySem.F.plain_min PySem.F.entry_min (PySem.F.args_min1 _) ?_
  show wpAny _ A.in1 (Builtin.Builtins.bindParams "min" ["key", "default"] 0 ⟨[], []⟩ >>= _) _ _ s
  refine wpAny_bind (wpAny_of_eq (show Builtin.Builtins.bindParams "min" ["key", "default"] 0 ⟨[], []⟩ = pure [none, none] from rfl) ?_)
  refine wpAny_bind (wpAny_pure ?_)
  refine wpAny_bind (wpAny_pyIter_gen (N.isg _ N.sim.fz) ?_)
  refine wpAny_bind (wpAny_newObj_type ?_ (by size_fits))
  rw [hname]
  have hK : ((items.filter p).map f).map V.int = (items.filter p).map fun x => .int (f x) := by rw [List.map_map]; rfl
  refine el03 (fresh_none N.sim) fun nF nZ nM => ?_
  have n1 : s.heap.objs.size ≠ L := fun q => by rw [q, PSet.self] at nZ; cases nZ
  rw [PSet.ne _ _ n1] at nZ
  have n2 : s.heap.objs.size ≠ it := fun q => by rw [q, PSet.self] at nZ; cases nZ
  rw [PSet.ne _ _ n2] at nZ
  have G' : GIt C F Z g it L [s.heap.objs.size] items J sc₀ cenv := ⟨N.git.iter, N.git.zi, N.git.zl, N.git.ne, fun q => n2 (List.mem_singleton.mp q).symm, fun q => n1 (List.mem_singleton.mp q).symm, N.git.sc, N.git.lo, N.git.gl, N.git.bl, N.git.kd, N.git.nc, N.git.co, N.git.gs⟩
  have hS : (s.heap.push { cls := .type "list", dict := none, data := .seq #[] }).get? s.heap.objs.size = some { cls := .type "list", dict := none, data := .seq #[] } := Heap.get?_push_size _ rfl
  have S₁ := N.sim.pushZ (o := { cls := .type "list", dict := none, data := .seq #[] }) rfl
  have e : PSet (PSet (PSet Z it o) L oL) s.heap.objs.size { cls := .type "list", dict := none, data := .seq #[] } = PSet (PSet (Zp [s.heap.objs.size] Z { s with heap := s.heap.push { cls := .type "list", dict := none, data := .seq #[] } }) it o) L oL := by
    funext b
    by_cases h1 : b = s.heap.objs.size
    · subst h1
      rw [PSet.self, PSet.ne _ _ n1, PSet.ne _ _ n2]; unfold Zp; rw [if_pos (List.mem_singleton.mpr rfl)]; exact hS.symm
    · rw [PSet.ne _ _ h1]
      unfold PSet
      by_cases h2 : b = L
      · rw [if_pos h2, if_pos h2]
      · rw [if_neg h2, if_neg h2]
        by_cases h3 : b = it
        · rw [if_pos h3, if_pos h3]
        · rw [if_neg h3, if_neg h3]
          unfold Zp
          rw [if_neg (by simpa using h1)]
  rw [e] at S₁
  have H : GAt C A.in1 μ₁ F Z g it L [s.heap.objs.size] (((items.filter p).map f).map V.int) 0 F { s with heap := s.heap.push { cls := .type "list", dict := none, data := .seq #[] } } := GAt.fresh (d := d) G' (Rm.in1 (Rm.in1 hA)) hK (turn g) S₁ N.j0 N.dk N.fr
  refine wpAny_pure ⟨plainId_quiet PySem.F.plain_min_loop _, min_first (d := d + 2) hA G' nZ N.isg (fun s' F' m t le' S' => ?_) (by simpa using hne) (.refl _) H hS⟩
  exact ⟨_, F', μ₁, hk' m, le', S', .int _ _⟩
end
end
section
open PySem PySem.Calls PyProof.Rows
mutual
noncomputable def toD : V → PyData
  | .none => .none
  | .bool b => .bool b
  | .int i => .int i
  | .str x => .str x
  | .tup vs => .tuple (toDs vs)
  | .list vs => .list (toDs vs)
  | .glob _ => .dict []
  | .dict _ => .dict []
  | .set _ => .dict []
  | .inst _ _ => .dict []
  | .rng _ _ => .dict []
noncomputable def toDs : List V → List PyData
  | [] => []
  | v :: r => toD v :: toDs r
end
theorem toDs_map : ∀ (vs : List V), toDs vs = vs.map toD := fun vs => List.rec rfl (fun v r ih => congrArg (toD v :: ·) ih) vs
section
variable {P : Params} {F : PMap} {h : Heap}
theorem Val.reads (hF : PIn F h) {d : V} {v : Value} (q : (toD d).canLay0 = true) (x : Val P F d v) : ∃ as, Reads h v (toD d) as :=
  Val.rec (motive_1 := fun d v _ => (toD d).canLay0 = true → ∃ as, Reads h v (toD d) as) (motive_2 := fun d v _ => PyData.canLayAll0 (toDs d) = true → ∃ as, ReadsAll h v (toDs d) as) (motive_3 := fun _ _ _ => True) (motive_4 := fun _ _ _ => True)
    (fun _ => ⟨_, .none⟩) (fun b _ => ⟨_, .bool b⟩) (fun i t _ => ⟨_, .int i t⟩) (fun x t _ => ⟨_, .str x t⟩) (fun _ _ q => (Bool.false_ne_true q).elim)
    (fun h1 _ r q => (r q).elim fun _ ra => ⟨_, .tuple (hF _ _ h1) rfl rfl ra⟩) (fun h1 _ r q => (r q).elim fun _ ra => ⟨_, .list (hF _ _ h1) rfl rfl ra⟩)
    (fun _ _ _ _ _ _ _ q => (Bool.false_ne_true q).elim) (fun _ _ _ _ _ _ q => (Bool.false_ne_true q).elim) (fun _ _ _ _ _ _ q => (Bool.false_ne_true q).elim) (fun _ q => (Bool.false_ne_true q).elim)
    (fun _ => ⟨_, .nil⟩) (fun _ _ a b q => have q := Bool.and_eq_true_iff.mp q; (a q.1).elim fun _ ra => (b q.2).elim fun _ rb => ⟨_, .cons ra rb⟩)
    trivial (fun _ _ _ _ _ _ => trivial) trivial (fun _ _ _ _ _ => trivial) x q
theorem Vals.reads (hF : PIn F h) {d : List V} {v : List Value} (q : PyData.canLayAll0 (toDs d) = true) (x : Vals P F d v) : ∃ as, ReadsAll h v (toDs d) as :=
  Vals.rec (motive_1 := fun d v _ => (toD d).canLay0 = true → ∃ as, Reads h v (toD d) as) (motive_2 := fun d v _ => PyData.canLayAll0 (toDs d) = true → ∃ as, ReadsAll h v (toDs d) as) (motive_3 := fun _ _ _ => True) (motive_4 := fun _ _ _ => True)
    (fun _ => ⟨_, .none⟩) (fun b _ => ⟨_, .bool b⟩) (fun i t _ => ⟨_, .int i t⟩) (fun x t _ => ⟨_, .str x t⟩) (fun _ _ q => (Bool.false_ne_true q).elim)
    (fun h1 _ r q => (r q).elim fun _ ra => ⟨_, .tuple (hF _ _ h1) rfl rfl ra⟩) (fun h1 _ r q => (r q).elim fun _ ra => ⟨_, .list (hF _ _ h1) rfl rfl ra⟩)
    (fun _ _ _ _ _ _ _ q => (Bool.false_ne_true q).elim) (fun _ _ _ _ _ _ q => (Bool.false_ne_true q).elim) (fun _ _ _ _ _ _ q => (Bool.false_ne_true q).elim) (fun _ q => (Bool.false_ne_true q).elim)
    (fun _ => ⟨_, .nil⟩) (fun _ _ a b q => have q := Bool.and_eq_true_iff.mp q; (a q.1).elim fun _ ra => (b q.2).elim fun _ rb => ⟨_, .cons ra rb⟩)
    trivial (fun _ _ _ _ _ _ => trivial) trivial (fun _ _ _ _ _ => trivial) x q
end
section
variable {C : Cx} {d : Nat} {μ : Mem} {k : PostW}
theorem Rm.u64 {A : Around} (h : Rm A (d + 4)) : A.units + 66 < cLine := by have := h.un; lia
theorem v_neD {a b : V} (ha : SeqAt.shaped (toD a) = true) (hb : SeqAt.shaped (toD b) = true) (h : k (.v (.bool (!PyData.eqv (toD a) (toD b)))) μ) : cV2 C (d + 4) μ (.v a) (.v b) (compareOp .NotEq) k := fun A F Z s u v hA S hu hv => by
  obtain ⟨as, ra⟩ := Val.reads S.fz (SeqAt.canLay_of_shaped ha) hu
  obtain ⟨bs, rb⟩ := Val.reads S.fz (SeqAt.canLay_of_shaped hb) hv
  exact ne_dataH ra rb ha hb (by have := hA.u64; lia) ⟨_, F, μ, h, .refl _, S, .bool _⟩
theorem WsAt.vals {P : Params} {F : PMap} : ∀ {vs : List V} {us : List Value}, WsAt P F (vs.map .v) us → Vals P F vs us
  | [], _, .nil => .nil
  | _ :: _, _, .cons a b => .cons a (WsAt.vals b)
theorem has_reads {F Z : PMap} {s : Shared} {x : W} {vs : List V} {u : Value} (S : Sim C F Z μ s) (hH : Has μ x (.list (vs.map .v))) (hw : WAt C.P F x u) (hc : PyData.canLayAll0 (toDs vs) = true) : ∃ as, Reads s.heap u (.list (toDs vs)) as := by
  cases x with
  | l a =>
    refine WAt.i_l hw ?_
    obtain ⟨_, _, ob, h3, ws, n, h4, h5⟩ := S.own _ _ hH
    obtain ⟨as, r⟩ := Vals.reads S.fz hc (WsAt.vals h5)
    subst h4
    exact ⟨_, .list h3 rfl rfl r⟩
  | v dd =>
    cases dd with
    | list ds =>
      have e : vs.map W.v = ds.map W.v := by
        have : O.list (vs.map .v) = O.list (ds.map .v) := hH
        injection this
      have e2 : vs = ds := by
        have hi : Function.Injective W.v := fun a b q => by injection q
        exact (List.map_inj_right (fun x y q => by injection q)).mp e
      subst e2
      exact Val.reads (d := .list vs) S.fz hc hw
    | _ => first | exact hH.elim | cases hH
theorem any_toDs {vs : List V} {q : PyData} : ((toDs vs).any fun y => PyData.eqv y q) = vs.any fun y => PyData.eqv (toD y) q := by
  rw [toDs_map, List.any_map]; rfl
theorem v_inL {x : W} {vs : List V} {a : V} (hH : Has μ x (.list (vs.map .v))) (hc : PyData.canLayAll0 (toDs vs) = true) (ha : SeqAt.shaped (toD a) = true) (h : k (.v (.bool (vs.any fun y => PyData.eqv (toD y) (toD a)))) μ) :
    cV2 C (d + 4) μ (.v a) x (compareOp .In) k := fun A F Z s u v hA S hu hv => by
  obtain ⟨as, ra⟩ := Val.reads S.fz (SeqAt.canLay_of_shaped ha) hu
  obtain ⟨bs, rb⟩ := has_reads S hH hv hc
  exact SeqAt.in_list_reads rb ra hc (SeqAt.canLay_of_shaped ha) (PyProof.Rows.room_in_shaped ha (by have := hA.u64; lia)) (by rw [any_toDs]; exact ⟨_, F, μ, h, .refl _, S, .bool _⟩)
theorem v_notInL {x : W} {vs : List V} {a : V} (hH : Has μ x (.list (vs.map .v))) (hc : PyData.canLayAll0 (toDs vs) = true) (ha : SeqAt.shaped (toD a) = true) (h : k (.v (.bool (!vs.any fun y => PyData.eqv (toD y) (toD a)))) μ) :
    cV2 C (d + 4) μ (.v a) x (compareOp .NotIn) k := fun A F Z s u v hA S hu hv => by
  obtain ⟨as, ra⟩ := Val.reads S.fz (SeqAt.canLay_of_shaped ha) hu
  obtain ⟨bs, rb⟩ := has_reads S hH hv hc
  exact SeqAt.notIn_list_reads rb ra hc (SeqAt.canLay_of_shaped ha) (PyProof.Rows.room_in_shaped ha (by have := hA.u64; lia)) (by rw [any_toDs]; exact ⟨_, F, μ, h, .refl _, S, .bool _⟩)
end
theorem eqvAll_map {α : Type} [DecidableEq α] {f : α → PyData} (hf : ∀ x y, PyData.eqv (f x) (f y) = decide (x = y)) : ∀ (xs ys : List α), PyData.eqvAll (xs.map f) (ys.map f) = decide (xs = ys)
  | [], [] => by simp [PyData.eqvAll]
  | [], _ :: _ => by simp [PyData.eqvAll]
  | _ :: _, [] => by simp [PyData.eqvAll]
  | x :: xs, y :: ys => by
    simp only [List.map_cons, PyData.eqvAll, hf, eqvAll_map hf xs ys]
    by_cases h1 : x = y <;> by_cases h2 : xs = ys <;> simp [h1, h2]
theorem canLayAll_map {α : Type} {f : α → PyData} : ∀ (xs : List α), (∀ x ∈ xs, (f x).canLay0 = true) → PyData.canLayAll0 (xs.map f) = true
  | [], _ => rfl
  | x :: xs, h => by
    simp only [List.map_cons, PyData.canLayAll0, h x (.head _), canLayAll_map xs fun y hy => h y (.tail _ hy), Bool.and_self]
theorem depthAll_map {α : Type} {f : α → PyData} {n : Nat} : ∀ (xs : List α), (∀ x ∈ xs, (f x).depth ≤ n) → PyData.depthAll (xs.map f) ≤ n
  | [], _ => Nat.zero_le _
  | x :: xs, h => by
    simp only [List.map_cons, PyData.depthAll]
    exact Nat.max_le.mpr ⟨h x (.head _), depthAll_map xs fun y hy => h y (.tail _ hy)⟩
noncomputable def sOk (x : Str) : Bool := (PyData.str x).canLay0
theorem toD_tup {vs : List V} : toD (.tup vs) = .tuple (vs.map toD) := congrArg PyData.tuple (toDs_map vs)
theorem toD_list {vs : List V} : toD (.list vs) = .list (vs.map toD) := congrArg PyData.list (toDs_map vs)
theorem eqv_str (x y : Str) : PyData.eqv (.str x) (.str y) = decide (x = y) := by
  simp only [PyData.eqv]; by_cases h : x = y <;> simp [h]
theorem map_toD_str (xs : List Str) : (xs.map V.str).map toD = xs.map PyData.str := by rw [List.map_map]; rfl
theorem eqv_strs (xs ys : List Str) : PyData.eqv (toD (.list (xs.map .str))) (toD (.list (ys.map .str))) = decide (xs = ys) := by
  rw [toD_list, toD_list, map_toD_str, map_toD_str]
  simp only [PyData.eqv]
  exact eqvAll_map eqv_str xs ys
theorem eqv_stup (xs ys : List Str) : PyData.eqv (toD (.tup (xs.map .str))) (toD (.tup (ys.map .str))) = decide (xs = ys) := by
  rw [toD_tup, toD_tup, map_toD_str, map_toD_str]
  simp only [PyData.eqv]
  exact eqvAll_map eqv_str xs ys
theorem eqv_stups (xs ys : List (List Str)) : PyData.eqv (toD (.list (xs.map fun x => .tup (x.map .str)))) (toD (.list (ys.map fun x => .tup (x.map .str)))) = decide (xs = ys) := by
  rw [toD_list, toD_list, List.map_map, List.map_map]
  simp only [PyData.eqv]
  exact eqvAll_map (f := toD ∘ fun x : List Str => V.tup (x.map .str)) (fun x y => eqv_stup x y) xs ys
theorem eqv_pair (a b c d : Int) : PyData.eqv (toD (.tup [.int a, .int b])) (toD (.tup [.int c, .int d])) = decide ((a, b) = (c, d)) := by
  rw [toD_tup, toD_tup]
  show (PyData.eqv (.int a) (.int c) && (PyData.eqv (.int b) (.int d) && true)) = _
  simp only [PyData.eqv, Bool.and_true]
  by_cases h1 : a = c <;> by_cases h2 : b = d <;> simp [h1, h2]
theorem eqv_bool (a b : Bool) : PyData.eqv (toD (.bool a)) (toD (.bool b)) = (a == b) := by show PyData.eqv (.bool a) (.bool b) = _; simp [PyData.eqv]
theorem sh_strs {xs : List Str} (h : ∀ x ∈ xs, sOk x = true) : SeqAt.shaped (toD (.list (xs.map .str))) = true := by
  unfold SeqAt.shaped; rw [Bool.and_eq_true_iff, toD_list, map_toD_str]
  refine ⟨by simp only [PyData.canLay0]; exact canLayAll_map xs h, decide_eq_true ?_⟩
  have := depthAll_map (f := PyData.str) (n := 0) xs fun x _ => by simp [PyData.depth]
  simp only [PyData.depth]; lia
theorem dp_stup (x : List Str) : (toD (.tup (x.map .str))).depth ≤ 1 := by
  rw [toD_tup, map_toD_str]
  have := depthAll_map (f := PyData.str) (n := 0) x fun x _ => by simp [PyData.depth]
  simp only [PyData.depth]; lia
theorem cl_stup {x : List Str} (h : ∀ y ∈ x, sOk y = true) : (toD (.tup (x.map .str))).canLay0 = true := by
  rw [toD_tup, map_toD_str]; simp only [PyData.canLay0]; exact canLayAll_map x h
theorem sh_stup {x : List Str} (h : ∀ y ∈ x, sOk y = true) : SeqAt.shaped (toD (.tup (x.map .str))) = true := by
  unfold SeqAt.shaped; rw [Bool.and_eq_true_iff]
  exact ⟨cl_stup h, decide_eq_true (Nat.le_trans (dp_stup x) (by decide))⟩
theorem sh_stups {xs : List (List Str)} (h : ∀ x ∈ xs, ∀ y ∈ x, sOk y = true) : SeqAt.shaped (toD (.list (xs.map fun x => .tup (x.map .str)))) = true := by
  unfold SeqAt.shaped; rw [Bool.and_eq_true_iff, toD_list, List.map_map]
  refine ⟨by simp only [PyData.canLay0]; exact canLayAll_map xs fun x hx => cl_stup (h x hx), decide_eq_true ?_⟩
  have := depthAll_map (f := toD ∘ fun x : List Str => V.tup (x.map .str)) (n := 1) xs fun x _ => dp_stup x
  simp only [PyData.depth]; lia
theorem sh_pair (a b : Int) : SeqAt.shaped (toD (.tup [.int a, .int b])) = true := by rw [toD_tup]; rfl
theorem sh_bool (a : Bool) : SeqAt.shaped (toD (.bool a)) = true := rfl
theorem cl_toDs {α : Type} {f : α → V} {xs : List α} (h : ∀ x ∈ xs, SeqAt.shaped (toD (f x)) = true) : PyData.canLayAll0 (toDs (xs.map f)) = true := by
  rw [toDs_map, List.map_map]; exact canLayAll_map xs fun x hx => SeqAt.canLay_of_shaped (h x hx)
theorem sOk_nm {i : Nat} (h : i < 4) : sOk (nm i) = true := by
  have : i = 0 ∨ i = 1 ∨ i = 2 ∨ i = 3 := by lia
  rcases this with rfl | rfl | rfl | rfl <;> decide +kernel
theorem sOk_N : sOk tN = true := by decide +kernel
end
section
open PySem PySem.Calls PyProof.Rows Builtin
section
variable {C : Cx} {d : Nat} {sc sc₀ : Scope} {ε : Env1} {μ μ' : Mem} {k : PostW} {kb : Bool → Mem → Prop} {kf : PostF}
theorem cCode.mono {fv : Value} {xs : List W} {kws : List (Str × W)} {k k' : PostW} (h : cCode C d μ fv xs kws k) (hk : ∀ x m, k x m → k' x m) : cCode C d μ fv xs kws k' := fun A F Z s vs kvs a b c e =>
  codeAny_mono (h A F Z s vs kvs a b c e) fun r s' q => by
    cases r with
    | error _ => exact q
    | ok f =>
      cases f with
      | ret v => obtain ⟨x, F', μ', q, r1, r2, r3⟩ := q; exact ⟨x, F', μ', hk _ _ q, r1, r2, r3⟩
      | _ => exact q
theorem cCall.deep {fv : Value} {xs : List W} {kws : List (Str × W)} {d' : Nat} (h : cCall C d' μ fv xs kws k) (hd : d' ≤ d) : cCall C d μ fv xs kws k := fun A F Z s vs kvs a => h A F Z s vs kvs (a.mono hd)
noncomputable abbrev Cx.noGen (C : Cx) : Cx := { C with gen := false }
theorem cCall.noGen {fv : Value} {xs : List W} {kws : List (Str × W)} (h : cCall C.noGen d μ fv xs kws k) : cCall C d μ fv xs kws k := fun A F Z s vs kvs a S hv hkv =>
  wpBot (h A F Z s vs kvs a ⟨S.base, S.fz, S.zz, S.dis, S.own, S.nod, S.os, S.gens⟩ hv hkv) fun _ _ ⟨x, F', μ', q, le, S', hw⟩ => ⟨x, F', μ', q, le, ⟨S'.base, S'.fz, S'.zz, S'.dis, S'.own, S'.nod, S'.os, S'.gens⟩, hw⟩
theorem t_none (h : kb false μ) : cB1 C d μ (.v .none) truthy kb := fun A F Z s a hA S hv => by
  refine Val.i_none hv ?_; exact PyProof.Rows.truthy_none ⟨F, μ, h, .refl _, S⟩
theorem t_tup {vs : List V} (hz : vs.length ≤ 100000) (h : kb (!vs.isEmpty) μ) : cB1 C d μ (.v (.tup vs)) truthy kb := fun A F Z s a hA S hv => by
  refine Val.i_tup hv fun b ws n h1 h2 => ?_
  have e := h2.toList
  refine PyProof.Rows.truthy_tuple (items := ws) ⟨_, S.fz _ _ h1, rfl, _, rfl⟩ (by rw [Array.length_toList] at e; lia) ⟨F, μ, ?_, .refl _, S.tok _⟩
  have : ws.isEmpty = vs.isEmpty := by
    rw [← Array.isEmpty_toList]
    cases vs with
    | nil => cases hw : ws.toList with
      | nil => rfl
      | cons x r => rw [hw] at e; cases e
    | cons y r => cases hw : ws.toList with
      | nil => rw [hw] at e; cases e
      | cons x r => rfl
  rw [this]; exact h
theorem tup_list {vs : List V} (hz : vs.length ≤ 100000) (h : k (.v (.tup vs)) μ) : cCall C d μ (.type "tuple") [.v (.list vs)] [] k := fun A F Z s us kvs hA S hv hkv => by
  refine KwAt.i_nil hkv ?_
  refine WsAt.i1 hv fun u hu => ?_
  refine Val.i_list hu fun a ws n h1 h2 => ?_
  refine call_tuple_list (l := a) (items := ws) ⟨_, S.fz _ _ h1, rfl, _, rfl⟩ (fun h' hk => ?_) (by have := h2.toList; rw [Array.length_toList] at this; unfold sizeLine; lia)
  have S₁ := S.ext hk s.toks
  refine el13 (Sim.pushF S₁ (o := { cls := .type "tuple", data := .seq ws }) rfl) fun F' le e S₂ => ?_
  exact ⟨_, F', μ, h, le, S₂, .tup e (Vals.mono le h2)⟩
theorem add_LL {xs ys : List V} (hz : xs.length + ys.length ≤ 100000) (h : k (.v (.list (xs ++ ys))) μ) : cV2 C d μ (.v (.list xs)) (.v (.list ys)) (binaryOp .Add) k := fun A F Z s a b hA S ha hb => by
  refine Val.i_list ha fun _ _ _ h1 h2 => ?_
  refine Val.i_list hb fun _ _ _ g1 g2 => ?_
  rename_i a ws n b us m
  refine PySem.P.add_list (S.isL h1) (S.isL g1) ?_ (by have e1 := h2.toList; have e2 := g2.toList; rw [Array.length_toList] at e1 e2; unfold sizeLine; lia)
  refine el13 (Sim.pushF S (o := { cls := .type "list", data := .seq (ws ++ us) }) rfl) fun F' le e S₂ => ?_
  refine ⟨_, F', μ, h, le, S₂, .list e ?_⟩
  rw [Array.toList_append]
  have app : ∀ {ds es : List V} {v w : List Value}, Vals C.P F' ds v → Vals C.P F' es w → Vals C.P F' (ds ++ es) (v ++ w) := fun {ds es v w} x y => by
    induction ds generalizing v with
    | nil => refine Vals.i_nil x ?_; exact y
    | cons d ds ih => cases x with | cons p q => exact .cons p (ih q)
  exact app (Vals.mono le h2) (Vals.mono le g2)
theorem len_inst {c f : Addr} {fs : List (Str × V)} (hs : PySem.W.findIn C.K (.ref c) "__len__" = some (some (.ref f))) (hf : PySem.W.typeIn C.K (.ref f) = some (.type "function"))
    (h : cCall C d μ (.ref f) [.v (.inst c fs)] [] fun w μ₁ => ∃ n : Int, w = .v (.int n) ∧ 0 ≤ n ∧ n < 100000 ∧ k (.v (.int n)) μ₁) : cCall C (d + 1) μ (.builtin "len") [.v (.inst c fs)] [] k := fun A F Z s us kvs hA S hv hkv => by
  refine KwAt.i_nil hkv ?_
  refine WsAt.i1 hv fun u hu => ?_
  refine Val.i_inst hu fun _ _ _ _ _ h1 h2 h3 h4 h5 => ?_
  refine Calls.call_function_entry kind_len plain_len entry_len (args_len1 _) ?_
  unfold Builtin.«len»
  refine wpAny_bind (m := oneArg "len" _) (wpAny_pure ?_)
  refine wpAny_bind (m := callSpecial? (.ref _) (Str.ofString "__len__")) (PySem.W.special_fn S.kin (S.inst h1 h2) hs hf (wpBot (h A.in1 F Z s _ _ hA.in1 S (.cons (Val.inst h1 h2 h3 h4 h5) .nil) .nil) fun r s' hr => ?_))
  obtain ⟨w, F', μ', ⟨n, e, hn, hn2, hk⟩, le, S', hw⟩ := hr
  subst e
  refine Val.i_int hw fun _ => ?_
  refine wpAny_bind (wpAny_holding (wpAny_pure ?_))
  refine wpAny_bind (wpAny_letGo ?_)
  show wpAny _ _ (if n < 0 then _ else _) _ _ _
  rw [if_neg (by lia)]
  show wpAny _ _ (if n ≥ 2 ^ 63 then _ else _) _ _ _
  rw [if_neg (by lia)]
  exact wpAny_bind (wpAny_mkInt (wpAny_pure ⟨_, rfl, .v (.int n), F', μ', hk, le, S'.tok _, .int _ _⟩))
end
end
section
open PySem PySem.Calls PyProof.Rows Builtin
section
variable {C : Cx} {d : Nat} {sc sc₀ : Scope} {ε : Env1} {μ μ' : Mem} {k : PostW} {kb : Bool → Mem → Prop} {kf : PostF}
theorem m_index {x : Str} {kk : Value → List W → Mem → Prop} (h : kk (.builtin "str.index") [.v (.str x)] μ) : cMeth C d μ (.v (.str x)) "index" kk := fun A F Z s v pl hA S hv => by
  refine Val.i_str hv fun _ => ?_
  exact PySem.GM.index ⟨_, F, μ, h, .refl _, S, .cons (.str _ _) .nil⟩
theorem c_index {x y : Str} {i : Nat} {rest : List Nat} (ho : Builtin.Str.occurrences x y 0 x.length 1 = i :: rest) (h : k (.v (.int i)) μ) : cCall C d μ (.builtin "str.index") [.v (.str x), .v (.str y)] [] k := fun A F Z s vs kvs hA S hv hkv => by
  refine KwAt.i_nil hkv ?_
  (refine el23 (hv.inv2) fun u v qq2 hu hv' => ?_; subst qq2)
  refine Val.i_str hu fun _ => ?_; refine Val.i_str hv' fun _ => ?_
  exact PySem.SC.index ho ⟨_, F, μ, h, .refl _, S.tok _, .int _ _⟩
theorem cSl_mk {v e : Expr} {p pos : Pos} (ht : ∀ o r, letTemporaryGo v o r = pure ()) (h : cE C d sc ε μ v fun w μ₁ => ∃ a items vs, w = .v (.glob (.ref a)) ∧ C.B.IsList a items ∧ Vals C.P (fun _ => none) vs items.toList ∧ items.size ≤ 100000 ∧
    cE C d sc ε μ₁ e fun u μ₂ => ∃ b : Nat, u = .v (.int b) ∧ k (.v (.list (vs.take b))) μ₂) : cE C d sc ε μ (.Subscript v (.Slice none (some e) none p) pos) k := fun A env F Z s hA hs R S => by
  refine wpAny_Subscript_list_slice (wpBot (h A env F Z s hA hs R S) fun o s₁ ⟨w, F₁, μ₁, ⟨a, items, vs, hw, hl, hvs, hz, h₂⟩, le₁, S₁, hv⟩ => ?_) ht
  subst hw
  cases hv
  rw [show evalPart (none : Option Expr) env = pure .none from rfl]
  refine wpAny_pure ?_
  show wpAny _ A (eval e env) _ _ _
  refine wpBot (h₂ A env F₁ Z s₁ hA hs (R.mono le₁) S₁) fun u s₂ hq => ?_
  obtain ⟨w, F₂, μ₂, ⟨b, hw, hk⟩, le₂, S₂, hu⟩ := hq
  subst hw
  refine Val.i_int hu fun tk => ?_
  refine ⟨a, items, none, some (b : Int), rfl, ?_, by unfold sizeLine; lia, .none, .int _ _, ?_⟩
  · (refine el13 hl fun o ho hc qr => ?_; try clear hl; obtain ⟨n, hd⟩ := qr)
    exact ⟨o, S₂.keep _ _ ho, hc, n, hd⟩
  have S₃ := S₂.ext (h' := s₂.heap.push { cls := .type "slice", data := .fields #[.none, .int (b : Int) tk, .none] }) (fun _ _ e => Heap.get?_push_of_some _ e) s₂.toks
  refine el13 (Sim.pushF S₃ (o := { cls := .type "list", data := .seq (slicePick items none (some (b : Int)) none) }) rfl) fun F' le e S₄ => ?_
  rw [Heap.size_push] at e
  refine ⟨_, F', μ₂, hk, (le₁.trans le₂).trans le, S₄, .list e ?_⟩
  rw [slicePick_upto']
  have tk2 : ∀ {n : Nat} {ds : List V} {us : List Value}, Vals C.P (fun _ => none) ds us → Vals C.P F' (ds.take n) (us.take n) := fun {n ds us} q => by
    induction n generalizing ds us with
    | zero => rw [List.take_zero, List.take_zero]; exact .nil
    | succ n ih => cases q with
      | nil => exact .nil
      | cons a b => exact .cons (Val.mono (fun _ _ q => by cases q) a) (ih b)
  exact tk2 hvs
theorem cE_listSt {elt iter : Expr} {x : Str} {px pos : Pos} (hk : sc₀.kind = .function) (hn : decide (sc₀.names.map (·.1)).Nodup = true)
    (hfree : (sc₀.names.all fun x => x.2 != .free || (sc.names.lookup x.1 == some .cell || sc.names.lookup x.1 == some .free)) = true) (hs : ∀ env x, foldedSetIterable iter env x = pure x)
    (hx : sc₀.names.lookup x = some .local ∨ sc₀.names.lookup x = some .cell)
    (h : cE C d sc ε μ iter fun w μ₁ => ∃ (n : Nat), w = .v (.rng 0 n) ∧ n < 1000 ∧ ∃ (M : Nat → Mem) (g : Nat → V), M 0 = μ₁ ∧
      (∀ i, i < n → ∀ acc L, cE C d (relS sc₀ sc) ((x, .v (.int i)) :: dropN sc₀ ε) ((acc, L) :: M i) elt fun w m => w = .v (g i) ∧ m = (acc, L) :: M (i + 1)) ∧ k (.v (.list ((List.range n).map g))) (M n)) :
    cE C d sc ε μ (.ListComp elt [⟨.Name x px, iter, [], 0⟩] sc₀ pos) k := by
  refine cE.fzR (cE_comp (compL_ok hk (of_decide_eq_true hn) hfree hs) (fun env => rfl) ?_)
  refine cE.mono h (fun w μ₁ hh => ?_)
  obtain ⟨n, rfl, hn2, M, g, hM, turn, hk'⟩ := hh
  refine ⟨_, it_rng (by decide) (by decide) (by lia) (by lia), fun items hpi => ?_⟩
  subst hpi
  refine fun acc => ⟨fun i m => m = (acc, .list (((List.range i).map g).map .v)) :: M i, by show _ = _ :: M 0; rw [hM]; rfl, fun i y μ' hx' hm => ?_, fun μ' hm => ?_⟩
  · subst hm
    obtain ⟨hi, rfl⟩ := rngV_get hx'
    have hi' : i < n := by lia
    refine ⟨_, tgt_name hx, ifs_nil ⟨fun _ => u_list ?_, fun q => by cases q⟩⟩
    have e : (0 : Int) + (i : Int) = i := by lia
    rw [e]
    refine cE.mono (turn i hi' acc _) fun w m hq => ?_
    obtain ⟨hw, hm⟩ := hq
    subst hw; subst hm
    refine v_append .here (by simp only [List.length_map, List.length_range]; lia) ?_
    show _ = _
    rw [List.range_succ]; simp
  · subst hm
    have e : (rngV 0 (n : Int)).length = n := by unfold rngV; simp
    rw [e]
    exact ⟨_, .v (.list ((List.range n).map g)), M n, fz_obj (.head _) (.list (frozen_map _)) .here (FrzT.refl _), .put, hk'⟩
end
noncomputable def gsM (ad : Nat → Addr) (ks : Nat → List Key) (L : List Nat) : Mem := L.map fun i => (ad i, O.set (ks i))
theorem UpdAt.app {a : Addr} {x y : O} {r r' : Mem} (h : UpdAt a x y r r') : ∀ (l : Mem), UpdAt a x y (l ++ r) (l ++ r')
  | [] => h
  | _ :: l => .there (UpdAt.app h l)
theorem UpdAt.gs {ad : Nat → Addr} {ks : Nat → List Key} {i : Nat} {new : List Key} {r : Mem} : ∀ {L : List Nat}, L.Nodup → i ∈ L → UpdAt (ad i) (.set (ks i)) (.set new) (gsM ad ks L ++ r) (gsM ad (fun x => if x = i then new else ks x) L ++ r)
  | j :: L, hn, hi => by
    obtain ⟨h1, h2⟩ := List.nodup_cons.mp hn
    by_cases e : j = i
    · subst e
      have : L.map (fun x => (ad x, O.set (if x = j then new else ks x))) = L.map fun x => (ad x, O.set (ks x)) := List.map_congr_left fun x hx => by
        have : x ≠ j := fun q => h1 (q ▸ hx)
        simp [this]
      show UpdAt _ _ _ ((ad j, O.set (ks j)) :: (L.map _ ++ r)) ((ad j, O.set (if j = j then new else ks j)) :: (L.map (fun x => (ad x, O.set (if x = j then new else ks x))) ++ r))
      rw [this, if_pos rfl]
      exact .here
    · show UpdAt _ _ _ ((ad j, O.set (ks j)) :: (L.map _ ++ r)) ((ad j, O.set (if j = i then new else ks j)) :: (L.map (fun x => (ad x, O.set (if x = i then new else ks x))) ++ r))
      rw [if_neg e]
      refine .there (UpdAt.gs h2 ?_)
      rcases List.mem_cons.mp hi with q | q
      · exact absurd q.symm e
      · exact q
theorem mem_gs {ad : Nat → Addr} {ks : Nat → List Key} {i : Nat} {L : List Nat} {r : Mem} (h : i ∈ L) : (ad i, O.set (ks i)) ∈ gsM ad ks L ++ r := List.mem_append_left _ (List.mem_map_of_mem (f := fun i => (ad i, O.set (ks i))) h)
theorem Fz.trans {C : Cx} {ρ ρ' : W → W → Prop} {μ μ' μ'' : Mem} (h : Fz C ρ μ μ') (h' : Fz C ρ' μ' μ'') : Fz C (fun w w'' => ∃ w', ρ w w' ∧ ρ' w' w'') μ μ'' := fun F Z s S => by
  refine el13 (h F Z s S) fun F₁ le₁ S₁ q₁ => ?_
  refine el13 (h' F₁ Z s S₁) fun F₂ le₂ S₂ q₂ => ?_
  exact ⟨F₂, le₁.trans le₂, S₂, fun w w'' v ⟨w', a, b⟩ hw => q₂ _ _ _ b (q₁ _ _ _ a hw)⟩
theorem Fz.imp {C : Cx} {ρ ρ' : W → W → Prop} {μ μ' : Mem} (h : Fz C ρ μ μ') (hi : ∀ w w', ρ' w w' → ρ w w') : Fz C ρ' μ μ' := fun F Z s S => by
  refine el13 (h F Z s S) fun F₁ le₁ S₁ q₁ => ?_
  exact ⟨F₁, le₁, S₁, fun w w' v a hw => q₁ _ _ _ (hi _ _ a) hw⟩
theorem fz_gs {C : Cx} {K : Nat → Key} {ad : Nat → Addr} {ks : Nat → List Key} {dom : List Nat} {D : Addr} {r : Mem} : ∀ (L : List Nat),
    Fz C (fun w w' => w = w') (gsM ad ks L ++ (D, .dict (dom.map fun i => (K i, if i ∈ L then W.l (ad i) else W.v (.set (ks i))))) :: r) ((D, .dict (dom.map fun i => (K i, W.v (.set (ks i))))) :: r)
  | [] => by simpa [gsM] using Fz.refl
  | j :: L => by
    have h1 : Fz C (FrzW (ad j) (.set (ks j))) (gsM ad ks (j :: L) ++ (D, .dict (dom.map fun i => (K i, if i ∈ j :: L then W.l (ad i) else W.v (.set (ks i))))) :: r)
        (gsM ad ks L ++ (D, .dict (dom.map fun i => (K i, if i ∈ L then W.l (ad i) else W.v (.set (ks i))))) :: r) := by
      refine fz_obj (o := .set (ks j)) (.head _) .set .here (FrzT.append (FrzT.refl _) (.cons (.dict ?_) (FrzT.refl _)))
      induction dom with
      | nil => exact .nil
      | cons x dom ih =>
        refine .cons ?_ ih
        by_cases e1 : x ∈ L
        · rw [if_pos e1, if_pos (.tail _ e1)]; exact .same _
        · rw [if_neg e1]
          by_cases e2 : x = j
          · subst e2; rw [if_pos (.head _)]; exact .put
          · rw [if_neg (by simp [e1, e2])]; exact .same _
    exact (h1.trans (fz_gs L)).imp fun w w' q => ⟨w, .same _, q⟩
section
variable {C : Cx} {d : Nat} {sc sc₀ : Scope} {ε : Env1} {μ μ' : Mem} {k : PostW} {kb : Bool → Mem → Prop} {kf : PostF}
theorem cE_dictS {kx vx target iter : Expr} {pos : Pos} (hk : sc₀.kind = .function) (hn : decide (sc₀.names.map (·.1)).Nodup = true)
    (hfree : (sc₀.names.all fun x => x.2 != .free || (sc.names.lookup x.1 == some .cell || sc.names.lookup x.1 == some .free)) = true) (hs : ∀ env x, foldedSetIterable iter env x = pure x)
    (h : cE C d sc ε μ iter fun w μ₁ => ∃ P, cIter C d μ₁ w P ∧ ∀ items, P items → ∃ (L : List Nat) (K : Nat → Key) (R : Nat → List Key → Prop), Naming K ∧ items = L.map (fun i => (K i).val) ∧ L.Nodup ∧ (∀ i ∈ L, i < 4) ∧
      (∀ i ∈ L, ∃ bs, cTgt C sc₀ target (.v (K i).val) bs ∧ ∀ m, cE C d (relS sc₀ sc) (bs ++ dropN sc₀ ε) m kx fun w m' => w = .v (K i).val ∧ m' = m ∧
        cE C d (relS sc₀ sc) (bs ++ dropN sc₀ ε) m vx fun w m' => ∃ a l, w = .l a ∧ m' = (a, .set l) :: m ∧ R i l) ∧
      ∀ D ad ks, (∀ i ∈ L, R i (ks i)) → k (.l D) (gsM ad ks L.reverse ++ (D, .dict (L.map fun i => (K i, W.l (ad i)))) :: μ₁)) :
    cE C d sc ε μ (.DictComp kx vx [⟨target, iter, [], 0⟩] sc₀ pos) k := by
  refine cE_comp (compD_ok hk (of_decide_eq_true hn) hfree hs) (fun env => rfl) ?_
  refine cE.mono h fun w μ₁ ⟨P, hi, hP⟩ => ⟨P, hi, fun items hpi => ?_⟩
  refine el36 (hP items hpi) fun L K R N hit hnd h4 turn hk' => ?_
  subst hit
  refine el12 (N.kind) fun κ hκ2 hκ => ?_
  refine fun acc => ⟨fun t m => ∃ ad ks, (∀ i ∈ L.take t, R i (ks i)) ∧ m = gsM ad ks (L.take t).reverse ++ (acc, .dict ((L.take t).map fun i => (K i, W.l (ad i)))) :: μ₁, ⟨fun _ => 0, fun _ => [], by simp, by simp [gsM]⟩, fun t x μ' hx hI => ?_, fun μ' hI => ?_⟩
  · (refine el22 hI fun ad ks hR qq3 => ?_; try clear hI; subst qq3)
    rw [List.getElem?_map] at hx
    (refine el12 (Option.map_eq_some_iff.mp hx) fun i hi' qq2 => ?_; subst qq2)
    have him : i ∈ L := List.mem_of_getElem? hi'
    have hlt : t < L.length := (List.getElem?_eq_some_iff.mp hi').1
    have htk : L.take (t + 1) = L.take t ++ [i] := by rw [List.take_add_one, hi']; rfl
    have hout : i ∉ L.take t := by
      intro h2
      have h3 := hnd
      rw [← List.take_append_drop t L] at h3
      have h4 : i ∈ L.drop t := by
        rw [List.drop_eq_getElem_cons hlt, (List.getElem?_eq_some_iff.mp hi').2]; exact .head _
      exact (List.nodup_append.mp h3).2.2 i h2 i h4 rfl
    refine el12 (turn i him) fun bs htg hel => ?_
    refine ⟨bs, htg, ifs_nil ⟨fun _ => u_dict ?_, fun q => by cases q⟩⟩
    refine cE.mono (hel _) fun w m' hq => ?_
    (refine el03 hq fun hw hm hv => ?_; try clear hq)
    subst hw; subst hm
    refine cE.mono hv fun w m' hq => ?_
    (refine el23 hq fun a l hw hm hRl => ?_; try clear hq)
    subst hw; subst hm
    have hkey : K i ∉ ((L.take t).map fun i => (K i, W.l (ad i))).map (·.1) := by
      rw [List.map_map]
      intro q
      refine el12 (List.mem_map.mp q) fun x hx e => ?_
      exact hout (N.inj x i (h4 x (List.mem_of_mem_take hx)) (h4 i him) e ▸ hx)
    refine ds_dict (.there (UpdAt.app .here _)) (fun p hp => ?_) (by rw [hκ]; exact hκ2) ?_ ⟨fun x => if x = i then a else ad x, fun x => if x = i then l else ks x, fun x hx => ?_, ?_⟩
    · (refine el12 (List.mem_map.mp hp) fun x _ qq2 => ?_; subst qq2)
      show (K x).kind = _
      rw [hκ, hκ]
    · rw [List.length_map]
      have := List.length_take_le t L
      have h5 := List.Nodup.length_le_of_subset hnd (l₂ := List.range 4) fun x hx => by simpa using h4 x hx
      rw [List.length_range] at h5
      lia
    · rw [htk] at hx
      by_cases e : x = i
      · subst e; (first | rw [if_pos (rfl : true = true)] | simp only [if_true]); exact hRl
      · simp only [e, if_false]
        rcases List.mem_append.mp hx with q | q
        · exact hR x q
        · exact absurd (List.mem_singleton.mp q) e
    · have e1 : (L.take t).map (fun x => (K x, W.l (if x = i then a else ad x))) = (L.take t).map fun x => (K x, W.l (ad x)) := List.map_congr_left fun x hx => by
        have : x ≠ i := fun q => hout (q ▸ hx)
        simp [this]
      have e2 : gsM (fun x => if x = i then a else ad x) (fun x => if x = i then l else ks x) (L.take t).reverse = gsM ad ks (L.take t).reverse := List.map_congr_left fun x hx => by
        have : x ≠ i := fun q => hout (q ▸ List.mem_reverse.mp hx)
        simp [this]
      rw [kput_new hkey, htk, List.map_append, e1, List.reverse_append]
      show _ = (((if i = i then a else ad i), O.set (if i = i then l else ks i)) :: gsM (fun x => if x = i then a else ad x) (fun x => if x = i then l else ks x) (L.take t).reverse) ++ _
      rw [e2]
      simp
  · (refine el22 hI fun ad ks hR qq3 => ?_; try clear hI; subst qq3)
    rw [List.length_map, List.take_length] at *
    exact hk' acc ad ks hR
end
end
section
open PySem PySem.Calls PyProof.Rows Builtin
section
variable {P : Params} {F : PMap}
inductive PV (P : Params) (F : PMap) : List (Key × V) → List (Str × Value) → Prop
  | nil : PV P F [] []
  | cons {x : Str} {v : V} {u : Value} {kvs : List (Key × V)} {ps : List (Str × Value)} : Val P F v u → PV P F kvs ps → PV P F ((Key.s x, v) :: kvs) ((x, u) :: ps)
theorem Ents.pairs {prog : Program} {w : World} {F : PMap} {kvs : List (Key × V)} {es : List DictEntry} (h : ∀ p ∈ kvs, p.1.kind = 0) (he : Ents w.params F kvs es) : ∃ ps, PV w.params F kvs ps ∧ Pairs (strKind prog w) es ps ∧ ∀ e ∈ es, ∃ k, (strKind prog w).is k e.key = true ∧ e.hash = (strKind prog w).hash k := by
  induction kvs generalizing es with
  | nil => refine Ents.i_nil he ?_; exact ⟨[], .nil, .nil, fun e q => nomatch q⟩
  | cons p r ih =>
    obtain ⟨k, v⟩ := p
    refine Ents.i_cons he fun e0 es h1 h2 h3 h4 => ?_
    refine el13 (ih (fun p hp => h p (.tail _ hp)) h4) fun ps a b c => ?_
    have hk := h _ (.head _)
    cases k with
    | s x =>
      obtain ⟨t, e⟩ := h1
      have e1 : (strKind prog w).is x e0.key = true := by rw [e]; exact strKind_is _ _ _ _
      refine ⟨(x, _) :: ps, .cons h3 a, .cons e1 rfl b, fun e' he => ?_⟩
      rcases List.mem_cons.mp he with q | q
      · rw [q]; exact ⟨x, e1, h2⟩
      · exact c e' q
    | t _ => exact nomatch hk
    | p _ _ => exact nomatch hk
theorem PV.keys {kvs : List (Key × V)} {ps : List (Str × Value)} (h : PV P F kvs ps) : kvs.map (·.1) = ps.map fun p => Key.s p.1 := by
  induction h with
  | nil => rfl
  | cons _ _ ih => simp [ih]
theorem PV.length {kvs : List (Key × V)} {ps : List (Str × Value)} (h : PV P F kvs ps) : kvs.length = ps.length := by
  have := congrArg List.length h.keys; simpa using this
theorem PV.find {kvs : List (Key × V)} {ps : List (Str × Value)} (h : PV P F kvs ps) {x : Str} {v : V} (hn : (kvs.map (·.1)).Nodup) (hm : (Key.s x, v) ∈ kvs) : ∃ u, valueAt ps x = some u ∧ Val P F v u := by
  induction h with
  | nil => cases hm
  | @cons y v' u kvs ps hv hr ih =>
    simp only [List.map_cons, List.nodup_cons] at hn
    rcases List.mem_cons.mp hm with q | q
    · cases q
      exact ⟨u, by simp [valueAt], hv⟩
    · have hne : y ≠ x := fun e => by subst e; exact hn.1 (List.mem_map_of_mem (f := (·.1)) q)
      refine el12 (ih hn.2 q) fun u' h1 h2 => ?_
      refine ⟨u', ?_, h2⟩
      unfold valueAt at h1 ⊢
      rw [List.find?_cons_of_neg (by simpa using hne)]; exact h1
end
inductive VHits (kb : List (Key × V)) : List (Key × V) → Bool → Prop
  | nil : VHits kb [] true
  | hit {k : Key} {v u : V} {r : List (Key × V)} {b : Bool} : (k, u) ∈ kb → SeqAt.shaped (toD v) = true → SeqAt.shaped (toD u) = true → VHits kb r b → VHits kb ((k, v) :: r) (PyData.eqv (toD v) (toD u) && b)
section
variable {C : Cx} {d : Nat} {μ : Mem} {k : PostW}
theorem VHits.hits {A : Around} {s : Shared} {F : PMap} (hF : PIn F s.heap) (hu : A.in1.units + 64 < cLine) {kb : List (Key × V)} {psb : List (Str × Value)} (hb : PV C.P F kb psb) (hn : (kb.map (·.1)).Nodup) {ka : List (Key × V)} {psa : List (Str × Value)} (ha : PV C.P F ka psa) :
    ∀ {r : Bool}, VHits kb ka r → PySem.W.KeqHits A.in1 s psb psa r := by
  induction ha with
  | nil => intro r h; cases h; exact .nil
  | cons hv _ ih =>
    intro r h
    cases h with
    | hit hm h1 h2 h3 =>
      refine el12 (hb.find hn hm) fun u e hu' => ?_
      obtain ⟨as, ra⟩ := Val.reads hF (SeqAt.canLay_of_shaped h1) hv
      obtain ⟨bs, rb⟩ := Val.reads hF (SeqAt.canLay_of_shaped h2) hu'
      exact .hit e (PySem.W.keq_at ra rb h1 h2 hu) (ih h3)
theorem v_neDict {ka kb : List (Key × V)} {r : Bool} (ha : ∀ p ∈ ka, p.1.kind = 0) (hb : ∀ p ∈ kb, p.1.kind = 0) (hr : VHits kb ka r) (h : k (.v (.bool (!(ka.length == kb.length && r)))) μ) :
    cV2 C (d + 6) μ (.v (.dict ka)) (.v (.dict kb)) (compareOp .NotEq) k := fun A F Z s u v hA S hu hv => by
  refine Val.i_dict hu fun _ _ _ _ h0 h1 h2 h3 h4 h5 => ?_
  refine Val.i_dict hv fun _ _ _ _ g0 g1 g2 g3 g4 g5 => ?_
  refine el13 (Ents.pairs (prog := C.prog) ha h4) fun psa a1 a2 a3 => ?_
  refine el13 (Ents.pairs (prog := C.prog) hb g4) fun psb b1 b2 b3 => ?_
  have nd : ∀ {kvs : List (Key × V)} {ps : List (Str × Value)}, PV C.P F kvs ps → (kvs.map (·.1)).Nodup → (ps.map (·.1)).Nodup := fun {kvs ps} q n => by
    rw [q.keys] at n
    exact List.pairwise_map.mp n |> fun q => List.pairwise_map.mpr (q.imp fun hne e => hne (by rw [e]))
  refine PySem.W.keq_ne (knd := strKind C.prog C.w) h0 g0 ⟨_, _, _, S.fz _ _ h1, h2, h3, fun e he => a3 e (Array.mem_toList_iff.mpr he), a2, nd a1 h5⟩ ⟨_, _, _, S.fz _ _ g1, g2, g3, fun e he => b3 e (Array.mem_toList_iff.mpr he), b2, nd b1 g5⟩ (by have := hA.un; lia) (fun _ => VHits.hits S.fz (by have := (Rm.in1 (d := d + 5) hA).un; lia) b1 g5 a1 hr) ?_
  rw [← a1.length, ← b1.length]
  exact ⟨_, F, μ, h, .refl _, S, .bool _⟩
end
end
section
open PySem PySem.Calls PyProof.Rows Builtin
theorem UpdAt.carry {a : Addr} {x y : O} {r r' : Mem} (h : UpdAt a x y r r') {c : Addr} {z : O} (hm : (c, z) ∈ r) : (c, z) ∈ r' ∨ (c = a ∧ z = x ∧ (a, y) ∈ r') := by
  induction h with
  | here =>
    rcases List.mem_cons.mp hm with q | q
    · cases q; exact .inr ⟨rfl, rfl, .head _⟩
    · exact .inl (.tail _ q)
  | there h ih =>
    rcases List.mem_cons.mp hm with q | q
    · subst q; exact .inl (.head _)
    · rcases ih q with e | ⟨e1, e2, e3⟩
      · exact .inl (.tail _ e)
      · exact .inr ⟨e1, e2, .tail _ e3⟩
theorem UpdAt.inApp {a : Addr} {x y : O} {l l' : Mem} (h : UpdAt a x y l l') (r : Mem) : UpdAt a x y (l ++ r) (l' ++ r) := by
  induction h with
  | here => exact .here
  | there _ ih => exact .there ih
structure Box (B : Mem) (kk : List (Key × W)) (κ n : Nat) : Prop where
  val : ∀ p ∈ kk, p.1.kind = κ ∧ ∃ b vs, p.2 = .l b ∧ (b, O.list vs) ∈ B ∧ vs.length ≤ n
  len : kk.length ≤ n
theorem Box.nil {B : Mem} {κ n : Nat} : Box B [] κ n := ⟨by simp, Nat.zero_le _⟩
theorem Box.mono {B : Mem} {kk : List (Key × W)} {κ n m : Nat} (h : Box B kk κ n) (le : n ≤ m) : Box B kk κ m := ⟨fun p hp => let ⟨a, b, vs, c, d, e⟩ := h.val p hp; ⟨a, b, vs, c, d, Nat.le_trans e le⟩, Nat.le_trans h.len le⟩
theorem Box.cons {B : Mem} {kk : List (Key × W)} {κ n : Nat} (h : Box B kk κ n) (q : Addr × O) : Box (q :: B) kk κ n := ⟨fun p hp => let ⟨a, b, vs, c, d, e⟩ := h.val p hp; ⟨a, b, vs, c, .tail _ d, e⟩, h.len⟩
theorem Box.upd {B B' : Mem} {kk : List (Key × W)} {κ n : Nat} {b : Addr} {vs : List W} {w : W} (h : Box B kk κ n) (hv : vs.length ≤ n) (hU : UpdAt b (.list vs) (.list (vs ++ [w])) B B') : Box B' kk κ (n + 1) :=
  ⟨fun p hp => by
    obtain ⟨a, b', vs', c, d, e⟩ := h.val p hp
    rcases hU.carry d with q | ⟨q1, q2, q3⟩
    · exact ⟨a, b', vs', c, q, by lia⟩
    · exact ⟨a, b', vs ++ [w], c, q1 ▸ q3, by rw [List.length_append, List.length_singleton]; lia⟩, by have := h.len; lia⟩
theorem mem_kput {p : Key × W} {k : Key} {w : W} : ∀ {kvs : List (Key × W)}, p ∈ kput kvs k w → p ∈ kvs ∨ p = (k, w)
  | [], h => .inr (List.mem_singleton.mp h)
  | (k', w') :: r, h => by
    unfold kput at h
    by_cases e : k' = k
    · rw [if_pos e] at h
      rcases List.mem_cons.mp h with q | q
      · exact .inr (by rw [q, e])
      · exact .inl (.tail _ q)
    · rw [if_neg e] at h
      rcases List.mem_cons.mp h with q | q
      · exact .inl (by rw [q]; exact .head _)
      · rcases mem_kput q with e | e
        · exact .inl (.tail _ e)
        · exact .inr e
theorem Box.put {B : Mem} {kk : List (Key × W)} {κ n : Nat} {key : Key} {b : Addr} (h : Box B kk κ n) (hk : key.kind = κ) (hb : (b, O.list []) ∈ B) : Box B (kput kk key (.l b)) κ (n + 1) :=
  ⟨fun p hp => by
    rcases mem_kput hp with q | q
    · obtain ⟨a, b, vs, c, d, e⟩ := h.val p q
      exact ⟨a, b, vs, c, d, by lia⟩
    · subst q; exact ⟨hk, b, [], rfl, hb, Nat.zero_le _⟩, by
    have e := congrArg List.length (kput_keys (kvs := kk) (k := key) (w := .l b))
    rw [List.length_map] at e
    rw [e]
    have := h.len
    split
    · rw [List.length_map]; lia
    · rw [List.length_append, List.length_map, List.length_singleton]; lia⟩
theorem mem_kput_self {k : Key} {w : W} : ∀ {kvs : List (Key × W)}, k ∉ kvs.map (·.1) → (k, w) ∈ kput kvs k w := fun {kvs} h => by rw [kput_new h]; simp
end
section
open PySem PySem.Calls PyProof.Rows Builtin
section
variable {C : Cx} {d : Nat} {μ : Mem} {k : PostW}
theorem c_updateU {a : Addr} {ks lo : List Key} (hm : (a, O.set ks) ∈ μ) (hks : ∀ x ∈ ks, x.kind = 0) (hlo : ∀ x ∈ lo, x.kind = 0) (hz : ks.length + lo.length < 390)
    (h : ∀ ks', (∀ x, x ∈ ks' ↔ x ∈ ks ∨ x ∈ lo) → ks'.Nodup → ∃ μ', UpdAt a (.set ks) (.set ks') μ μ' ∧ k (.v .none) μ') : cCall C d μ (.builtin "set.update") [.l a, .v (.set lo)] [] k := fun A F Z s vs kvs hA S hv hkv => by
  refine c_update (k := k) hm hks hlo hz (fun ks' μ' hU h1 h2 => ?_) A F Z s vs kvs hA S hv hkv
  refine el12 (h ks' h1 h2) fun μ'' hU' hk => ?_
  rw [hU.uniq hU' S.nod.1]; exact hk
theorem g_getG {K : Nat → Key} {dom : List Nat} {ks : Nat → List Key} (N : Naming K) (hd : ∀ i ∈ dom, i < 4) (hs : ∀ i ∈ dom, (ks i).Nodup) {j : Nat} (hj : j < 4) {a : Addr}
    (h : ∀ S : List Key, S.Nodup → (∀ x, x ∈ S ↔ j ∈ dom ∧ x ∈ ks j) → k (.v (.set S)) μ) :
    cCall C d ((a, .set []) :: μ) (.builtin "dict.get") [.v (gV K dom ks), .v (K j).val, .l a] [] k := by
  refine cCall.fzR (g_get N hd hj (fun hin => ?_) fun hout => ?_)
  · exact ⟨_, _, μ, Fz.weak (List.sublist_cons_self ..), rfl, h _ (hs j hin) fun x => ⟨fun q => ⟨hin, q⟩, fun q => q.2⟩⟩
  · exact ⟨_, .v (.set []), μ, fz_obj (.head _) .set .here (FrzT.refl _), .put, h [] .nil fun x => ⟨(fun q => by cases q), (fun q => absurd q.1 hout)⟩⟩
end
theorem SetIs.add {K : Nat → Key} {ks ks' : List Key} {f : Nat → Bool} {j : Nat} (h : SetIs K ks f) (hj : j < 4) (hn : K j ∉ ks) (hp : ks'.Perm (K j :: ks)) : SetIs K ks' (fun x => f x || x == j) :=
  ⟨hp.nodup_iff.mpr (List.nodup_cons.mpr ⟨hn, h.nd⟩), fun key => by
    rw [hp.mem_iff, List.mem_cons, h.mem]
    constructor
    · rintro (rfl | ⟨i, h1, h2, h3⟩)
      · exact ⟨j, hj, by simp, rfl⟩
      · exact ⟨i, h1, by simp [h2], h3⟩
    · rintro ⟨i, h1, h2, h3⟩
      rcases Bool.or_eq_true_iff.mp h2 with q | q
      · exact .inr ⟨i, h1, q, h3⟩
      · have : i = j := by simpa using q
        exact .inl (by rw [h3, this])⟩
theorem SetIs.same {K : Nat → Key} {ks : List Key} {f g : Nat → Bool} (h : SetIs K ks f) (he : ∀ j, j < 4 → f j = g j) : SetIs K ks g :=
  ⟨h.nd, fun key => (h.mem key).trans ⟨fun ⟨j, a, b, c⟩ => ⟨j, a, he j a ▸ b, c⟩, fun ⟨j, a, b, c⟩ => ⟨j, a, (he j a).symm ▸ b, c⟩⟩⟩
theorem SetIs.has {K : Nat → Key} {ks : List Key} {f : Nat → Bool} (N : Naming K) (h : SetIs K ks f) {j : Nat} (hj : j < 4) : K j ∈ ks ↔ f j = true := by
  rw [h.mem]
  exact ⟨fun ⟨i, a, b, c⟩ => N.inj j i hj a c ▸ b, fun q => ⟨j, hj, q, rfl⟩⟩
end
section
open PySem PySem.Calls PyProof.Rows
theorem hexL {nx : Str} {px spos pos : Pos} {elt target iter : Expr} {ifs : List Expr} {sc₀ : Scope} {env : Env} (h : swapsWith (.ListComp elt [⟨target, iter, ifs, 0⟩] sc₀ pos) (some (.Name nx px)) spos.line env = pure true) :
    exec (.Assign [.Name nx px] (.ListComp elt [⟨target, iter, ifs, 0⟩] sc₀ pos) spos) env = (do standAt spos; let _ ← comprehension (.ListComp elt [⟨target, iter, ifs, 0⟩] sc₀ pos) sc₀ env (firstIterPos [⟨target, iter, ifs, 0⟩] pos) (newList []) false (eval iter env) (some (assign (.Name nx px) env)); pure .next) := by
  rw [exec_Assign_Name_used _ _ _ _ h, arm_evalThenUse_ListComp]
  simp only [bind_assoc, pure_bind]
  rfl
theorem hexD {nx : Str} {px spos pos : Pos} {kx vx target iter : Expr} {ifs : List Expr} {sc₀ : Scope} {env : Env} (h : swapsWith (.DictComp kx vx [⟨target, iter, ifs, 0⟩] sc₀ pos) (some (.Name nx px)) spos.line env = pure true) :
    exec (.Assign [.Name nx px] (.DictComp kx vx [⟨target, iter, ifs, 0⟩] sc₀ pos) spos) env = (do standAt spos; let _ ← comprehension (.DictComp kx vx [⟨target, iter, ifs, 0⟩] sc₀ pos) sc₀ env (firstIterPos [⟨target, iter, ifs, 0⟩] pos) newDict false (eval iter env) (some (assign (.Name nx px) env)); pure .next) := by
  rw [exec_Assign_Name_used _ _ _ _ h, arm_evalThenUse_DictComp]
  simp only [bind_assoc, pure_bind]
  rfl
section
variable {C : Cx} {d : Nat} {sc sc₀ : Scope} {ε : Env1} {μ μ' : Mem} {k : PostW} {kb : Bool → Mem → Prop} {kf : PostF}
theorem cS1_listVM {nx : Str} {px spos : Pos} {elt target iter : Expr} {ifs : List Expr} {pos : Pos} (hk : sc₀.kind = .function) (hn : decide (sc₀.names.map (·.1)).Nodup = true)
    (hfree : (sc₀.names.all fun x => x.2 != .free || (sc.names.lookup x.1 == some .cell || sc.names.lookup x.1 == some .free)) = true) (hs : ∀ env x, foldedSetIterable iter env x = pure x)
    (hsw : ∀ env : Env, env.scope = sc → swapsWith (.ListComp elt [⟨target, iter, ifs, 0⟩] sc₀ pos) (some (.Name nx px)) spos.line env = pure true) (hnx : sc.names.lookup nx = some .local ∨ sc.names.lookup nx = some .cell)
    (h : cE C d sc ε μ iter fun w μ₁ => ∃ P, cIter C d μ₁ w P ∧ ∀ items, P items → ∃ (p : V → Bool) (g : V → V), items.length < 100000 ∧
      (∀ x ∈ items, ∃ bs, cTgt C sc₀ target (.v x) bs ∧ ∀ acc L, cIfs C d (relS sc₀ sc) (bs ++ dropN sc₀ ε) ((acc, L) :: μ₁) ifs fun b m => b = p x ∧ m = (acc, L) :: μ₁ ∧
        (b = true → cE C d (relS sc₀ sc) (bs ++ dropN sc₀ ε) ((acc, L) :: μ₁) elt fun w m => w = .v (g x) ∧ m = (acc, L) :: μ₁)) ∧ ∀ a, kf .next ((nx, .l a) :: ε) ((a, .list (((items.filter p).map g).map .v)) :: μ₁)) :
    cS1 C d sc ε μ (.Assign [.Name nx px] (.ListComp elt [⟨target, iter, ifs, 0⟩] sc₀ pos) spos) kf := by
  refine cS1_comp (compL_ok hk (of_decide_eq_true hn) hfree hs) (fun env he => hexL (hsw env he)) hnx ?_
  refine cE.mono h fun w μ₁ ⟨P, hi, hP⟩ => ⟨P, hi, fun items hpi => ?_⟩
  refine el23 (hP items hpi) fun p g hsz turn hk' => ?_
  refine fun acc => ⟨fun i m => m = (acc, .list ((((items.take i).filter p).map g).map .v)) :: μ₁, by simp, fun i x μ' hx hm => ?_, fun μ' hm => ?_⟩
  · subst hm
    have hlt : i < items.length := (List.getElem?_eq_some_iff.mp hx).1
    have htk : items.take (i + 1) = items.take i ++ [x] := by rw [List.take_add_one, hx]; rfl
    refine el12 (turn x (List.mem_of_getElem? hx)) fun bs ht hif => ?_
    refine ⟨bs, ht, cIfs.mono (hif acc _) fun b m ⟨hb, hm, he⟩ => ?_⟩
    subst hm
    refine ⟨fun q => u_list (cE.mono (he q) fun w m ⟨hw, hm⟩ => ?_), fun q => ?_⟩
    · subst hw
      subst hm
      refine v_append .here ?_ ?_
      · simp only [List.length_map]
        have := List.length_filter_le p (items.take i)
        have := List.length_take_le i items
        lia
      · show _ = _
        rw [htk, List.filter_append]
        simp [hb ▸ q]
    · show _ = _
      rw [htk, List.filter_append]
      simp [show p x = false from hb ▸ q]
  · subst hm
    rw [List.take_length]
    exact hk' acc
theorem cS1_dictVM {nx : Str} {px spos : Pos} {kx vx target iter : Expr} {pos : Pos} (hk : sc₀.kind = .function) (hn : decide (sc₀.names.map (·.1)).Nodup = true)
    (hfree : (sc₀.names.all fun x => x.2 != .free || (sc.names.lookup x.1 == some .cell || sc.names.lookup x.1 == some .free)) = true) (hs : ∀ env x, foldedSetIterable iter env x = pure x)
    (hsw : ∀ env : Env, env.scope = sc → swapsWith (.DictComp kx vx [⟨target, iter, [], 0⟩] sc₀ pos) (some (.Name nx px)) spos.line env = pure true) (hnx : sc.names.lookup nx = some .local ∨ sc.names.lookup nx = some .cell)
    (h : cE C d sc ε μ iter fun w μ₁ => ∃ P, cIter C d μ₁ w P ∧ ∀ items, P items → ∃ (L : List Key) (g : Key → V) (κ : Nat), items = L.map Key.val ∧ L.Nodup ∧ (∀ x ∈ L, x.kind = κ) ∧ κ ≠ 2 ∧ L.length < 1000 ∧
      (∀ key ∈ L, ∃ bs, cTgt C sc₀ target (.v key.val) bs ∧ ∀ acc D, cE C d (relS sc₀ sc) (bs ++ dropN sc₀ ε) ((acc, D) :: μ₁) kx fun w m => w = .v key.val ∧
        cE C d (relS sc₀ sc) (bs ++ dropN sc₀ ε) m vx fun w m => w = .v (g key) ∧ m = (acc, D) :: μ₁) ∧ ∀ a, kf .next ((nx, .l a) :: ε) ((a, .dict (L.map fun key => (key, W.v (g key)))) :: μ₁)) :
    cS1 C d sc ε μ (.Assign [.Name nx px] (.DictComp kx vx [⟨target, iter, [], 0⟩] sc₀ pos) spos) kf := by
  refine cS1_comp (compD_ok hk (of_decide_eq_true hn) hfree hs) (fun env he => hexD (hsw env he)) hnx ?_
  refine cE.mono h fun w μ₁ ⟨P, hi, hP⟩ => ⟨P, hi, fun items hpi => ?_⟩
  (refine el37 (hP items hpi) fun L g κ qq3 hnd hkd hκ hsz turn hk' => ?_; subst qq3)
  refine fun acc => ⟨fun i m => m = (acc, .dict ((L.take i).map fun key => (key, .v (g key)))) :: μ₁, by simp, fun i x μ' hx hm => ?_, fun μ' hm => ?_⟩
  · subst hm
    rw [List.getElem?_map] at hx
    (refine el12 (Option.map_eq_some_iff.mp hx) fun key hkey qq2 => ?_; subst qq2)
    have hlt : i < L.length := (List.getElem?_eq_some_iff.mp hkey).1
    have htk : L.take (i + 1) = L.take i ++ [key] := by rw [List.take_add_one, hkey]; rfl
    refine el12 (turn key (List.mem_of_getElem? hkey)) fun bs ht hif => ?_
    refine ⟨bs, ht, ifs_nil ⟨fun _ => u_dict (cE.mono (hif acc _) fun w m ⟨hw, hv⟩ => ?_), fun q => by cases q⟩⟩
    subst hw
    refine cE.mono hv fun w m hq => ?_
    obtain ⟨hw, hm⟩ := hq
    subst hw
    subst hm
    have hout : key ∉ ((L.take i).map fun key => (key, W.v (g key))).map (·.1) := by
      rw [List.map_map, show ((fun x : Key × W => x.1) ∘ fun key => (key, W.v (g key))) = id from rfl, List.map_id]
      intro h2
      have h3 := hnd
      rw [← List.take_append_drop i L] at h3
      have h4 : key ∈ L.drop i := by
        rw [List.drop_eq_getElem_cons hlt]
        have := (List.getElem?_eq_some_iff.mp hkey).2
        rw [this]; exact .head _
      exact (List.nodup_append.mp h3).2.2 key h2 key h4 rfl
    refine ds_dict .here ?_ ?_ ?_ ?_
    · intro p hp
      (refine el12 (List.mem_map.mp hp) fun y hy qq2 => ?_; subst qq2)
      rw [hkd y (List.mem_of_mem_take hy), hkd key (List.mem_of_getElem? hkey)]
    · rw [hkd key (List.mem_of_getElem? hkey)]; exact hκ
    · simp only [List.length_map]
      have := List.length_take_le i L
      lia
    · show _ = _
      rw [kput_new hout, htk, List.map_append]
      rfl
  · subst hm
    rw [List.length_map, List.take_length]
    exact hk' acc
theorem cS1_dictS {nx : Str} {px spos : Pos} {kx vx target iter : Expr} {pos : Pos} (hk : sc₀.kind = .function) (hn : decide (sc₀.names.map (·.1)).Nodup = true)
    (hfree : (sc₀.names.all fun x => x.2 != .free || (sc.names.lookup x.1 == some .cell || sc.names.lookup x.1 == some .free)) = true) (hs : ∀ env x, foldedSetIterable iter env x = pure x)
    (hsw : ∀ env : Env, env.scope = sc → swapsWith (.DictComp kx vx [⟨target, iter, [], 0⟩] sc₀ pos) (some (.Name nx px)) spos.line env = pure true) (hnx : sc.names.lookup nx = some .local ∨ sc.names.lookup nx = some .cell)
    (h : cE C d sc ε μ iter fun w μ₁ => ∃ P, cIter C d μ₁ w P ∧ ∀ items, P items → ∃ (L : List Nat) (K : Nat → Key) (R : Nat → List Key → Prop), Naming K ∧ items = L.map (fun i => (K i).val) ∧ L.Nodup ∧ (∀ i ∈ L, i < 4) ∧
      (∀ i ∈ L, ∃ bs, cTgt C sc₀ target (.v (K i).val) bs ∧ ∀ m, cE C d (relS sc₀ sc) (bs ++ dropN sc₀ ε) m kx fun w m' => w = .v (K i).val ∧ m' = m ∧
        cE C d (relS sc₀ sc) (bs ++ dropN sc₀ ε) m vx fun w m' => ∃ a l, w = .l a ∧ m' = (a, .set l) :: m ∧ R i l) ∧
      ∀ D ad ks, (∀ i ∈ L, R i (ks i)) → kf .next ((nx, .l D) :: ε) (gsM ad ks L.reverse ++ (D, .dict (L.map fun i => (K i, W.l (ad i)))) :: μ₁)) :
    cS1 C d sc ε μ (.Assign [.Name nx px] (.DictComp kx vx [⟨target, iter, [], 0⟩] sc₀ pos) spos) kf := by
  refine cS1_comp (compD_ok hk (of_decide_eq_true hn) hfree hs) (fun env he => hexD (hsw env he)) hnx ?_
  refine cE.mono h fun w μ₁ ⟨P, hi, hP⟩ => ⟨P, hi, fun items hpi => ?_⟩
  refine el36 (hP items hpi) fun L K R N hit hnd h4 turn hk' => ?_
  subst hit
  refine el12 (N.kind) fun κ hκ2 hκ => ?_
  refine fun acc => ⟨fun t m => ∃ ad ks, (∀ i ∈ L.take t, R i (ks i)) ∧ m = gsM ad ks (L.take t).reverse ++ (acc, .dict ((L.take t).map fun i => (K i, W.l (ad i)))) :: μ₁, ⟨fun _ => 0, fun _ => [], by simp, by simp [gsM]⟩, fun t x μ' hx hI => ?_, fun μ' hI => ?_⟩
  · (refine el22 hI fun ad ks hR qq3 => ?_; try clear hI; subst qq3)
    rw [List.getElem?_map] at hx
    (refine el12 (Option.map_eq_some_iff.mp hx) fun i hi' qq2 => ?_; subst qq2)
    have him : i ∈ L := List.mem_of_getElem? hi'
    have hlt : t < L.length := (List.getElem?_eq_some_iff.mp hi').1
    have htk : L.take (t + 1) = L.take t ++ [i] := by rw [List.take_add_one, hi']; rfl
    have hout : i ∉ L.take t := by
      intro h2
      have h3 := hnd
      rw [← List.take_append_drop t L] at h3
      have h4 : i ∈ L.drop t := by
        rw [List.drop_eq_getElem_cons hlt, (List.getElem?_eq_some_iff.mp hi').2]; exact .head _
      exact (List.nodup_append.mp h3).2.2 i h2 i h4 rfl
    refine el12 (turn i him) fun bs htg hel => ?_
    refine ⟨bs, htg, ifs_nil ⟨fun _ => u_dict ?_, fun q => by cases q⟩⟩
    refine cE.mono (hel _) fun w m' hq => ?_
    (refine el03 hq fun hw hm hv => ?_; try clear hq)
    subst hw; subst hm
    refine cE.mono hv fun w m' hq => ?_
    (refine el23 hq fun a l hw hm hRl => ?_; try clear hq)
    subst hw; subst hm
    have hkey : K i ∉ ((L.take t).map fun i => (K i, W.l (ad i))).map (·.1) := by
      rw [List.map_map]
      intro q
      refine el12 (List.mem_map.mp q) fun x hx e => ?_
      exact hout (N.inj x i (h4 x (List.mem_of_mem_take hx)) (h4 i him) e ▸ hx)
    refine ds_dict (.there (UpdAt.app .here _)) (fun p hp => ?_) (by rw [hκ]; exact hκ2) ?_ ⟨fun x => if x = i then a else ad x, fun x => if x = i then l else ks x, fun x hx => ?_, ?_⟩
    · (refine el12 (List.mem_map.mp hp) fun x _ qq2 => ?_; subst qq2)
      show (K x).kind = _
      rw [hκ, hκ]
    · rw [List.length_map]
      have := List.length_take_le t L
      have h5 := List.Nodup.length_le_of_subset hnd (l₂ := List.range 4) fun x hx => by simpa using h4 x hx
      rw [List.length_range] at h5
      lia
    · rw [htk] at hx
      by_cases e : x = i
      · subst e; (first | rw [if_pos (rfl : true = true)] | simp only [if_true]); exact hRl
      · simp only [e, if_false]
        rcases List.mem_append.mp hx with q | q
        · exact hR x q
        · exact absurd (List.mem_singleton.mp q) e
    · have e1 : (L.take t).map (fun x => (K x, W.l (if x = i then a else ad x))) = (L.take t).map fun x => (K x, W.l (ad x)) := List.map_congr_left fun x hx => by
        have : x ≠ i := fun q => hout (q ▸ hx)
        simp [this]
      have e2 : gsM (fun x => if x = i then a else ad x) (fun x => if x = i then l else ks x) (L.take t).reverse = gsM ad ks (L.take t).reverse := List.map_congr_left fun x hx => by
        have : x ≠ i := fun q => hout (q ▸ List.mem_reverse.mp hx)
        simp [this]
      rw [kput_new hkey, htk, List.map_append, e1, List.reverse_append]
      show _ = (((if i = i then a else ad i), O.set (if i = i then l else ks i)) :: gsM (fun x => if x = i then a else ad x) (fun x => if x = i then l else ks x) (L.take t).reverse) ++ _
      rw [e2]
      simp
  · (refine el22 hI fun ad ks hR qq3 => ?_; try clear hI; subst qq3)
    rw [List.length_map, List.take_length] at *
    exact hk' acc ad ks hR
theorem cS1_listRM {nx : Str} {px spos : Pos} {elt iter test : Expr} {x : Str} {px2 pos : Pos} (hk : sc₀.kind = .function) (hn : decide (sc₀.names.map (·.1)).Nodup = true)
    (hfree : (sc₀.names.all fun x => x.2 != .free || (sc.names.lookup x.1 == some .cell || sc.names.lookup x.1 == some .free)) = true) (hs : ∀ env x, foldedSetIterable iter env x = pure x)
    (hx : sc₀.names.lookup x = some .local ∨ sc₀.names.lookup x = some .cell)
    (hsw : ∀ env : Env, env.scope = sc → swapsWith (.ListComp elt [⟨.Name x px2, iter, [test], 0⟩] sc₀ pos) (some (.Name nx px)) spos.line env = pure true) (hnx : sc.names.lookup nx = some .local ∨ sc.names.lookup nx = some .cell)
    (h : cE C d sc ε μ iter fun w μ₁ => ∃ (n : Nat), w = .v (.rng 0 n) ∧ n < 1000 ∧ ∃ (p : Nat → Bool) (g : Nat → V),
      (∀ i, i < n → ∀ acc L, cT C d (relS sc₀ sc) ((x, .v (.int i)) :: dropN sc₀ ε) ((acc, L) :: μ₁) test fun b m => b = p i ∧ m = (acc, L) :: μ₁ ∧
        (b = true → cE C d (relS sc₀ sc) ((x, .v (.int i)) :: dropN sc₀ ε) ((acc, L) :: μ₁) elt fun w m => w = .v (g i) ∧ m = (acc, L) :: μ₁)) ∧ ∀ a, kf .next ((nx, .l a) :: ε) ((a, .list ((((List.range n).filter p).map g).map .v)) :: μ₁)) :
    cS1 C d sc ε μ (.Assign [.Name nx px] (.ListComp elt [⟨.Name x px2, iter, [test], 0⟩] sc₀ pos) spos) kf := by
  refine cS1_listVM hk hn hfree hs hsw hnx (cE.mono h fun w μ₁ hq => ?_)
  (refine el13 hq fun n hw hn' qr => ?_; try clear hq; refine el22 qr fun p g turn hk' => ?_; try clear qr)
  subst hw
  refine ⟨_, it_rng (by decide) (by decide) (by lia) (by lia), fun items e => ⟨fun y => p (natOf y), fun y => g (natOf y), ?_, fun y hy => ?_, fun a => ?_⟩⟩
  · rw [e, rngV_zero]; simp; lia
  · rw [e, rngV_zero] at hy
    (refine el12 (List.mem_map.mp hy) fun i hi qq2 => ?_; subst qq2)
    have hi' : i < n := by simpa using hi
    exact ⟨[(x, .v (.int i))], tgt_name hx, fun acc L => ifs_one (turn i hi' acc L)⟩
  · have e2 : ((items.filter fun y => p (natOf y)).map fun y => g (natOf y)) = ((List.range n).filter p).map g := by
      rw [e, rngV_zero, List.filter_map, List.map_map]; rfl
    rw [e2]; exact hk' a
theorem cS1_listR0M {nx : Str} {px spos : Pos} {elt iter : Expr} {x : Str} {px2 pos : Pos} (hk : sc₀.kind = .function) (hn : decide (sc₀.names.map (·.1)).Nodup = true)
    (hfree : (sc₀.names.all fun x => x.2 != .free || (sc.names.lookup x.1 == some .cell || sc.names.lookup x.1 == some .free)) = true) (hs : ∀ env x, foldedSetIterable iter env x = pure x)
    (hx : sc₀.names.lookup x = some .local ∨ sc₀.names.lookup x = some .cell)
    (hsw : ∀ env : Env, env.scope = sc → swapsWith (.ListComp elt [⟨.Name x px2, iter, [], 0⟩] sc₀ pos) (some (.Name nx px)) spos.line env = pure true) (hnx : sc.names.lookup nx = some .local ∨ sc.names.lookup nx = some .cell)
    (h : cE C d sc ε μ iter fun w μ₁ => ∃ (n : Nat), w = .v (.rng 0 n) ∧ n < 1000 ∧ ∃ (g : Nat → V),
      (∀ i, i < n → ∀ acc L, cE C d (relS sc₀ sc) ((x, .v (.int i)) :: dropN sc₀ ε) ((acc, L) :: μ₁) elt fun w m => w = .v (g i) ∧ m = (acc, L) :: μ₁) ∧ ∀ a, kf .next ((nx, .l a) :: ε) ((a, .list (((List.range n).map g).map .v)) :: μ₁)) :
    cS1 C d sc ε μ (.Assign [.Name nx px] (.ListComp elt [⟨.Name x px2, iter, [], 0⟩] sc₀ pos) spos) kf := by
  refine cS1_listVM hk hn hfree hs hsw hnx (cE.mono h fun w μ₁ hq => ?_)
  (refine el13 hq fun n hw hn' qr => ?_; try clear hq; refine el12 qr fun g turn hk' => ?_; try clear qr)
  subst hw
  refine ⟨_, it_rng (by decide) (by decide) (by lia) (by lia), fun items e => ⟨fun y => true, fun y => g (natOf y), ?_, fun y hy => ?_, fun a => ?_⟩⟩
  · rw [e, rngV_zero]; simp; lia
  · rw [e, rngV_zero] at hy
    (refine el12 (List.mem_map.mp hy) fun i hi qq2 => ?_; subst qq2)
    have hi' : i < n := by simpa using hi
    exact ⟨[(x, .v (.int i))], tgt_name hx, fun acc L => ifs_nil ⟨rfl, rfl, fun _ => turn i hi' acc L⟩⟩
  · have e2 : ((items.filter fun y => true).map fun y => g (natOf y)) = (List.range n).map g := by
      rw [List.filter_eq_self.mpr (fun _ _ => rfl), e, rngV_zero, List.map_map]; rfl
    rw [e2]; exact hk' a
end
theorem nm_cps {i : Nat} (h : i < 4) : (Str.ofString "ABCD").cps[i]? = some (65 + i) := by
  have : i = 0 ∨ i = 1 ∨ i = 2 ∨ i = 3 := by lia
  rcases this with rfl | rfl | rfl | rfl <;> decide +kernel
theorem nw_cps {i : Nat} (h : i < 4) : (Str.ofString "abcd").cps[i]? = some (97 + i) := by
  have : i = 0 ∨ i = 1 ∨ i = 2 ∨ i = 3 := by lia
  rcases this with rfl | rfl | rfl | rfl <;> decide +kernel
theorem nm_occ {i : Nat} (h : i < 4) : Builtin.Str.occurrences (Str.ofString "ABCD") (nm i) 0 (Str.ofString "ABCD").length 1 = [i] := by
  have : i = 0 ∨ i = 1 ∨ i = 2 ∨ i = 3 := by lia
  rcases this with rfl | rfl | rfl | rfl <;> decide +kernel
section
variable {C : Cx} {d : Nat} {μ : Mem} {k : PostW}
theorem i_ABCD {i : Nat} (hi : i < 4) (h : k (.v (.str (nm i))) μ) : SubOk C μ (.v (.str (Str.ofString "ABCD"))) ∧ cV2 C d μ (.v (.str (Str.ofString "ABCD"))) (.v (.int i)) getItem k :=
  ⟨sub_str, v_item_str (c := 65 + i) (by lia) (by lia) (by rw [show ((i : Int)).toNat = i from rfl]; exact nm_cps hi) h⟩
theorem c_ABCD {i : Nat} (hi : i < 4) (h : k (.v (.int i)) μ) : cCall C d μ (.builtin "str.index") [.v (.str (Str.ofString "ABCD")), .v (.str (nm i))] [] k := c_index (nm_occ hi) h
end
end
section
open PySem PySem.Calls
/-! what comes behind an expression, by name: a goal then bears no binders of its own -/
section
variable (C : Cx) (d : Nat) (sc : Scope) (ε : Env1)
@[reducible] noncomputable def kR2 (x : W) (f : Value → Value → Sem Value) (k : PostW) : PostW := fun y μ => cV2 C d μ x y f k
@[reducible] noncomputable def kR (r : Expr) (f : Value → Value → Sem Value) (k : PostW) : PostW := fun x μ => cE C d sc ε μ r (kR2 C d x f k)
@[reducible] noncomputable def kTst (kb : Bool → Mem → Prop) : PostW := fun z μ => ∃ b, z = .v (.bool b) ∧ kb b μ
@[reducible] noncomputable def kU2 (ow : W) (k : PostW) : PostW := fun iw μ => SubOk C μ ow ∧ cV2 C d μ ow iw getItem k
@[reducible] noncomputable def kU (slice : Expr) (k : PostW) : PostW := fun ow μ => cE C d sc ε μ slice (kU2 C d ow k)
@[reducible] noncomputable def kCall (fv : Value) (k : PostW) : List W → Mem → Prop := fun xs μ => cCall C d μ fv xs [] k
@[reducible] noncomputable def kF (args : List Expr) (k : PostW) : PostW := fun fw μ => ∃ fv, fw = .v (.glob fv) ∧ KeepOk C fv ∧ cEs C d sc ε μ args (kCall C d fv k)
@[reducible] noncomputable def kCallF (fv : Value) (first : List W) (k : PostW) : List W → Mem → Prop := fun xs μ => cCall C d μ fv (first ++ xs) [] k
@[reducible] noncomputable def kMA (args : List Expr) (k : PostW) : Value → List W → Mem → Prop := fun fv first μ => KeepOk C fv ∧ cEs C d sc ε μ args (kCallF C d fv first k)
@[reducible] noncomputable def kM (name : Str) (args : List Expr) (k : PostW) : PostW := fun ow μ => cMeth C d μ ow name (kMA C d sc ε args k)
@[reducible] noncomputable def kE2 (x : W) (kl : List W → Mem → Prop) : List W → Mem → Prop := fun xs μ => kl (x :: xs) μ
@[reducible] noncomputable def kE1 (es : List Expr) (kl : List W → Mem → Prop) : PostW := fun x μ => cEs C d sc ε μ es (kE2 x kl)
@[reducible] noncomputable def kG (name : Str) (k : PostW) : PostW := fun ow μ => cAttr C d μ ow name k
@[reducible] noncomputable def kRet (kf : PostF) : PostW := fun x μ => kf (.ret x) ε μ
@[reducible] noncomputable def kIf (body orelse : List Stmt) (kf : PostF) : Bool → Mem → Prop := fun b μ => (b = true → cS C d sc ε μ body kf) ∧ (b = false → cS C d sc ε μ orelse kf)
@[reducible] noncomputable def kAs (x : Str) (kf : PostF) : PostW := fun w μ => kf .next ((x, w) :: ε) μ
@[reducible] noncomputable def kNx (kf : PostF) : Env1 → Mem → Prop := fun ε μ => kf .next ε μ
@[reducible] noncomputable def kAT (t : Expr) (kf : PostF) : PostW := fun w μ => cAsg C d sc ε μ t w (kNx kf)
@[reducible] noncomputable def kX (kf : PostF) : PostW := fun _ μ => kf .next ε μ
@[reducible] noncomputable def kSE (ke : Env1 → Mem → Prop) : Mem → Prop := fun μ => ke ε μ
@[reducible] noncomputable def kSU2 (ow w : W) (ke : Env1 → Mem → Prop) : PostW := fun iw μ => cSetI C d μ ow iw w (kSE ε ke)
@[reducible] noncomputable def kSU (ie : Expr) (w : W) (ke : Env1 → Mem → Prop) : PostW := fun ow μ => cE C d sc ε μ ie (kSU2 C d ε ow w ke)
@[reducible] noncomputable def kSA (name : Str) (w : W) (ke : Env1 → Mem → Prop) : PostW := fun ow μ => cSetA C d μ ow name w (kSE ε ke)
@[reducible] noncomputable def kNot (kb : Bool → Mem → Prop) : Bool → Mem → Prop := fun b => kb (!b)
@[reducible] noncomputable def kTV (kb : Bool → Mem → Prop) : PostW := fun x μ => cB1 C d μ x truthy kb
@[reducible] noncomputable def kAnd (es : List Expr) (kb : Bool → Mem → Prop) : Bool → Mem → Prop := fun b μ => (b = true → cAll C d sc ε μ .And es kb) ∧ (b = false → kb false μ)
@[reducible] noncomputable def kOr (es : List Expr) (kb : Bool → Mem → Prop) : Bool → Mem → Prop := fun b μ => (b = false → cAll C d sc ε μ .Or es kb) ∧ (b = true → kb true μ)
@[reducible] noncomputable def kIfE (x y : Expr) (k : PostW) : Bool → Mem → Prop := fun b μ => (b = true → cE C d sc ε μ x k) ∧ (b = false → cE C d sc ε μ y k)
@[reducible] noncomputable def kAnd2 (y : Expr) (k : PostW) : Bool → Mem → Prop := fun b μ => (b = true → cE C d sc ε μ y k) ∧ (b = false → k (.v (.bool false)) μ)
@[reducible] noncomputable def kOr2 (y : Expr) (k : PostW) : Bool → Mem → Prop := fun b μ => (b = false → cE C d sc ε μ y k) ∧ (b = true → k (.v (.bool true)) μ)
@[reducible] noncomputable def kFor (t : Expr) (body : List Stmt) (kf : PostF) : PostW := fun w μ => ∃ P, cIter C d μ w P ∧ ∀ items, P items → cFor C d sc ε μ t body items kf
@[reducible] noncomputable def kTurn (t : Expr) (body : List Stmt) (kf : PostF) (J : Nat → Env1 → Mem → Prop) (i : Nat) (x : V) (ε : Env1) (μ : Mem) : Prop := cAsg C d sc ε μ t (.v x) fun ε₁ μ₁ => cS C d sc ε₁ μ₁ body (forK J i kf)
end
section
variable {C : Cx} {d : Nat} {sc : Scope} {ε : Env1} {μ : Mem} {k : PostW} {kf : PostF} {kb : Bool → Mem → Prop} {ke : Env1 → Mem → Prop} {kl : List W → Mem → Prop}
noncomputable def locV (sc : Scope) (ε : Env1) (x : Str) : Option W :=
  cond (!(x == ("__debug__" : Str)) && (!(x == ("__classdict__" : Str)) && (sc.names.lookup x == some .local || (sc.names.lookup x == some .cell || sc.names.lookup x == some .free)))) (ε.lookup x) none
noncomputable def evC (c : Const) : Option W := by
  cases c with
  | int i => exact some (.v (.int i))
  | str x => exact some (.v (.str x))
  | bool b => exact some (.v (.bool b))
  | none => exact some (.v .none)
  | _ => exact none
noncomputable def ev (sc : Scope) (ε : Env1) (e : Expr) : Option W := by
  cases e with
  | Name x _ => exact locV sc ε x
  | Constant c _ _ => exact evC c
  | _ => exact none
noncomputable def evs (sc : Scope) (ε : Env1) (es : List Expr) : Option (List W) :=
  List.rec (some []) (fun e _ r => Option.rec none (fun w => Option.rec none (fun ws => some (w :: ws)) r) (ev sc ε e)) es
theorem cE_loc {x : Str} {w : W} {pos : Pos} (hx : locV sc ε x = some w) (h : k w μ) : cE C d sc ε μ (.Name x pos) k := by
  unfold locV at hx
  cases hb : (!(x == ("__debug__" : Str)) && (!(x == ("__classdict__" : Str)) && (sc.names.lookup x == some .local || (sc.names.lookup x == some .cell || sc.names.lookup x == some .free)))) with
  | false => rw [hb] at hx; exact nomatch hx
  | true =>
    rw [hb] at hx
    have h1 := Bool.and_eq_true_iff.mp hb
    have h2 := Bool.and_eq_true_iff.mp h1.2
    exact cE_name hx h ((Bool.or_eq_true_iff.mp h2.2).imp (eq_of_beq ·) fun q => (Bool.or_eq_true_iff.mp q).imp (eq_of_beq ·) (eq_of_beq ·)) ((Bool.not_eq_true' _).mp h1.1) ((Bool.not_eq_true' _).mp h2.1)
theorem some_el {a w : W} {P : W → Prop} (hx : some a = some w) (h : P w) : P a := Option.some.inj hx ▸ h
theorem no_ev {p : Prop} {w : W} (hx : none = some w) : p := nomatch hx
theorem cE_evC {c : Const} {kd : Nat} {pos : Pos} {w : W} (hx : evC c = some w) (h : k w μ) : cE C d sc ε μ (.Constant c kd pos) k := by
  cases c with
  | int i => exact cE_int (some_el (P := fun w => k w μ) hx h)
  | str x => exact cE_str (some_el (P := fun w => k w μ) hx h)
  | bool b => exact cE_bool (some_el (P := fun w => k w μ) hx h)
  | none => exact cE_none (some_el (P := fun w => k w μ) hx h)
  | _ => exact no_ev hx
noncomputable def EvIs (sc : Scope) (ε : Env1) (w : W) (e : Expr) : Prop := (∃ x pos, e = .Name x pos ∧ locV sc ε x = some w) ∨ ∃ c kd pos, e = .Constant c kd pos ∧ evC c = some w
theorem ev_is {e : Expr} {w : W} : ev sc ε e = some w → EvIs sc ε w e :=
  Expr.casesOn (motive_1 := fun e => ev sc ε e = some w → EvIs sc ε w e) e (fun _ _ _ => no_ev) (fun _ _ _ => no_ev) (fun _ _ _ _ => no_ev) (fun _ _ _ => no_ev) (fun _ _ _ _ => no_ev) (fun _ _ _ _ => no_ev) (fun _ _ _ => no_ev) (fun _ _ _ => no_ev) (fun _ _ _ _ => no_ev) (fun _ _ _ _ => no_ev) (fun _ _ _ _ _ => no_ev) (fun _ _ _ _ => no_ev) (fun _ _ => no_ev) (fun _ _ => no_ev) (fun _ _ => no_ev) (fun _ _ _ _ => no_ev) (fun _ _ _ _ => no_ev) (fun _ _ _ _ => no_ev) (fun _ _ => no_ev) (fun _ _ _ h => .inr ⟨_, _, _, rfl, h⟩) (fun _ _ _ => no_ev) (fun _ _ _ => no_ev) (fun _ _ => no_ev) (fun _ _ h => .inl ⟨_, _, rfl, h⟩) (fun _ _ => no_ev) (fun _ _ _ => no_ev) (fun _ _ _ _ => no_ev)
theorem cE_ev {e : Expr} {w : W} (hx : ev sc ε e = some w) (h : k w μ) : cE C d sc ε μ e k := by
  rcases ev_is hx with ⟨x, p, rfl, h1⟩ | ⟨c, kd, p, rfl, h1⟩
  · exact cE_loc h1 h
  · exact cE_evC h1 h
theorem ev_plain {e : Expr} {es : List Expr} {w : W} (hx : ev sc ε e = some w) (env : Env) : starEach (e :: es) env = (false, eval e env) :: starEach es env := by
  rcases ev_is hx with ⟨x, p, rfl, h1⟩ | ⟨c, kd, p, rfl, h1⟩ <;> rfl
theorem both_some {a : Option W} {b : Option (List W)} {ws : List W} (h : (Option.rec none (fun w => Option.rec none (fun ws => some (w :: ws)) b) a : Option (List W)) = some ws) : ∃ w ws', a = some w ∧ b = some ws' ∧ ws = w :: ws' := by
  cases a with
  | none => exact nomatch h
  | some w => cases b with
    | none => exact nomatch h
    | some ws' => cases h; exact ⟨w, ws', rfl, rfl, rfl⟩
theorem cEs_ev {es : List Expr} {w : List W} {kl : List W → Mem → Prop} (hx : evs sc ε es = some w) (h : kl w μ) : cEs C d sc ε μ es kl := by
  induction es generalizing w kl with
  | nil => cases hx; exact cEs_nil h
  | cons e es ih =>
    refine el23 (both_some hx) fun w' ws' h1 h2 h3 => ?_
    subst h3
    exact cEs_cons (cE_ev h1 (ih h2 h)) (ev_plain h1)
theorem cE_globK {x : Str} {w : Value} {pos : Pos} (g : Glob C x w) (hv : PySem.W.handedIn w = true) (hk : sc.names.lookup x = some .globalImplicit) (hd : (x == ("__debug__" : Str)) = false) (h : k (.v (.glob w)) μ) :
    cE C d sc ε μ (.Name x pos) k := cE_glob g hv h hk hd
theorem cE_binopK {l r : Expr} {op : Operator} {pos : Pos} (h : cE C d sc ε μ l (kR C d sc ε r (binaryOp op) k)) : cE C d sc ε μ (.BinOp l op r pos) k := cE_binop h
theorem cE_cmpK {l r : Expr} {op : CmpOp} {pos : Pos} (hm : behindInMarks op r = false) (h : cE C d sc ε μ l (kR C d sc ε r (compareOp op) k)) : cE C d sc ε μ (.Compare l [op] [r] pos) k := cE_cmp h hm
theorem cT_cmpK {l r : Expr} {op : CmpOp} {pos : Pos} (hm : behindInMarks op r = false) (h : cE C d sc ε μ l (kR C d sc ε r (compareOp op) (kTst kb))) : cT C d sc ε μ (.Compare l [op] [r] pos) kb := cT_cmp h hm
theorem kTst_b {b : Bool} (h : kb b μ) : kTst kb (.v (.bool b)) μ := ⟨b, rfl, h⟩
theorem cU1K {value slice : Expr} {pos : Pos} (hsl : ∀ o i, subscripted slice false o i = operate [o, i] (getItem o i)) (h : cE C d sc ε μ value (kU C d sc ε slice k)) : cE C d sc ε μ (.Subscript value slice pos) k := cE_sub hsl h
theorem cC0K {fe : Expr} {args : List Expr} {pos : Pos} (hev : ∀ env, eval (.Call fe args [] pos) env = (eval fe env >>= fun f => callWith pos f [] (backTo pos (starEach args env)) []))
    (hpl : ∀ env, (backTo pos (starEach args env)).any (·.1) = false) (h : cE C d sc ε μ fe (kF C d sc ε args k)) : cE C d sc ε μ (.Call fe args [] pos) k := cE_call hev hpl h
theorem kF_st {fv : Value} {args : List Expr} (hk : KeepOk C fv) (h : cEs C d sc ε μ args (kCall C d fv k)) : kF C d sc ε args k (.v (.glob fv)) μ := ⟨fv, rfl, hk, h⟩
theorem cC0G {x : Str} {w : Value} {px pos : Pos} {args : List Expr} (g : Glob C x w) (hv : PySem.W.handedIn w = true) (hk : sc.names.lookup x = some .globalImplicit) (hd : (x == ("__debug__" : Str)) = false)
    (hev : ∀ env, eval (.Call (.Name x px) args [] pos) env = (eval (.Name x px) env >>= fun f => callWith pos f [] (backTo pos (starEach args env)) []))
    (hpl : ∀ env, (backTo pos (starEach args env)).any (·.1) = false) (hkeep : KeepOk C w) (h : cEs C d sc ε μ args (kCall C d w k)) : cE C d sc ε μ (.Call (.Name x px) args [] pos) k :=
  cC0K hev hpl (cE_globK g hv hk hd (kF_st hkeep h))
theorem cC1K {o : Expr} {name : Str} {apos pos : Pos} {args : List Expr} (hbase : ∀ env, attributeBase o name env (eval o env) = eval o env)
    (hfew : ∀ env, methodCallForm (args.length + ([] : List Keyword).length) (backTo pos (starEach args env)) (backToKw pos (keywordEach [] env)) = true) (hline : (apos.endLine == pos.line) = true)
    (hpl : ∀ env, (backTo pos (starEach args env)).any (·.1) = false) (h : cE C d sc ε μ o (kM C d sc ε name args k)) : cE C d sc ε μ (.Call (.Attribute o name apos) args [] pos) k := cE_mcall hbase hfew hline hpl h
theorem cEsK {e : Expr} {es : List Expr} (he : ∀ env, starEach (e :: es) env = (false, eval e env) :: starEach es env) (h : cE C d sc ε μ e (kE1 C d sc ε es kl)) : cEs C d sc ε μ (e :: es) kl := cEs_cons h he
theorem cG1K {o : Expr} {name : Str} {pos : Pos} (hbase : ∀ env, attributeBase o name env (eval o env) = eval o env) (h : cE C d sc ε μ o (kG C d name k)) : cE C d sc ε μ (.Attribute o name pos) k := cE_attr hbase h
theorem cS1_returnK {e : Expr} {pos : Pos} (h : cE C d sc ε μ e (kRet ε kf)) : cS1 C d sc ε μ (.Return (some e) pos) kf := cS1_return h
theorem cS1_ifK {t : Expr} {body orelse : List Stmt} {pos : Pos} (h : cT C d sc ε μ t (kIf C d sc ε body orelse kf)) : cS1 C d sc ε μ (.If t body orelse pos) kf := cS1_if h
theorem cA1K {x : Str} {e : Expr} {px pos : Pos} (hk : sc.names.lookup x = some .local ∨ sc.names.lookup x = some .cell) (hsw : ∀ env : Env, env.scope = sc → swapsWith e (some (.Name x px)) pos.line env = pure false)
    (h : cE C d sc ε μ e (kAs ε x kf)) : cS1 C d sc ε μ (.Assign [.Name x px] e pos) kf := cS1_assign h hk hsw
theorem cATK {t e : Expr} {pos : Pos} (hsw : ∀ env : Env, env.scope = sc → swapsWithSole [t] e pos.line env = pure false) (hst : ∀ env : Env, env.scope = sc → swappedStores [t] e env = pure none)
    (he : ∀ env, (assignEach [t] env).map (·.2) = [assign t env]) (h : cE C d sc ε μ e (kAT C d sc ε t kf)) : cS1 C d sc ε μ (.Assign [t] e pos) kf := cS1_asg h hsw hst he
theorem cX1K {e : Expr} {pos : Pos} (hsw : ∀ env : Env, env.scope = sc → swapsWith e none pos.line env = pure false) (hk : sc.kind = .function) (h : cE C d sc ε μ e (kX ε kf)) : cS1 C d sc ε μ (.Expr e pos) kf := cS1_expr h hsw hk
theorem cAsg_uK {oe ie : Expr} {pos : Pos} {w : W} (h : cE C d sc ε μ oe (kSU C d sc ε ie w ke)) : cAsg C d sc ε μ (.Subscript oe ie pos) w ke := asg_sub h
theorem asg_attrK {oe : Expr} {name : Str} {pos : Pos} {w : W} (h : cE C d sc ε μ oe (kSA C d ε name w ke)) : cAsg C d sc ε μ (.Attribute oe name pos) w ke := asg_attr h
theorem cT_notK {x : Expr} {pos : Pos} (h : cT C d sc ε μ x (kNot kb)) : cT C d sc ε μ (.UnaryOp .Not x pos) kb := cT_not h
theorem cT_valK {e : Expr} (h : cE C d sc ε μ e (kTV C d kb)) (he : ∀ env whole, isTrue e env whole = (do let v ← whole; standAt e.pos; holding [v] (truthy v))) : cT C d sc ε μ e kb := cT_val h he
theorem cAll_andK {e : Expr} {es : List Expr} (h : cT C d sc ε μ e (kAnd C d sc ε es kb)) : cAll C d sc ε μ .And (e :: es) kb := cAll_and h
theorem cAll_orK {e : Expr} {es : List Expr} (h : cT C d sc ε μ e (kOr C d sc ε es kb)) : cAll C d sc ε μ .Or (e :: es) kb := cAll_or h
theorem cE_and2K {x y : Expr} {pos : Pos} (h : cE C d sc ε μ x (kTst (kAnd2 C d sc ε y k))) : cE C d sc ε μ (.BoolOp .And [x, y] pos) k := cE_and2 h
theorem cE_or2K {x y : Expr} {pos : Pos} (h : cE C d sc ε μ x (kTst (kOr2 C d sc ε y k))) : cE C d sc ε μ (.BoolOp .Or [x, y] pos) k := cE_or2 h
theorem cF1K {t iter : Expr} {body : List Stmt} {pos : Pos} (hs : ∀ env x, foldedSetIterable iter env x = pure x) (h : cE C d sc ε μ iter (kFor C d sc ε t body kf)) : cS1 C d sc ε μ (.For t iter body [] pos) kf := cS1_for hs h
theorem gen {α : Sort _} {G : Prop} (e : α) (k : ∀ x, x = e → G) : G := k e rfl
theorem for_is {t : Expr} {body : List Stmt} {w : W} {L : List V} (hit : cIter C d μ w (· = L)) (h : cFor C d sc ε μ t body L kf) : kFor C d sc ε t body kf w μ := ⟨_, hit, fun _ e => by subst e; exact h⟩
theorem at_map {α : Type} {f : α → V} {l : List α} (t : Nat) (x : V) (h : (l.map f)[t]? = some x) : ∃ a, x = f a ∧ l[t]? = some a := by
  rw [List.getElem?_map] at h
  exact el12 (Option.map_eq_some_iff.mp h) fun a h1 h2 => ⟨a, h2.symm, h1⟩
theorem at_rng {n : Nat} (t : Nat) (x : V) (h : (rngV 0 (n : Int))[t]? = some x) : ∃ _ : Unit, x = .int t ∧ t < n :=
  e2 (rngV_get h) fun h1 h2 => ⟨(), by rw [h2, Int.zero_add], by rw [Int.sub_zero] at h1; exact h1⟩
section
variable {t : Expr} {body : List Stmt}
theorem iv0 {E ε' : Env1} {μ' : Mem} (P : Env1 → Mem → Prop) (e : ε' = E) (h : ∃ m, μ' = m ∧ P E m) : P ε' μ' := h.elim fun m h => by subst e; rw [h.1]; exact h.2
theorem frB {items : List V} {β : Type} {f : Nat → β → V} {At : Nat → β → Prop} (hat : ∀ i x, items[i]? = some x → ∃ y, x = f i y ∧ At i y) (Inv : Nat → Env1 → Mem → Prop) (h0 : Inv 0 ε μ)
    (turn : ∀ J : Nat → Env1 → Mem → Prop, (∀ {i ε μ}, Inv i ε μ → J i ε μ) → ∀ i y, At i y → ∀ ε' μ', Inv i ε' μ' → kTurn C d sc t body kf J i (f i y) ε' μ') (fin : ∀ ε' μ', Inv items.length ε' μ' → kf .next ε' μ') : cFor C d sc ε μ t body items kf :=
  cFor_mk Inv h0 (fun J hJ i x ε' μ' hx h => (hat i x hx).elim fun y e => by rw [e.1]; exact turn J hJ i y e.2 ε' μ' h) fin
theorem iv000 {E : Env1} {M : Nat → Mem} {Inv : Nat → Env1 → Mem → Prop} (hI : ∀ i ε μ, Inv i ε μ = (ε = E ∧ μ = M i)) {i : Nat} (P : Env1 → Mem → Prop) (k : P E (M i)) (ε' : Env1) (μ' : Mem) (h : Inv i ε' μ') : P ε' μ' :=
  have h := cast (hI i ε' μ') h
  iv0 P h.1 (have h := h.2; ⟨_, h, k ⟩)
theorem fr000 {items : List V} {β : Type} {f : Nat → β → V} {At : Nat → β → Prop} {E : Env1} {M : Nat → Mem} (hat : ∀ i x, items[i]? = some x → ∃ y, x = f i y ∧ At i y) (Inv : Nat → Env1 → Mem → Prop) (hI : ∀ i ε μ, Inv i ε μ = (ε = E ∧ μ = M i)) (h0 : Inv 0 ε μ)
    (turn : ∀ J : Nat → Env1 → Mem → Prop, (∀ {i ε μ}, Inv i ε μ → J i ε μ) → ∀ i y, At i y → kTurn C d sc t body kf J i (f i y) E (M i)) (fin : kf .next E (M items.length)) : cFor C d sc ε μ t body items kf :=
  frB hat Inv h0 (fun J hJ i y h => iv000 hI _ (turn J hJ i y h)) (iv000 hI (kf .next) fin)
theorem iv101 {α0 : Type} {E : Env1} {M : Nat → α0 → Mem} {s0 : Nat → α0 → Prop} {Inv : Nat → Env1 → Mem → Prop} (hI : ∀ i ε μ, Inv i ε μ = (ε = E ∧ ∃ a0, μ = M i a0 ∧ s0 i a0)) {i : Nat} (P : Env1 → Mem → Prop) (k : ∀ a0, s0 i a0 → P E (M i a0)) (ε' : Env1) (μ' : Mem) (h : Inv i ε' μ') : P ε' μ' :=
  have h := cast (hI i ε' μ') h
  iv0 P h.1 (have h := h.2; h.elim fun a0 h => ⟨_, h.1, k a0 h.2⟩)
theorem fr101 {items : List V} {β : Type} {f : Nat → β → V} {At : Nat → β → Prop} {α0 : Type} {E : Env1} {M : Nat → α0 → Mem} {s0 : Nat → α0 → Prop} (hat : ∀ i x, items[i]? = some x → ∃ y, x = f i y ∧ At i y) (Inv : Nat → Env1 → Mem → Prop) (hI : ∀ i ε μ, Inv i ε μ = (ε = E ∧ ∃ a0, μ = M i a0 ∧ s0 i a0)) (h0 : Inv 0 ε μ)
    (turn : ∀ J : Nat → Env1 → Mem → Prop, (∀ {i ε μ}, Inv i ε μ → J i ε μ) → ∀ i y a0, At i y → s0 i a0 → kTurn C d sc t body kf J i (f i y) E (M i a0)) (fin : ∀ a0, s0 items.length a0 → kf .next E (M items.length a0)) : cFor C d sc ε μ t body items kf :=
  frB hat Inv h0 (fun J hJ i y h => iv101 hI _ fun a0 => turn J hJ i y a0 h) (iv101 hI (kf .next) fin)
theorem iv102 {α0 : Type} {E : Env1} {M : Nat → α0 → Mem} {s0 : Nat → α0 → Prop} {s1 : Nat → α0 → Prop} {Inv : Nat → Env1 → Mem → Prop} (hI : ∀ i ε μ, Inv i ε μ = (ε = E ∧ ∃ a0, μ = M i a0 ∧ s0 i a0 ∧ s1 i a0)) {i : Nat} (P : Env1 → Mem → Prop) (k : ∀ a0, s0 i a0 → s1 i a0 → P E (M i a0)) (ε' : Env1) (μ' : Mem) (h : Inv i ε' μ') : P ε' μ' :=
  have h := cast (hI i ε' μ') h
  iv0 P h.1 (have h := h.2; h.elim fun a0 h => ⟨_, h.1, k a0 h.2.1 h.2.2⟩)
theorem fr102 {items : List V} {β : Type} {f : Nat → β → V} {At : Nat → β → Prop} {α0 : Type} {E : Env1} {M : Nat → α0 → Mem} {s0 : Nat → α0 → Prop} {s1 : Nat → α0 → Prop} (hat : ∀ i x, items[i]? = some x → ∃ y, x = f i y ∧ At i y) (Inv : Nat → Env1 → Mem → Prop) (hI : ∀ i ε μ, Inv i ε μ = (ε = E ∧ ∃ a0, μ = M i a0 ∧ s0 i a0 ∧ s1 i a0)) (h0 : Inv 0 ε μ)
    (turn : ∀ J : Nat → Env1 → Mem → Prop, (∀ {i ε μ}, Inv i ε μ → J i ε μ) → ∀ i y a0, At i y → s0 i a0 → s1 i a0 → kTurn C d sc t body kf J i (f i y) E (M i a0)) (fin : ∀ a0, s0 items.length a0 → s1 items.length a0 → kf .next E (M items.length a0)) : cFor C d sc ε μ t body items kf :=
  frB hat Inv h0 (fun J hJ i y h => iv102 hI _ fun a0 => turn J hJ i y a0 h) (iv102 hI (kf .next) fin)
theorem iv110 {α0 : Type} {E : Env1} {M : Nat → α0 → Mem} {r0 : Nat → α0 → Prop} {Inv : Nat → Env1 → Mem → Prop} (hI : ∀ i ε μ, Inv i ε μ = (ε = E ∧ ∃ a0, r0 i a0 ∧ μ = M i a0)) {i : Nat} (P : Env1 → Mem → Prop) (k : ∀ a0, r0 i a0 → P E (M i a0)) (ε' : Env1) (μ' : Mem) (h : Inv i ε' μ') : P ε' μ' :=
  have h := cast (hI i ε' μ') h
  iv0 P h.1 (have h := h.2; h.elim fun a0 h => ⟨_, h.2, k a0 h.1⟩)
theorem fr110 {items : List V} {β : Type} {f : Nat → β → V} {At : Nat → β → Prop} {α0 : Type} {E : Env1} {M : Nat → α0 → Mem} {r0 : Nat → α0 → Prop} (hat : ∀ i x, items[i]? = some x → ∃ y, x = f i y ∧ At i y) (Inv : Nat → Env1 → Mem → Prop) (hI : ∀ i ε μ, Inv i ε μ = (ε = E ∧ ∃ a0, r0 i a0 ∧ μ = M i a0)) (h0 : Inv 0 ε μ)
    (turn : ∀ J : Nat → Env1 → Mem → Prop, (∀ {i ε μ}, Inv i ε μ → J i ε μ) → ∀ i y a0, At i y → r0 i a0 → kTurn C d sc t body kf J i (f i y) E (M i a0)) (fin : ∀ a0, r0 items.length a0 → kf .next E (M items.length a0)) : cFor C d sc ε μ t body items kf :=
  frB hat Inv h0 (fun J hJ i y h => iv110 hI _ fun a0 => turn J hJ i y a0 h) (iv110 hI (kf .next) fin)
theorem iv202 {α0 : Type} {α1 : Type} {E : Env1} {M : Nat → α0 → α1 → Mem} {s0 : Nat → α0 → α1 → Prop} {s1 : Nat → α0 → α1 → Prop} {Inv : Nat → Env1 → Mem → Prop} (hI : ∀ i ε μ, Inv i ε μ = (ε = E ∧ ∃ a0 a1, μ = M i a0 a1 ∧ s0 i a0 a1 ∧ s1 i a0 a1)) {i : Nat} (P : Env1 → Mem → Prop) (k : ∀ a0 a1, s0 i a0 a1 → s1 i a0 a1 → P E (M i a0 a1)) (ε' : Env1) (μ' : Mem) (h : Inv i ε' μ') : P ε' μ' :=
  have h := cast (hI i ε' μ') h
  iv0 P h.1 (have h := h.2; h.elim fun a0 h => h.elim fun a1 h => ⟨_, h.1, k a0 a1 h.2.1 h.2.2⟩)
theorem fr202 {items : List V} {β : Type} {f : Nat → β → V} {At : Nat → β → Prop} {α0 : Type} {α1 : Type} {E : Env1} {M : Nat → α0 → α1 → Mem} {s0 : Nat → α0 → α1 → Prop} {s1 : Nat → α0 → α1 → Prop} (hat : ∀ i x, items[i]? = some x → ∃ y, x = f i y ∧ At i y) (Inv : Nat → Env1 → Mem → Prop) (hI : ∀ i ε μ, Inv i ε μ = (ε = E ∧ ∃ a0 a1, μ = M i a0 a1 ∧ s0 i a0 a1 ∧ s1 i a0 a1)) (h0 : Inv 0 ε μ)
    (turn : ∀ J : Nat → Env1 → Mem → Prop, (∀ {i ε μ}, Inv i ε μ → J i ε μ) → ∀ i y a0 a1, At i y → s0 i a0 a1 → s1 i a0 a1 → kTurn C d sc t body kf J i (f i y) E (M i a0 a1)) (fin : ∀ a0 a1, s0 items.length a0 a1 → s1 items.length a0 a1 → kf .next E (M items.length a0 a1)) : cFor C d sc ε μ t body items kf :=
  frB hat Inv h0 (fun J hJ i y h => iv202 hI _ fun a0 a1 => turn J hJ i y a0 a1 h) (iv202 hI (kf .next) fin)
theorem iv203 {α0 : Type} {α1 : Type} {E : Env1} {M : Nat → α0 → α1 → Mem} {s0 : Nat → α0 → α1 → Prop} {s1 : Nat → α0 → α1 → Prop} {s2 : Nat → α0 → α1 → Prop} {Inv : Nat → Env1 → Mem → Prop} (hI : ∀ i ε μ, Inv i ε μ = (ε = E ∧ ∃ a0 a1, μ = M i a0 a1 ∧ s0 i a0 a1 ∧ s1 i a0 a1 ∧ s2 i a0 a1)) {i : Nat} (P : Env1 → Mem → Prop) (k : ∀ a0 a1, s0 i a0 a1 → s1 i a0 a1 → s2 i a0 a1 → P E (M i a0 a1)) (ε' : Env1) (μ' : Mem) (h : Inv i ε' μ') : P ε' μ' :=
  have h := cast (hI i ε' μ') h
  iv0 P h.1 (have h := h.2; h.elim fun a0 h => h.elim fun a1 h => ⟨_, h.1, k a0 a1 h.2.1 h.2.2.1 h.2.2.2⟩)
theorem fr203 {items : List V} {β : Type} {f : Nat → β → V} {At : Nat → β → Prop} {α0 : Type} {α1 : Type} {E : Env1} {M : Nat → α0 → α1 → Mem} {s0 : Nat → α0 → α1 → Prop} {s1 : Nat → α0 → α1 → Prop} {s2 : Nat → α0 → α1 → Prop} (hat : ∀ i x, items[i]? = some x → ∃ y, x = f i y ∧ At i y) (Inv : Nat → Env1 → Mem → Prop) (hI : ∀ i ε μ, Inv i ε μ = (ε = E ∧ ∃ a0 a1, μ = M i a0 a1 ∧ s0 i a0 a1 ∧ s1 i a0 a1 ∧ s2 i a0 a1)) (h0 : Inv 0 ε μ)
    (turn : ∀ J : Nat → Env1 → Mem → Prop, (∀ {i ε μ}, Inv i ε μ → J i ε μ) → ∀ i y a0 a1, At i y → s0 i a0 a1 → s1 i a0 a1 → s2 i a0 a1 → kTurn C d sc t body kf J i (f i y) E (M i a0 a1)) (fin : ∀ a0 a1, s0 items.length a0 a1 → s1 items.length a0 a1 → s2 items.length a0 a1 → kf .next E (M items.length a0 a1)) : cFor C d sc ε μ t body items kf :=
  frB hat Inv h0 (fun J hJ i y h => iv203 hI _ fun a0 a1 => turn J hJ i y a0 a1 h) (iv203 hI (kf .next) fin)
theorem iv320 {α0 : Type} {α1 : Type} {α2 : Type} {E : Env1} {M : Nat → α0 → α1 → α2 → Mem} {r0 : Nat → α0 → α1 → α2 → Prop} {r1 : Nat → α0 → α1 → α2 → Prop} {Inv : Nat → Env1 → Mem → Prop} (hI : ∀ i ε μ, Inv i ε μ = (ε = E ∧ ∃ a0 a1 a2, r0 i a0 a1 a2 ∧ r1 i a0 a1 a2 ∧ μ = M i a0 a1 a2)) {i : Nat} (P : Env1 → Mem → Prop) (k : ∀ a0 a1 a2, r0 i a0 a1 a2 → r1 i a0 a1 a2 → P E (M i a0 a1 a2)) (ε' : Env1) (μ' : Mem) (h : Inv i ε' μ') : P ε' μ' :=
  have h := cast (hI i ε' μ') h
  iv0 P h.1 (have h := h.2; h.elim fun a0 h => h.elim fun a1 h => h.elim fun a2 h => ⟨_, h.2.2, k a0 a1 a2 h.1 h.2.1⟩)
theorem fr320 {items : List V} {β : Type} {f : Nat → β → V} {At : Nat → β → Prop} {α0 : Type} {α1 : Type} {α2 : Type} {E : Env1} {M : Nat → α0 → α1 → α2 → Mem} {r0 : Nat → α0 → α1 → α2 → Prop} {r1 : Nat → α0 → α1 → α2 → Prop} (hat : ∀ i x, items[i]? = some x → ∃ y, x = f i y ∧ At i y) (Inv : Nat → Env1 → Mem → Prop) (hI : ∀ i ε μ, Inv i ε μ = (ε = E ∧ ∃ a0 a1 a2, r0 i a0 a1 a2 ∧ r1 i a0 a1 a2 ∧ μ = M i a0 a1 a2)) (h0 : Inv 0 ε μ)
    (turn : ∀ J : Nat → Env1 → Mem → Prop, (∀ {i ε μ}, Inv i ε μ → J i ε μ) → ∀ i y a0 a1 a2, At i y → r0 i a0 a1 a2 → r1 i a0 a1 a2 → kTurn C d sc t body kf J i (f i y) E (M i a0 a1 a2)) (fin : ∀ a0 a1 a2, r0 items.length a0 a1 a2 → r1 items.length a0 a1 a2 → kf .next E (M items.length a0 a1 a2)) : cFor C d sc ε μ t body items kf :=
  frB hat Inv h0 (fun J hJ i y h => iv320 hI _ fun a0 a1 a2 => turn J hJ i y a0 a1 a2 h) (iv320 hI (kf .next) fin)
theorem iv403 {α0 : Type} {α1 : Type} {α2 : Type} {α3 : Type} {E : Env1} {M : Nat → α0 → α1 → α2 → α3 → Mem} {s0 : Nat → α0 → α1 → α2 → α3 → Prop} {s1 : Nat → α0 → α1 → α2 → α3 → Prop} {s2 : Nat → α0 → α1 → α2 → α3 → Prop} {Inv : Nat → Env1 → Mem → Prop} (hI : ∀ i ε μ, Inv i ε μ = (ε = E ∧ ∃ a0 a1 a2 a3, μ = M i a0 a1 a2 a3 ∧ s0 i a0 a1 a2 a3 ∧ s1 i a0 a1 a2 a3 ∧ s2 i a0 a1 a2 a3)) {i : Nat} (P : Env1 → Mem → Prop) (k : ∀ a0 a1 a2 a3, s0 i a0 a1 a2 a3 → s1 i a0 a1 a2 a3 → s2 i a0 a1 a2 a3 → P E (M i a0 a1 a2 a3)) (ε' : Env1) (μ' : Mem) (h : Inv i ε' μ') : P ε' μ' :=
  have h := cast (hI i ε' μ') h
  iv0 P h.1 (have h := h.2; h.elim fun a0 h => h.elim fun a1 h => h.elim fun a2 h => h.elim fun a3 h => ⟨_, h.1, k a0 a1 a2 a3 h.2.1 h.2.2.1 h.2.2.2⟩)
theorem fr403 {items : List V} {β : Type} {f : Nat → β → V} {At : Nat → β → Prop} {α0 : Type} {α1 : Type} {α2 : Type} {α3 : Type} {E : Env1} {M : Nat → α0 → α1 → α2 → α3 → Mem} {s0 : Nat → α0 → α1 → α2 → α3 → Prop} {s1 : Nat → α0 → α1 → α2 → α3 → Prop} {s2 : Nat → α0 → α1 → α2 → α3 → Prop} (hat : ∀ i x, items[i]? = some x → ∃ y, x = f i y ∧ At i y) (Inv : Nat → Env1 → Mem → Prop) (hI : ∀ i ε μ, Inv i ε μ = (ε = E ∧ ∃ a0 a1 a2 a3, μ = M i a0 a1 a2 a3 ∧ s0 i a0 a1 a2 a3 ∧ s1 i a0 a1 a2 a3 ∧ s2 i a0 a1 a2 a3)) (h0 : Inv 0 ε μ)
    (turn : ∀ J : Nat → Env1 → Mem → Prop, (∀ {i ε μ}, Inv i ε μ → J i ε μ) → ∀ i y a0 a1 a2 a3, At i y → s0 i a0 a1 a2 a3 → s1 i a0 a1 a2 a3 → s2 i a0 a1 a2 a3 → kTurn C d sc t body kf J i (f i y) E (M i a0 a1 a2 a3)) (fin : ∀ a0 a1 a2 a3, s0 items.length a0 a1 a2 a3 → s1 items.length a0 a1 a2 a3 → s2 items.length a0 a1 a2 a3 → kf .next E (M items.length a0 a1 a2 a3)) : cFor C d sc ε μ t body items kf :=
  frB hat Inv h0 (fun J hJ i y h => iv403 hI _ fun a0 a1 a2 a3 => turn J hJ i y a0 a1 a2 a3 h) (iv403 hI (kf .next) fin)
end
end
end
set_option compiler.extract_closed false
def mcId (s : String) : Lean.Ident := Lean.mkIdent (s.splitOn "." |>.foldl (fun n x => Lean.Name.mkStr n x) `Mine)
def mcArg (c : Char) (h : Lean.TSyntax `term) : Lean.MacroM (Lean.TSyntax `term) := match c with
  | 'h' => pure h
  | 'r' => `(by intros; rfl)
  | 'a' => `(by assumption)
  | 'u' => `(rfl)
  | 'k' => `(by kernel_rfl)
  | 'd' => `(by walk_at "kind")
  | 'g' => `(by walk_at "glob")
  | 'w' => `(by walk_at "keep")
  | 's' => `(by first | (intros; rfl) | exact $(mcId "sw_at") rfl)
  | 'f' => `(fun _ => ?_)
  | _ => `(?_)
def mcFirst (t : String) (h : Lean.TSyntax `term) : Lean.MacroM (Lean.TSyntax `tactic) := do
  let mut l : Array (Lean.TSyntax `tactic) := #[]
  for e in t.splitOn "|" do
    match e.splitOn " " with
    | [f] => l := l.push (← `(tactic| with_reducible refine $(mcId f) ?_))
    | f :: as :: ws =>
      let as ← as.toList.toArray.mapM fun c => mcArg c h
      let qs ← (as.push h).mapM fun _ => `(?_)
      if ws.isEmpty then l := l.push (← `(tactic| ((with_reducible refine $(mcId f) $qs*); $[exact $as];*)))
      else l := l.push (← `(tactic| ((with_reducible refine $(mcId f) (w := ?_) $qs*); rotate_left; $[exact $as];*)))
    | _ => pure ()
  `(tactic| first $[| $l:tactic]*)
section
open PySem PySem.Calls
theorem enterO {C : Cx} {f : Addr} {r : Option Obj} (h : C.K = Mine.hk.heap_1 C.P) (hh : (Mine.hk.heap_1 C.P).lookup f = r) : C.K.lookup f = r := by rw [h]; exact hh
theorem enterC {C : Cx} {v : Value} {q : Str} {b : Bool} (h : C.K = Mine.hk.heap_1 C.P) (hh : codeT (Mine.hk.heap_1 C.P) v q = b) : codeT C.K v q = b := by rw [h]; exact hh
theorem enterK {C : Cx} {v : Value} {b : Bool} (h : C.K = Mine.hk.heap_1 C.P) (hh : PySem.W.keepIn (Mine.hk.heap_1 C.P) v = b) : PySem.W.keepIn C.K v = b := by rw [h]; exact hh
section
variable {C : Cx} (h : C.K = Mine.hk.heap_1 C.P)
include h
theorem g_Nonterminal : Glob C "Nonterminal" (.ref 66) := Glob.ofK (by rw [h]; kernel_rfl)
theorem g_is_nonterminal : Glob C "is_nonterminal" (.ref 77) := Glob.ofK (by rw [h]; kernel_rfl)
theorem g_is_terminal : Glob C "is_terminal" (.ref 84) := Glob.ofK (by rw [h]; kernel_rfl)
theorem g_key : Glob C "_key" (.ref 91) := Glob.ofK (by rw [h]; kernel_rfl)
theorem g_Production : Glob C "Production" (.ref 155) := Glob.ofK (by rw [h]; kernel_rfl)
theorem g_CFG : Glob C "CFG" (.ref 336) := Glob.ofK (by rw [h]; kernel_rfl)
theorem g_transitive_closure : Glob C "transitive_closure" (.ref 347) := Glob.ofK (by rw [h]; kernel_rfl)
theorem g_law_next : Glob C "_law_next" (.ref 354) := Glob.ofK (by rw [h]; kernel_rfl)
theorem g_law_behind : Glob C "_law_behind" (.ref 359) := Glob.ofK (by rw [h]; kernel_rfl)
theorem g_law_told : Glob C "_law_told" (.ref 364) := Glob.ofK (by rw [h]; kernel_rfl)
theorem g_int : Glob C "int" (.type "int") := Glob.blt (by rw [h]; kernel_rfl) (by kernel_rfl) (by decide)
theorem g_range : Glob C "range" (.type "range") := Glob.blt (by rw [h]; kernel_rfl) (by kernel_rfl) (by decide)
theorem g_set : Glob C "set" (.type "set") := Glob.blt (by rw [h]; kernel_rfl) (by kernel_rfl) (by decide)
theorem g_str : Glob C "str" (.type "str") := Glob.blt (by rw [h]; kernel_rfl) (by kernel_rfl) (by decide)
theorem g_tuple : Glob C "tuple" (.type "tuple") := Glob.blt (by rw [h]; kernel_rfl) (by kernel_rfl) (by decide)
theorem g_list : Glob C "list" (.type "list") := Glob.blt (by rw [h]; kernel_rfl) (by kernel_rfl) (by decide)
theorem g_len : Glob C "len" (.builtin "len") := Glob.blt (by rw [h]; kernel_rfl) (by kernel_rfl) (by decide)
theorem g_any : Glob C "any" (.builtin "any") := Glob.blt (by rw [h]; kernel_rfl) (by kernel_rfl) (by decide)
theorem g_all : Glob C "all" (.builtin "all") := Glob.blt (by rw [h]; kernel_rfl) (by kernel_rfl) (by decide)
theorem g_min : Glob C "min" (.builtin "min") := Glob.blt (by rw [h]; kernel_rfl) (by kernel_rfl) (by decide)
theorem g_max : Glob C "max" (.builtin "max") := Glob.blt (by rw [h]; kernel_rfl) (by kernel_rfl) (by decide)
theorem g_sorted : Glob C "sorted" (.builtin "sorted") := Glob.blt (by rw [h]; kernel_rfl) (by kernel_rfl) (by decide)
theorem g_isinstance : Glob C "isinstance" (.builtin "isinstance") := Glob.blt (by rw [h]; kernel_rfl) (by kernel_rfl) (by decide)
end
end
section
open PySem PySem.Calls
local macro_rules | `(tactic| walk_at "kind") => `(tactic| first | exact .inl rfl | exact .inr (.inl rfl) | exact .inr (.inr rfl) | exact .inr rfl)
local macro_rules | `(tactic| walk_at "enter") => do
  let t : Lean.TSyntax `term ← `(rfl)
  let mut l : Array (Lean.TSyntax `tactic) := #[← `(tactic| case ho => exact enterO (by assumption) rfl), ← `(tactic| case hcd => exact enterC (by assumption) (by kernel_rfl)), ← `(tactic| case hfree => decide +kernel)]
  for e in "hkind k|hn k|hco u|hgen u|hk u".splitOn "|" do
    match e.splitOn " " with
    | [a, b] => l := l.push (← `(tactic| case $(Lean.mkIdent (Lean.Name.mkSimple a)):ident => exact $(← mcArg b.front t)))
    | _ => pure ()
  `(tactic| ($[$l:tactic];*))
local macro_rules | `(tactic| walk_at "bind1") => `(tactic| (intro F s vs kvs X hv hkv; exact bind_1 (fun _ => rfl) hv hkv))
local macro_rules | `(tactic| walk_at "bind2") => `(tactic| (intro F s vs kvs X hv hkv; exact bind_2 (fun _ _ => rfl) hv hkv))
local macro_rules | `(tactic| walk_at "glob") => do `(tactic| ($(← mcFirst "g_Nonterminal|g_is_nonterminal|g_is_terminal|g_key|g_Production|g_CFG|g_transitive_closure|g_law_next|g_law_behind|g_law_told|g_int|g_range|g_set|g_str|g_tuple|g_list|g_len|g_any|g_all|g_min|g_max|g_sorted|g_isinstance" (← `(rfl))):tactic; assumption))
local macro_rules | `(tactic| walk_at "keep") => `(tactic| first
  | exact .inr (.inl ⟨_, rfl⟩)
  | exact .inr (.inr ⟨_, rfl⟩)
  | exact .inl (enterK (by assumption) (by kernel_rfl)))
local macro_rules | `(tactic| walk_at "keeps") => `(tactic| ((with_reducible first | refine keep_and ?_ ?_ | refine kF_st ?_ ?_ | refine fn_glob ?_ ?_); walk_at "keep"))
local macro_rules | `(tactic| walk_at "cons") => `(tactic| with_reducible refine cS_cons ?_)
local macro_rules | `(tactic| walk_at "s") => do
  let t : Lean.TSyntax `term ← `(rfl)
  let x ← mcFirst "seqK_next|cS_nil|seqK_ret|seqK_cont|seqK_brk|retK_ret|retK_next|cE_loc u w|cE_int|cE_str|cE_bool|cE_none|cE_globK guuu w|cE_binopK|cE_cmpK u|cT_cmpK u|cF1K r|cE_set1 ar|cE_and2K|cE_or2K|cE_ifexpK|cE_listR0 ukurd|cE_listR1 ukurd|cE_gn|cC0G guuurrw w|cC0K rr|cC1K rrur|cG1K r|cSl_mk r|cU1K r|cT_boolop|cT_notK|cS1_returnK|cS1_ifK|cA1K ds|cATK rrr|cX1K ru|cS1_continue|cS1_pass|cAsg_uK|asg_name d|asg_attrK|cEs_ev u w|cEsK r|rng_1|rng_2|v_add|v_sub|v_eqi|v_nei|v_lt|v_gt|v_le|v_isb|v_isnotb|kTst_b|tstB" t
  `(tactic| first | $x:tactic | walk_at "cons" | walk_at "keeps")
local macro_rules | `(tactic| walk_at "ss") => `(tactic| repeat (walk_at "s"))
noncomputable def nxt (ns : List Int) (k many : Int) : Int := if ns = [] then (13 * k + 5).fmod many else (ns.getD (k.fmod ns.length).toNat 0 + 7 * k * (k.fdiv ns.length)).fmod many
section
variable {C : Cx} (h : C.K = Mine.hk.heap_1 C.P)
include h
theorem law_next_spec {μ μ' : Mem} {a : Addr} {ns : List Int} {kk many : Int} {k : PostW} (hk0 : 0 ≤ kk) (hk1 : kk < 1000) (hmany : many ≠ 0) (hl : ns.length ≤ 100)
    (hU : UpdAt a (.list [.v (.list (ns.map .int)), .v (.int kk)]) (.list [.v (.list (ns.map .int)), .v (.int (kk + 1))]) μ μ') (hk : k (.v (.int (nxt ns kk many))) μ') :
    cCall C 3 μ (.ref 354) [.l a, .v (.int many)] [] k := by
  apply cCall_enter [("hand", .l a), ("many", .v (.int many))]
  walk_at "enter"
  case hbind =>
    intro F s vs kvs X hv hkv
    refine WsAt.i2 hv fun u v h1 h2 => ?_
    refine KwAt.i_nil hkv ?_
    refine ⟨_, BindsTo.of_eq rfl, ?_⟩; exact .cons h1 (.cons h2 .nil)
  walk_at "ss"
  walk_at "ss"
  refine asg_list2 hU.mem (by walk_at "kind") (by walk_at "kind") ?_
  walk_at "ss"
  refine si_list hU (by lia) (by simp) (by simp) ?_
  walk_at "ss"
  refine len_list (by simp; lia) ?_
  walk_at "ss"
  rw [List.length_map]
  constructor
  · intro e
    have e' : ns = [] := List.eq_nil_of_length_eq_zero (by simpa using e)
    walk_at "ss"
    refine v_mul (by mul_fits) ?_
    walk_at "ss"
    refine v_mod hmany ?_
    walk_at "ss"
    rw [nxt, if_pos e'] at hk
    exact hk
  · intro e
    have e' : ns ≠ [] := fun e' => by subst e'; simp at e
    have hn : (ns.length : Int) ≠ 0 := by simpa using e
    have hb : 0 ≤ kk.fmod ns.length ∧ kk.fmod ns.length < ns.length := ⟨Int.fmod_nonneg_of_pos _ (by lia), Int.fmod_lt_of_pos _ (by lia)⟩
    walk_at "ss"
    refine v_mod hn ?_
    refine ⟨sub_list, v_item_list (x := .int (ns.getD (kk.fmod ns.length).toNat 0)) hb.1 (by lia) ?_ ?_⟩
    · have : (kk.fmod ns.length).toNat < ns.length := by lia
      simp [List.getElem?_eq_getElem this]
    walk_at "ss"
    refine int_int ?_
    walk_at "ss"
    refine v_mul (by mul_fits) ?_
    walk_at "ss"
    refine v_div hn (by lia) ?_
    refine v_mul (by mul_fits) ?_
    walk_at "ss"
    refine v_mod hmany ?_
    walk_at "ss"
    rw [nxt, if_neg e'] at hk
    exact hk
end
noncomputable def behind (f g : Nat → Nat → Bool) (i j : Nat) : Bool := ((List.range 4).map fun k => f i k && g k j).any id
section
variable {C : Cx} (h : C.K = Mine.hk.heap_1 C.P)
include h
theorem law_behind_spec {μ : Mem} {f g : Nat → Nat → Bool} {k : PostW} (hk : k (.v (matV (behind f g))) μ) :
    cCall C 4 μ (.ref 359) [.v (matV f), .v (matV g)] [] k := by
  apply cCall_enter [("left", .v (matV f)), ("right", .v (matV g))]
  walk_at "enter"
  case hbind =>
    intro F s vs kvs X hv hkv
    refine WsAt.i2 hv fun u v h1 h2 => ?_
    refine KwAt.i_nil hkv ?_
    refine ⟨_, BindsTo.of_eq rfl, ?_⟩; exact .cons h1 (.cons h2 .nil)
  walk_at "ss"
  refine ⟨4, rfl, by decide, fun i => rowV (behind f g i), fun i hi acc L => ?_, ?_⟩
  · walk_at "ss"
    refine ⟨4, rfl, by decide, fun j => .bool (behind f g i j), fun j hj acc L => ?_, ?_⟩
    · walk_at "ss"
      refine ⟨4, rfl, by decide, fun k => .bool (f i k && g k j), fun n hn acc L => ?_, ?_⟩
      · walk_at "ss"
        refine i_mat hi ?_
        walk_at "ss"
        refine i_row hn ?_
        refine ⟨_, rfl, fun e => ?_, fun e => ?_⟩
        · walk_at "ss"
          refine i_mat hn ?_
          walk_at "ss"
          refine i_row hj ?_
          exact ⟨by simp [e], rfl⟩
        · exact ⟨by simp [e], rfl⟩
      · walk_at "ss"
        refine c_anyF ?_
        exact ⟨rfl, rfl⟩
    · exact ⟨rfl, rfl⟩
  · walk_at "ss"
    exact hk
end
noncomputable def toldV (dom : List Nat) (f : Nat → Nat → Bool) : V := .dict (dom.map fun i => (nmK i, .list (((pick (f i)).map nm).map .str)))
noncomputable def idxOf : Key → Nat
  | .s x => x.cps.getD 0 0 - 65
  | _ => 0
theorem idxOf_nm (i : Nat) : idxOf (nmK i) = i := by simp [idxOf, nmK, nm]
section
variable {C : Cx} (h : C.K = Mine.hk.heap_1 C.P)
include h
theorem law_told_spec {μ : Mem} {dom : List Nat} {ks : Nat → List Key} {f : Nat → Nat → Bool} {k : PostW} (hd : dom.Nodup) (hl : dom.length ≤ 100) (hs : ∀ i ∈ dom, SetIs nmK (ks i) (f i))
    (hk : k (.v (toldV dom f)) μ) : cCall C 5 μ (.ref 364) [.v (gV nmK dom ks)] [] k := by
  apply cCall_enter [("closure", .v (gV nmK dom ks))]
  walk_at "enter"
  case hbind =>
    intro F s vs kvs X hv hkv
    refine WsAt.i1 hv fun u h1 => ?_
    refine KwAt.i_nil hkv ?_
    refine ⟨_, BindsTo.of_eq rfl, ?_⟩; exact .cons h1 .nil
  walk_at "ss"
  refine cE_dictV rfl (by kernel_rfl) rfl (by intros; rfl) ?_
  walk_at "ss"
  refine ⟨_, it_dict, fun items e => ⟨dom.map nmK, fun key => .list (((pick (f (idxOf key))).map nm).map .str), 0, ?_, ?_, ?_, by decide, ?_, fun key hkey => ?_, ?_⟩⟩
  · rw [e, List.map_map, List.map_map]; rfl
  · exact map_nodup (fun _ _ _ _ q => nmK_inj q) hd
  · intro x hx
    (refine el12 (List.mem_map.mp hx) fun i _ qq2 => ?_; subst qq2)
    rfl
  · rw [List.length_map]; lia
  · (refine el12 (List.mem_map.mp hkey) fun i hi qq2 => ?_; subst qq2)
    refine ⟨_, tgt_name (by walk_at "kind"), fun acc D => ?_⟩
    walk_at "ss"
    refine ⟨rfl, ?_⟩
    walk_at "ss"
    refine g_item naming_nm hi ?_
    walk_at "ss"
    refine c_sortedS ((hs i hi).kind fun _ => rfl) (by have := (hs i hi).len naming_nm; lia) fun L hp hL => ?_
    rw [(hs i hi).sorted hp hL]
    exact ⟨by show _ = W.v (V.list (List.map V.str (List.map nm (pick (f (idxOf (nmK i))))))); rw [idxOf_nm], rfl⟩
  · walk_at "ss"
    rw [List.map_map]
    unfold toldV at hk
    have e : ((fun key => (key, V.list (((pick (f (idxOf key))).map nm).map .str))) ∘ nmK) = fun i => (nmK i, V.list (((pick (f i)).map nm).map .str)) := by
      funext i
      simp only [Function.comp, idxOf_nm]
    rw [e]
    exact hk
end
structure Seek (dom : List Nat) (f : Nat → Nat → Bool) (i : Nat) (fS ag : List Nat) (n : Nat) : Prop where
  nd : fS.Nodup
  rch : ∀ j ∈ fS, j < 4 ∧ Reach dom f i j
  here : i ∈ fS
  sub : ∀ j ∈ ag, j ∈ fS
  done : ∀ j ∈ fS, j ∉ ag → j ∈ dom → ∀ m, m < 4 → f j m = true → m ∈ fS
  meas : ag.length + 2 * (4 - fS.length) ≤ n
  top : n ≤ 100
structure Mid (dom : List Nat) (f : Nat → Nat → Bool) (i j : Nat) (fS : List Nat) (part fS2 ag2 : List Nat) (n : Nat) : Prop where
  nd : fS2.Nodup
  rch : ∀ j ∈ fS2, j < 4 ∧ Reach dom f i j
  here : i ∈ fS2
  sub : ∀ j ∈ ag2, j ∈ fS2
  old : ∀ x ∈ fS, x ∈ fS2
  new : ∀ x ∈ part, x ∈ fS2
  done : ∀ x ∈ fS2, x ∉ ag2 → x = j ∨ (x ∈ dom → ∀ m, m < 4 → f x m = true → m ∈ fS2)
  meas : ag2.length + 2 * (4 - fS2.length) + 1 ≤ n
  top : n ≤ 100
theorem fs_len {fS : List Nat} (hn : fS.Nodup) (h : ∀ j ∈ fS, j < 4) : fS.length ≤ 4 := by
  have := List.Nodup.length_le_of_subset hn (l₂ := List.range 4) fun x hx => by simpa using h x hx
  simpa using this
theorem lm_of {K : Nat → Key} {dom L : List Nat} {f : Nat → Nat → Bool} {j : Nat} {S : List Key} (N : Naming K) (hL : (L.map K).Perm S) (hL4 : ∀ j ∈ L, j < 4) (hSm : ∀ x, x ∈ S ↔ j ∈ dom ∧ ∃ m, m < 4 ∧ f j m = true ∧ x = K m) :
    ∀ m, m ∈ L ↔ j ∈ dom ∧ m < 4 ∧ f j m = true := fun m => by
  constructor
  · intro q
    obtain ⟨a, m', b, c, e⟩ := (hSm (K m)).mp (hL.subset (List.mem_map_of_mem q))
    have := N.inj m m' (hL4 m q) b e
    subst this
    exact ⟨a, b, c⟩
  · intro ⟨a, b, c⟩
    have := hL.symm.subset ((hSm (K m)).mpr ⟨a, m, b, c, rfl⟩)
    refine el12 (List.mem_map.mp this) fun m' q e => ?_
    exact N.inj m' m (hL4 m' q) b e ▸ q
section
variable {dom : List Nat} {f : Nat → Nat → Bool} {i j m n : Nat} {fS ag part fS2 ag2 L : List Nat}
theorem Seek.mid (h : Seek dom f i fS (ag ++ [j]) n) : Mid dom f i j fS [] fS ag n where
  nd := h.nd
  rch := h.rch
  here := h.here
  sub := fun x hx => h.sub x (by simp [hx])
  old := fun _ q => q
  new := fun _ q => by cases q
  done := fun x hx hn => by
    by_cases e : x = j
    · exact .inl e
    · exact .inr (h.done x hx (by simp [hn, e]))
  meas := by
    have := h.meas
    simp at this
    lia
  top := h.top
theorem Mid.add (h : Mid dom f i j fS part fS2 ag2 n) (hm : m ∉ fS2) (h4 : m < 4) (hr : Reach dom f i m) : Mid dom f i j fS (part ++ [m]) (m :: fS2) (ag2 ++ [m]) n where
  nd := List.nodup_cons.mpr ⟨hm, h.nd⟩
  rch := fun x hx => by
    rcases List.mem_cons.mp hx with rfl | hx
    · exact ⟨h4, hr⟩
    · exact h.rch x hx
  here := .tail _ h.here
  sub := fun x hx => by
    rcases List.mem_append.mp hx with q | q
    · exact .tail _ (h.sub x q)
    · rw [List.mem_singleton.mp q]; exact .head _
  old := fun x q => .tail _ (h.old x q)
  new := fun x hx => by
    rcases List.mem_append.mp hx with q | q
    · exact .tail _ (h.new x q)
    · rw [List.mem_singleton.mp q]; exact .head _
  done := fun x hx hn => by
    rcases List.mem_cons.mp hx with rfl | hx
    · exact absurd (List.mem_append.mpr (.inr (.head _))) hn
    · rcases h.done x hx (fun q => hn (List.mem_append.mpr (.inl q))) with e | e
      · exact .inl e
      · exact .inr fun a b c d => .tail _ (e a b c d)
  meas := by
    have h1 := h.meas
    have h2 := fs_len (List.nodup_cons.mpr ⟨hm, h.nd⟩) (fun x hx => by
      rcases List.mem_cons.mp hx with rfl | hx
      · exact h4
      · exact (h.rch x hx).1)
    simp only [List.length_cons, List.length_append, List.length_nil] at *
    lia
  top := h.top
theorem Mid.skip (h : Mid dom f i j fS part fS2 ag2 n) (hm : m ∈ fS2) : Mid dom f i j fS (part ++ [m]) fS2 ag2 n where
  nd := h.nd
  rch := h.rch
  here := h.here
  sub := h.sub
  old := h.old
  new := fun x hx => by
    rcases List.mem_append.mp hx with q | q
    · exact h.new x q
    · rw [List.mem_singleton.mp q]; exact hm
  done := h.done
  meas := h.meas
  top := h.top
theorem Mid.fin (h : Mid dom f i j fS L fS2 ag2 n) (hL : ∀ m, m ∈ L ↔ j ∈ dom ∧ m < 4 ∧ f j m = true) : Seek dom f i fS2 ag2 (n - 1) where
  nd := h.nd
  rch := h.rch
  here := h.here
  sub := h.sub
  done := fun x hx hn hd m h4 hf => by
    rcases h.done x hx hn with e | e
    · subst e; exact h.new m ((hL m).mpr ⟨hd, h4, hf⟩)
    · exact e hd m h4 hf
  meas := by have := h.meas; lia
  top := by have := h.top; lia
theorem Seek.all (h : Seek dom f i fS [] n) (x : Nat) : x ∈ fS ↔ Reach dom f i x := by
  constructor
  · exact fun q => (h.rch x q).2
  · intro q
    induction q with
    | refl => exact h.here
    | step a b c d ih => exact h.done _ ih (by simp) b _ c d
theorem Seek.set {K : Nat → Key} {r : Nat → Bool} {ks1 : List Key} (N : Naming K) (h : Seek dom f i fS [] n) (hp : ks1.Perm (fS.map K)) (hr : ∀ j, j < 4 → (r j = true ↔ Reach dom f i j)) : SetIs K ks1 r := by
  refine ⟨hp.nodup_iff.mpr (map_nodup (fun x hx y hy q => N.inj x y (h.rch x hx).1 (h.rch y hy).1 q) h.nd), fun key => ?_⟩
  rw [hp.mem_iff, List.mem_map]
  constructor
  · rintro ⟨x, hx, rfl⟩
    exact ⟨x, (h.rch x hx).1, (hr x (h.rch x hx).1).mpr (h.rch x hx).2, rfl⟩
  · rintro ⟨x, h4, hx, rfl⟩
    exact ⟨x, (h.all x).mpr ((hr x h4).mp hx), rfl⟩
end
section
variable {C : Cx} (h : C.K = Mine.hk.heap_1 C.P) (hg : C.gen = false)
include h hg
theorem closure_spec {K : Nat → Key} {μ : Mem} {dom : List Nat} {ks : Nat → List Key} {f r : Nat → Nat → Bool} {k : PostW} (N : Naming K) (hso : SortOk C K) (hd : dom.Nodup) (hd4 : ∀ i ∈ dom, i < 4) (hs : ∀ i ∈ dom, SetIs K (ks i) (f i))
    (hr : ∀ i ∈ dom, ∀ j, j < 4 → (r i j = true ↔ Reach dom f i j))
    (hk : ∀ ks', (∀ i ∈ dom, SetIs K (ks' i) (r i)) → k (.v (gV K dom ks')) μ) : cCall C 5 μ (.ref 347) [.v (gV K dom ks)] [] k := by
  refine cCall.fzR ?_
  apply cCall_enter [("graph", .v (gV K dom ks))]
  walk_at "enter"
  case hbind =>
    intro F s vs kvs X hv hkv
    refine WsAt.i1 hv fun u h1 => ?_
    refine KwAt.i_nil hkv ?_
    refine ⟨_, BindsTo.of_eq rfl, ?_⟩; exact .cons h1 .nil
  walk_at "ss"
  refine cE_dict0 fun c => ?_
  walk_at "ss"
  refine ⟨_, it_dict, fun items e => ?_⟩
  have e' : items = dom.map fun i => (K i).val := by rw [e, List.map_map]; rfl
  subst e'
  refine fr110 at_map (fun t ε' μ' => ε' = ([("closure", W.l c), ("graph", W.v (gV K dom ks))] : List (Str × W)) ∧ ∃ ks', (∀ i ∈ dom.take t, SetIs K (ks' i) (r i)) ∧ μ' = (c, .dict ((dom.take t).map fun i => (K i, .v (.set (ks' i))))) :: μ) (fun _ _ _ => rfl) (⟨rfl, ks, by simp, by simp⟩) (fun J hJ t i ks' hi hks' => ?_) (fun ks' hks' => ?_)
  · walk_at "ss"
    refine ⟨K i, rfl, (gV_kind (dom := dom) (ks := ks) N i).2, fun a => ?_⟩
    walk_at "ss"
    refine cE_listM ?_
    walk_at "ss"
    refine ⟨by simp, fun b => ?_⟩
    walk_at "ss"
    have hi4 : i < 4 := hd4 i (List.mem_of_getElem? hi)
    refine cS1_whileJ (fun n ε' μ' => ε' = ([("agenda", W.l b), ("found", W.l a), ("i", W.v (K i).val), ("closure", W.l c), ("graph", W.v (gV K dom ks))] : List (Str × W)) ∧
      ∃ fS ag ks1, Seek dom f i fS ag n ∧ ks1.Perm (fS.map K) ∧ μ' = (b, .list (ag.map fun j => .v (K j).val)) :: (a, .set ks1) :: (c, .dict ((dom.take t).map fun i => (K i, .v (.set (ks' i))))) :: μ) 7
      ⟨rfl, [i], [i], [K i], ⟨by simp, ?_, by simp, by simp, ?_, by simp, by decide⟩, .refl _, rfl⟩ fun Jw hJw n ε' μ' hI => ?_
    · intro j hj
      rw [List.mem_singleton.mp hj]
      exact ⟨hi4, .refl⟩
    · intro j hj hn
      exact absurd hj hn
    obtain ⟨rfl, fS, ag, ks1, hS, hp, rfl⟩ := hI
    refine cT_valK ?_ (by intros; rfl)
    walk_at "ss"
    refine t_listM (.head _) (by rw [List.length_map]; have := hS.meas; have := hS.top; lia) ⟨fun hb => ?_, fun hb => ?_⟩
    · have hne : ag ≠ [] := fun q => by subst q; cases hb
      obtain ⟨ag', j, rfl⟩ : ∃ ag' j, ag = ag' ++ [j] := ⟨ag.dropLast, ag.getLast hne, (List.dropLast_concat_getLast hne).symm⟩
      have hj := hS.rch j (hS.sub j (by simp))
      rw [List.map_append, List.map_cons, List.map_nil]
      walk_at "ss"
      refine m_list (.head _) PySem.F.slot_list_pop rfl ?_
      walk_at "ss"
      refine v_pop .here (by rw [List.length_map]; have h1 := hS.meas; have := hS.top; rw [List.length_append] at h1; lia) ?_
      walk_at "ss"
      refine m_dict gV_has PySem.F.slot_dict_get rfl ?_
      walk_at "ss"
      refine c_set0 fun a2 => ?_
      walk_at "ss"
      refine g_getF N hd4 hs hj.1 fun S hSn hSm => ?_
      walk_at "ss"
      refine hso _ _ S _ hSn (fun x hx => by obtain ⟨_, m, a, _, b⟩ := (hSm x).mp hx; exact ⟨m, a, b⟩) fun L hL hL4 => ?_
      walk_at "ss"
      refine for_is it_list ?_
      have hLm : ∀ m, m ∈ L ↔ j ∈ dom ∧ m < 4 ∧ f j m = true := lm_of N hL hL4 hSm
      have mid0 : Mid dom f i j fS [] fS ag' n := hS.mid
      refine fr320 at_map (fun t2 ε' μ' => ε' = ([("j", W.v (K j).val), ("agenda", W.l b), ("found", W.l a), ("i", W.v (K i).val), ("closure", W.l c), ("graph", W.v (gV K dom ks))] : List (Str × W)) ∧
        ∃ fS2 ag2 ks2, Mid dom f i j fS (L.take t2) fS2 ag2 n ∧ ks2.Perm (fS2.map K) ∧ μ' = (b, .list (ag2.map fun j => .v (K j).val)) :: (a, .set ks2) :: (c, .dict ((dom.take t).map fun i => (K i, .v (.set (ks' i))))) :: μ) (fun _ _ _ => rfl) (⟨rfl, fS, ag', ks1, mid0, hp, rfl⟩) (fun J hJ t2 m fS2 ag2 ks2 hm hM hp2 => ?_) (fun fS2 ag2 ks2 hM hp2 => ?_)
      · have hmL := (hLm m).mp (List.mem_of_getElem? hm)
        have hk2 : ∀ k' ∈ ks2, k'.kind = (K m).kind := by
          intro k' q
          (refine el12 (List.mem_map.mp (hp2.subset q)) fun x _ qq2 => ?_; subst qq2)
          refine el12 (N.kind) fun κ _ hκ => ?_
          rw [hκ, hκ]
        have hmem : K m ∈ ks2 ↔ m ∈ fS2 := by
          rw [hp2.mem_iff, List.mem_map]
          exact ⟨fun ⟨x, q, e⟩ => N.inj x m (hM.rch x q).1 hmL.2.1 e ▸ q, fun q => ⟨m, q, rfl⟩⟩
        have hlen : ks2.length ≤ 4 := by rw [hp2.length_eq, List.length_map]; exact fs_len hM.nd fun x q => (hM.rch x q).1
        have hreach : Reach dom f i m := .step hj.2 hmL.1 hmL.2.1 hmL.2.2
        have htk : L.take (t2 + 1) = L.take t2 ++ [m] := by rw [List.take_add_one, hm]; rfl
        have hag : ag2.length ≤ 1000 := by have := hM.meas; have := hM.top; lia
        walk_at "ss"
        refine v_notInS (ks := ks2) (.tail _ (.head _)) hk2 (gV_kind (dom := dom) (ks := ks) N m).2 ?_
        walk_at "ss"
        refine ⟨fun hb => ?_, fun hb => ?_⟩
        · have hnot : K m ∉ ks2 := by simpa using hb
          walk_at "ss"
          refine m_set (ks := ks2) (.tail _ (.head _)) PySem.F.slot_set_add rfl ?_
          walk_at "ss"
          refine c_setaddU (ks := ks2) (key := K m) (.tail _ (.head _)) hk2 (gV_kind (dom := dom) (ks := ks) N m).2 (by lia) (fun q => absurd q hnot) fun _ ks3 hp3 => ⟨_, .there .here, ?_⟩
          walk_at "ss"
          refine m_list (.head _) PySem.F.slot_list_append rfl ?_
          walk_at "ss"
          refine v_append .here (by rw [List.length_map]; lia) ?_
          walk_at "ss"
          refine forK_next hJ (ε' := [("j", W.v (K j).val), ("agenda", W.l b), ("found", W.l a), ("i", W.v (K i).val), ("closure", W.l c), ("graph", W.v (gV K dom ks))]) ⟨rfl, rfl, rfl, rfl, rfl, rfl, trivial⟩ (List.Sublist.refl _) ⟨rfl, m :: fS2, ag2 ++ [m], ks3, ?_, ?_, ?_⟩
          · rw [htk]
            exact hM.add (fun q => hnot (hmem.mpr q)) hmL.2.1 hreach
          · exact hp3.trans (hp2.cons _)
          · rw [List.map_append]; rfl
        · walk_at "ss"
          refine forK_next hJ (ε' := [("j", W.v (K j).val), ("agenda", W.l b), ("found", W.l a), ("i", W.v (K i).val), ("closure", W.l c), ("graph", W.v (gV K dom ks))]) ⟨rfl, rfl, rfl, rfl, rfl, rfl, trivial⟩ (List.Sublist.refl _) ⟨rfl, fS2, ag2, ks2, ?_, hp2, rfl⟩
          rw [htk]
          exact hM.skip (hmem.mp (by simpa using hb))
      · walk_at "ss"
        refine whK_next hJw (m := n - 1) (ε' := [("agenda", W.l b), ("found", W.l a), ("i", W.v (K i).val), ("closure", W.l c), ("graph", W.v (gV K dom ks))]) (by have := hM.meas; lia) ⟨rfl, rfl, rfl, rfl, rfl, trivial⟩ (List.Sublist.refl _) ⟨rfl, fS2, ag2, ks2, ?_, hp2, rfl⟩
        rw [List.length_map, List.take_length] at hM
        exact hM.fin hLm
    · have ha : ag = [] := by
        cases ag with
        | nil => rfl
        | cons x r => cases hb
      subst ha
      have hset := hS.set N hp (hr i (List.mem_of_getElem? hi))
      have hlt : t < dom.length := (List.getElem?_eq_some_iff.mp hi).1
      have htk : dom.take (t + 1) = dom.take t ++ [i] := by rw [List.take_add_one, hi]; rfl
      have hout : i ∉ dom.take t := by
        intro h2
        have h3 := hd
        rw [← List.take_append_drop t dom] at h3
        have h4 : i ∈ dom.drop t := by
          rw [List.drop_eq_getElem_cons hlt, (List.getElem?_eq_some_iff.mp hi).2]; exact .head _
        exact (List.nodup_append.mp h3).2.2 i h2 i h4 rfl
      have hkey : K i ∉ ((dom.take t).map fun i => (K i, W.v (V.set (ks' i)))).map (·.1) := by
        rw [List.map_map]
        intro q
        refine el12 (List.mem_map.mp q) fun x hx e => ?_
        exact hout (N.inj x i (hd4 x (List.mem_of_mem_take hx)) hi4 e ▸ hx)
      refine seqK_next ?_
      refine cS.fz (fz_obj (o := .set ks1) (a := a) (d := .set ks1) (.tail _ (.head _)) .set (.there .here) (FrzT.refl _)) (.cons (.same _) (.cons .put (.cons (.same _) (.cons (.same _) (.cons (.same _) .nil))))) ?_
      walk_at "ss"
      refine si_dict (.there .here) ?_ (gV_kind (dom := dom) (ks := ks) N i).2 ?_ ?_
      · exact (gV_kind (dom := dom.take t) (ks := ks') N i).1
      · rw [List.length_map]
        have := List.length_take_le t dom
        have := fs_len hd hd4
        lia
      walk_at "ss"
      refine forK_next hJ (ε' := [("closure", W.l c), ("graph", W.v (gV K dom ks))]) ⟨rfl, rfl, trivial⟩ (List.sublist_cons_self ..) ⟨rfl, fun x => if x = i then ks1 else ks' x, fun x hx => ?_, ?_⟩
      · rw [htk] at hx
        by_cases e : x = i
        · subst e; simp only [if_true]; exact hset
        · simp only [e, if_false]
          rcases List.mem_append.mp hx with q | q
          · exact hks' x q
          · exact absurd (List.mem_singleton.mp q) e
      · rw [kput_new hkey, htk, List.map_append]
        have e1 : ((dom.take t).map fun x => (K x, W.v (V.set (if x = i then ks1 else ks' x)))) = (dom.take t).map fun x => (K x, W.v (V.set (ks' x))) := by
          refine List.map_congr_left fun x hx => ?_
          have : x ≠ i := fun q => hout (q ▸ hx)
          simp [this]
        rw [e1]
        simp
  · rw [List.length_map, List.take_length] at *
    walk_at "ss"
    refine ⟨_, .v (gV K dom ks'), μ, fz_obj (.head _) (.dict ?_) .here (FrzT.refl _), .put, hk ks' hks'⟩
    have := frozenD_map (dom.map fun i => (K i, V.set (ks' i)))
    rw [List.map_map] at this
    exact this
end
noncomputable def nonT (x : Str) : V := .inst 66 [("_symbol", .str x)]
noncomputable def tT : Str := "T"
inductive It where
  | N (x : Str)
  | T (x : Str)
  deriving DecidableEq
noncomputable def It.v : It → V
  | .N x => nonT x
  | .T x => .str x
noncomputable def It.isN : It → Bool
  | .N _ => true
  | .T _ => false
noncomputable def It.key : It → Key
  | .N x => .t [tN, x]
  | .T x => .t [tT, x]
noncomputable def prodV (l : Str) (r : List It) : V := .inst 155 [("_lhs", nonT l), ("_rhs", .tup (r.map It.v))]
section
variable {C : Cx} (h : C.K = Mine.hk.heap_1 C.P)
include h
theorem cls_N : ClsOk C 66 := ⟨by rw [h]; kernel_rfl, by rw [h]; kernel_rfl, by rw [h]; kernel_rfl, by rw [h]; kernel_rfl, by rw [h]; kernel_rfl, by rw [h]; kernel_rfl⟩
theorem cls_P : ClsOk C 155 := ⟨by rw [h]; kernel_rfl, by rw [h]; kernel_rfl, by rw [h]; kernel_rfl, by rw [h]; kernel_rfl, by rw [h]; kernel_rfl, by rw [h]; kernel_rfl⟩
theorem fd_N {x : Str} {r : Option (Option Value)} (hh : PySem.W.findIn (Mine.hk.heap_1 C.P) (.ref 66) x = r) : PySem.W.findIn C.K (.ref 66) x = r := by rw [h]; exact hh
theorem fd_P {x : Str} {r : Option (Option Value)} (hh : PySem.W.findIn (Mine.hk.heap_1 C.P) (.ref 155) x = r) : PySem.W.findIn C.K (.ref 155) x = r := by rw [h]; exact hh
theorem ty_f {f : Addr} {r : Option Value} (hh : PySem.W.typeIn (Mine.hk.heap_1 C.P) (.ref f) = r) : PySem.W.typeIn C.K (.ref f) = r := by rw [h]; exact hh
theorem tk_f {c : Addr} {x : Str} {r : Option (Option Value)} (hh : PySem.W.takerIn (Mine.hk.heap_1 C.P) c x = r) : PySem.W.takerIn C.K c x = r := by rw [h]; exact hh
theorem mt_f {c f : Addr} {x : Str} (h1 : PySem.W.findIn (Mine.hk.heap_1 C.P) (.ref c) x = some (some (.ref f))) (h2 : PySem.W.typeIn (Mine.hk.heap_1 C.P) (.ref f) = some (.type "function")) (h3 : PySem.W.keepIn (Mine.hk.heap_1 C.P) (.ref f) = true) : MethOk C c x f := ⟨by rw [h]; exact h1, by rw [h]; exact h2, by rw [h]; exact h3⟩
theorem init_N {μ : Mem} {a dd : Addr} {x : W} : cCode C 3 ((a, .inst 66 dd) :: (dd, .ns []) :: μ) (.ref 35) [.l a, x] [] fun w μ' => w = .v .none ∧ μ' = (a, .inst 66 dd) :: (dd, .ns [("_symbol", x)]) :: μ := by
  apply cCode_enter [("self", .l a), ("symbol", x)]
  walk_at "enter"
  case hbind =>
    intro F s vs kvs X hv hkv
    refine WsAt.i2 hv fun u v h1 h2 => ?_
    refine KwAt.i_nil hkv ?_
    refine ⟨_, BindsTo.of_eq rfl, ?_⟩; exact .cons h1 (.cons h2 .nil)
  walk_at "ss"
  refine sa_inst (cls_N h) (tk_f h (by kernel_rfl)) (by decide) (.head _) (.there .here) (by simp) ?_
  walk_at "ss"
  exact ⟨rfl, rfl⟩
theorem mk_N {μ : Mem} {x : Str} {k : PostW} (hk : k (.v (nonT x)) μ) : cCall C 4 μ (.ref 66) [.v (.str x)] [] k := by
  refine cCall.fzR (c_make (d := 3) (cls_N h) (fd_N h (by kernel_rfl)) (ty_f h (by kernel_rfl)) fun a dd => cCode.mono (init_N h) fun w m hh => ?_)
  obtain ⟨hw, hm⟩ := hh
  subst hm
  refine ⟨hw, _, .v (nonT x), μ, fz_inst (.head _) (.tail _ (.head _)) (gs := [("_symbol", .str x)]) (fun p hp => ?_) (.there .here) .here (FrzT.refl _), .put, hk⟩
  cases List.mem_singleton.mp hp
  rfl
theorem isN_N {d : Nat} {μ : Mem} {x : Str} {k : PostW} (hk : k (.v (.bool true)) μ) : cCall C d μ (.builtin "isinstance") [.v (nonT x), .v (.glob (.ref 66))] [] k := isi_inst (by rw [h]; kernel_rfl) hk
theorem isN_T {d : Nat} {μ : Mem} {x : Str} {k : PostW} (hk : k (.v (.bool false)) μ) : cCall C d μ (.builtin "isinstance") [.v (.str x), .v (.glob (.ref 66))] [] k := isi_str (by rw [h]; kernel_rfl) hk
theorem isN_it {d : Nat} {μ : Mem} {i : It} {k : PostW} (hk : k (.v (.bool i.isN)) μ) : cCall C d μ (.builtin "isinstance") [.v i.v, .v (.glob (.ref 66))] [] k := by
  cases i with
  | N x => exact isN_N h hk
  | T x => exact isN_T h hk
theorem isnt_spec {μ : Mem} {i : It} {k : PostW} (hk : k (.v (.bool i.isN)) μ) : cCall C 2 μ (.ref 77) [.v i.v] [] k := by
  apply cCall_enter [("item", .v i.v)]
  walk_at "enter"
  case hbind =>
    intro F s vs kvs X hv hkv
    refine WsAt.i1 hv fun u h1 => ?_
    refine KwAt.i_nil hkv ?_
    refine ⟨_, BindsTo.of_eq rfl, ?_⟩; exact .cons h1 .nil
  walk_at "ss"
  refine isN_it h ?_
  walk_at "ss"
  exact hk
theorem iste_spec {μ : Mem} {i : It} {k : PostW} (hk : k (.v (.bool !i.isN)) μ) : cCall C 2 μ (.ref 84) [.v i.v] [] k := by
  apply cCall_enter [("item", .v i.v)]
  walk_at "enter"
  case hbind =>
    intro F s vs kvs X hv hkv
    refine WsAt.i1 hv fun u h1 => ?_
    refine KwAt.i_nil hkv ?_
    refine ⟨_, BindsTo.of_eq rfl, ?_⟩; exact .cons h1 .nil
  walk_at "ss"
  refine cE_not ?_
  walk_at "ss"
  refine isN_it h ?_
  refine truthy_bool' ?_
  walk_at "ss"
  exact hk
theorem key_spec {μ : Mem} {i : It} {k : PostW} (hk : k (.v i.key.val) μ) : cCall C 2 μ (.ref 91) [.v i.v] [] k := by
  apply cCall_enter [("item", .v i.v)]
  walk_at "enter"
  case hbind =>
    intro F s vs kvs X hv hkv
    refine WsAt.i1 hv fun u h1 => ?_
    refine KwAt.i_nil hkv ?_
    refine ⟨_, BindsTo.of_eq rfl, ?_⟩; exact .cons h1 .nil
  walk_at "ss"
  refine cT_valK ?_ (by intros; rfl)
  walk_at "ss"
  refine isN_it h ?_
  refine truthy_bool' ⟨fun e => ?_, fun e => ?_⟩
  · cases i with
    | T x => cases e
    | N x =>
      walk_at "ss"
      refine cE_tuple ?_
      walk_at "ss"
      refine a_inst (cls_N h) (fd_N h (by kernel_rfl)) rfl ?_
      walk_at "ss"
      refine ⟨_, rfl, by simp, ?_⟩
      walk_at "ss"
      exact hk
  · cases i with
    | N x => cases e
    | T x =>
      walk_at "ss"
      refine cE_tuple ?_
      walk_at "ss"
      refine ⟨_, rfl, by simp, ?_⟩
      walk_at "ss"
      exact hk
theorem init_P {μ : Mem} {a dd : Addr} {l : W} {r : List V} (hz : r.length ≤ 1000) : cCode C 4 ((a, .inst 155 dd) :: (dd, .ns []) :: μ) (.ref 105) [.l a, l, .v (.list r)] [] fun w μ' => w = .v .none ∧ μ' = (a, .inst 155 dd) :: (dd, .ns [("_rhs", .v (.tup r)), ("_lhs", l)]) :: μ := by
  apply cCode_enter [("self", .l a), ("lhs", l), ("rhs", .v (.list r))]
  walk_at "enter"
  case hbind =>
    intro F s vs kvs X hv hkv
    refine WsAt.i3 hv fun u v w h1 h2 h3 => ?_
    refine KwAt.i_nil hkv ?_
    refine ⟨_, BindsTo.of_eq rfl, ?_⟩; exact .cons h1 (.cons h2 (.cons h3 .nil))
  walk_at "ss"
  refine cT_valK ?_ (by intros; rfl)
  walk_at "ss"
  refine isi_liststr ?_
  refine truthy_bool' (both_f ?_)
  walk_at "ss"
  refine sa_inst (cls_P h) (tk_f h (by kernel_rfl)) (by decide) (.head _) (.there .here) (by simp) ?_
  walk_at "ss"
  refine tup_list (by lia) ?_
  walk_at "ss"
  refine sa_inst (cls_P h) (tk_f h (by kernel_rfl)) (by decide) (.head _) (.there .here) (by simp) ?_
  walk_at "ss"
  exact ⟨rfl, rfl⟩
theorem mk_P {μ : Mem} {l : Str} {r : List It} {k : PostW} (hz : r.length ≤ 1000) (hk : k (.v (prodV l r)) μ) : cCall C 5 μ (.ref 155) [.v (nonT l), .v (.list (r.map It.v))] [] k := by
  refine cCall.fzR (c_make (d := 4) (cls_P h) (fd_P h (by kernel_rfl)) (ty_f h (by kernel_rfl)) fun a dd => cCode.mono (init_P h (by simpa using hz)) fun w m hh => ?_)
  obtain ⟨hw, hm⟩ := hh
  subst hm
  refine ⟨hw, _, .v (prodV l r), μ, fz_inst (.head _) (.tail _ (.head _)) (gs := [("_lhs", nonT l), ("_rhs", .tup (r.map It.v))]) (fun p hp => ?_) (.there .here) .here (FrzT.refl _), .put, hk⟩
  rcases List.mem_cons.mp hp with rfl | hp
  · rfl
  · cases List.mem_singleton.mp hp
    rfl
end
section
variable {C : Cx} (h : C.K = Mine.hk.heap_1 C.P)
include h
theorem lhs_spec {μ : Mem} {l : Str} {r : List It} {k : PostW} (hk : k (.v (nonT l)) μ) : cCall C 2 μ (.ref 112) [.v (prodV l r)] [] k := by
  apply cCall_enter [("self", .v (prodV l r))]
  walk_at "enter"
  case hbind =>
    intro F s vs kvs X hv hkv
    refine WsAt.i1 hv fun u h1 => ?_
    refine KwAt.i_nil hkv ?_
    refine ⟨_, BindsTo.of_eq rfl, ?_⟩; exact .cons h1 .nil
  walk_at "ss"
  refine a_inst (cls_P h) (fd_P h (by kernel_rfl)) rfl ?_
  walk_at "ss"
  exact hk
theorem rhs_spec {μ : Mem} {l : Str} {r : List It} {k : PostW} (hk : k (.v (.tup (r.map It.v))) μ) : cCall C 2 μ (.ref 119) [.v (prodV l r)] [] k := by
  apply cCall_enter [("self", .v (prodV l r))]
  walk_at "enter"
  case hbind =>
    intro F s vs kvs X hv hkv
    refine WsAt.i1 hv fun u h1 => ?_
    refine KwAt.i_nil hkv ?_
    refine ⟨_, BindsTo.of_eq rfl, ?_⟩; exact .cons h1 .nil
  walk_at "ss"
  refine a_inst (cls_P h) (fd_P h (by kernel_rfl)) rfl ?_
  walk_at "ss"
  exact hk
theorem plen_spec {μ : Mem} {l : Str} {r : List It} {k : PostW} (hz : r.length ≤ 1000) (hk : k (.v (.int r.length)) μ) : cCall C 2 μ (.ref 126) [.v (prodV l r)] [] k := by
  apply cCall_enter [("self", .v (prodV l r))]
  walk_at "enter"
  case hbind =>
    intro F s vs kvs X hv hkv
    refine WsAt.i1 hv fun u h1 => ?_
    refine KwAt.i_nil hkv ?_
    refine ⟨_, BindsTo.of_eq rfl, ?_⟩; exact .cons h1 .nil
  walk_at "ss"
  refine a_inst (cls_P h) (fd_P h (by kernel_rfl)) rfl ?_
  walk_at "ss"
  refine len_tup (by rw [List.length_map]; lia) ?_
  walk_at "ss"
  rw [List.length_map]
  exact hk
theorem len_P {μ : Mem} {l : Str} {r : List It} {k : PostW} (hz : r.length ≤ 1000) (hk : k (.v (.int r.length)) μ) : cCall C 3 μ (.builtin "len") [.v (prodV l r)] [] k :=
  len_inst (d := 2) (fd_P h (by kernel_rfl)) (ty_f h (by kernel_rfl)) (plen_spec h hz ⟨_, rfl, by lia, by lia, hk⟩)
theorem m_P {d : Nat} {μ : Mem} {l : Str} {r : List It} {name : Str} {f : Addr} {kk : Value → List W → Mem → Prop} (h1 : PySem.W.findIn (Mine.hk.heap_1 C.P) (.ref 155) name = some (some (.ref f))) (h2 : PySem.W.typeIn (Mine.hk.heap_1 C.P) (.ref f) = some (.type "function")) (h3 : PySem.W.keepIn (Mine.hk.heap_1 C.P) (.ref f) = true)
    (hn : name ∉ FN) (hk : kk (.ref f) [.v (prodV l r)] μ) : cMeth C d μ (.v (prodV l r)) name kk := m_inst (cls_P h) (mt_f h h1 h2 h3) hn hk
theorem isnl_spec (hg : C.gen = false) {μ : Mem} {l : Str} {r : List It} {k : PostW} (hz : r.length ≤ 1000) (hT : ∀ P ∈ C.tabs, (P, O.tab) ∈ μ) (hk : k (.v (.bool (r.all It.isN))) μ) : cCall C 7 μ (.ref 133) [.v (prodV l r)] [] k := by
  apply cCall_enter [("self", .v (prodV l r))]
  walk_at "enter"
  case hbind =>
    intro F s vs kvs X hv hkv
    refine WsAt.i1 hv fun u h1 => ?_
    refine KwAt.i_nil hkv ?_
    refine ⟨_, BindsTo.of_eq rfl, ?_⟩; exact .cons h1 .nil
  walk_at "ss"
  refine cGen_all (d := 3) hg (by intros; rfl) (by intros; rfl) rfl rfl rfl rfl (by intros; rfl) ?_
  walk_at "ss"
  refine ⟨rfl, ?_⟩
  walk_at "ss"
  refine a_inst (cls_P h) (fd_P h (by kernel_rfl)) rfl ?_
  refine ⟨_, it_tup, hT, fun items e => ?_⟩
  subst e
  refine ⟨fun _ => true, fun x => match x with | .inst _ _ => true | _ => false, fun g x hx => ?_, ?_⟩
  · (refine el12 (List.mem_map.mp hx) fun i hi qq2 => ?_; subst qq2)
    refine ⟨_, tgt_name (by walk_at "kind"), ifs_nil ⟨rfl, rfl, fun _ => ?_⟩⟩
    walk_at "ss"
    refine (isnt_spec (C := C.inGen g) h ?_).deep (by decide)
    refine ⟨?_, rfl⟩
    cases i <;> rfl
  · walk_at "ss"
    have e : ((((r.map It.v).filter fun _ => true).map fun x => match x with | V.inst _ _ => true | _ => false).all id) = r.all It.isN := by
      rw [List.filter_eq_self.mpr (fun _ _ => rfl), List.map_map, List.all_map]
      refine List.all_congr rfl fun i => ?_
      cases i <;> rfl
    rw [e]
    exact hk
theorem islx_spec (hg : C.gen = false) {μ : Mem} {l : Str} {r : List It} {k : PostW} (hz : r.length ≤ 1000) (hT : ∀ P ∈ C.tabs, (P, O.tab) ∈ μ) (hk : k (.v (.bool !(r.all It.isN))) μ) : cCall C 8 μ (.ref 140) [.v (prodV l r)] [] k := by
  apply cCall_enter [("self", .v (prodV l r))]
  walk_at "enter"
  case hbind =>
    intro F s vs kvs X hv hkv
    refine WsAt.i1 hv fun u h1 => ?_
    refine KwAt.i_nil hkv ?_
    refine ⟨_, BindsTo.of_eq rfl, ?_⟩; exact .cons h1 .nil
  walk_at "ss"
  refine cE_not ?_
  walk_at "ss"
  refine m_P (f := 133) h (by kernel_rfl) (by kernel_rfl) (by kernel_rfl) (by decide) ?_
  walk_at "ss"
  refine isnl_spec h hg hz hT ?_
  refine truthy_bool' ?_
  walk_at "ss"
  exact hk
end
abbrev Pr := Nat × List It
noncomputable def Pr.v (p : Pr) : V := prodV (nm p.1) p.2
noncomputable def nw (i : Nat) : Str := ⟨#[97 + i]⟩
noncomputable def PrOk (p : Pr) : Prop := p.1 < 4 ∧ p.2.length ≤ 10 ∧ ∃ (i : It) (r : List It), p.2 = i :: r ∧ ∃ j, j < 4 ∧ (i = .N (nm j) ∨ i = .T (nw j))
structure Ix where
  a : Addr
  dd : Addr
  D1 : Addr
  D2 : Addr
  D3 : Addr
  D4 : Addr
  X : Mem
  μ : Mem
  fs : List (Str × W)
noncomputable def Ix.M (I : Ix) (B : Mem) (k1 k2 k4 : List (Key × W)) : Mem := B ++ (I.D4, .dict k4) :: (I.D3, .dict []) :: (I.D2, .dict k2) :: (I.D1, .dict k1) :: (I.X ++ (I.a, .inst 336 I.dd) :: (I.dd, .ns I.fs) :: I.μ)
section
variable {I : Ix} {B B' : Mem} {k1 k2 k4 k' : List (Key × W)}
theorem Ix.m1 : (I.D1, O.dict k1) ∈ I.M B k1 k2 k4 := List.mem_append_right _ (.tail _ (.tail _ (.tail _ (.head _))))
theorem Ix.m2 : (I.D2, O.dict k2) ∈ I.M B k1 k2 k4 := List.mem_append_right _ (.tail _ (.tail _ (.head _)))
theorem Ix.m4 : (I.D4, O.dict k4) ∈ I.M B k1 k2 k4 := List.mem_append_right _ (.head _)
theorem Ix.ma : (I.a, O.inst 336 I.dd) ∈ I.M B k1 k2 k4 := List.mem_append_right _ (.tail _ (.tail _ (.tail _ (.tail _ (List.mem_append_right _ (.head _))))))
theorem Ix.md : (I.dd, O.ns I.fs) ∈ I.M B k1 k2 k4 := List.mem_append_right _ (.tail _ (.tail _ (.tail _ (.tail _ (List.mem_append_right _ (.tail _ (.head _)))))))
theorem Ix.u1 : UpdAt I.D1 (.dict k1) (.dict k') (I.M B k1 k2 k4) (I.M B k' k2 k4) := UpdAt.app (.there (.there (.there .here))) B
theorem Ix.u2 : UpdAt I.D2 (.dict k2) (.dict k') (I.M B k1 k2 k4) (I.M B k1 k' k4) := UpdAt.app (.there (.there .here)) B
theorem Ix.u4 : UpdAt I.D4 (.dict k4) (.dict k') (I.M B k1 k2 k4) (I.M B k1 k2 k') := UpdAt.app .here B
theorem Ix.ub {b : Addr} {x y : O} (h : UpdAt b x y B B') : UpdAt b x y (I.M B k1 k2 k4) (I.M B' k1 k2 k4) := h.inApp _
theorem Ix.mb {b : Addr} {x : O} (h : (b, x) ∈ B) : (b, x) ∈ I.M B k1 k2 k4 := List.mem_append_left _ h
end
section
variable {C : Cx} (h : C.K = Mine.hk.heap_1 C.P)
include h
theorem cls_G : ClsOk C 336 := ⟨by rw [h]; kernel_rfl, by rw [h]; kernel_rfl, by rw [h]; kernel_rfl, by rw [h]; kernel_rfl, by rw [h]; kernel_rfl, by rw [h]; kernel_rfl⟩
theorem fd_G {x : Str} {r : Option (Option Value)} (hh : PySem.W.findIn (Mine.hk.heap_1 C.P) (.ref 336) x = r) : PySem.W.findIn C.K (.ref 336) x = r := by rw [h]; exact hh
theorem indexes_spec {μ₀ X : Mem} {a dd : Addr} {fs : List (Str × W)} {prods : List Pr} {k : PostW} (hf : fs.length ≤ 20) (hp : fs.lookup ("_productions" : Str) = some (.v (.list (prods.map Pr.v)))) (hok : ∀ p ∈ prods, PrOk p) (hz : prods.length ≤ 100)
    (hk : ∀ w1 w2 w3 w4, k (.v .none) (X ++ (a, .inst 336 dd) :: (dd, .ns (("_lexical_index", w4) :: ("_empty_index", w3) :: ("_rhs_index", w2) :: ("_lhs_index", w1) :: fs)) :: μ₀)) :
    cCall C 8 (X ++ (a, .inst 336 dd) :: (dd, .ns fs) :: μ₀) (.ref 181) [.l a] [] k := by
  refine cCall.fzR ?_
  apply cCall_enter [("self", .l a)]
  walk_at "enter"
  case hbind =>
    intro F s vs kvs X hv hkv
    refine WsAt.i1 hv fun u h1 => ?_
    refine KwAt.i_nil hkv ?_
    refine ⟨_, BindsTo.of_eq rfl, ?_⟩; exact .cons h1 .nil
  walk_at "ss"
  refine cE_dict0 fun D1 => ?_
  walk_at "ss"
  refine sa_inst (cls_G h) (tk_f h (by kernel_rfl)) (by decide) (by simp) (.there (UpdAt.app (.there .here) X)) (by lia) ?_
  walk_at "ss"
  refine cE_dict0 fun D2 => ?_
  walk_at "ss"
  refine sa_inst (cls_G h) (tk_f h (by kernel_rfl)) (by decide) (by simp) (.there (.there (UpdAt.app (.there .here) X))) (by simp; lia) ?_
  walk_at "ss"
  refine cE_dict0 fun D3 => ?_
  walk_at "ss"
  refine sa_inst (cls_G h) (tk_f h (by kernel_rfl)) (by decide) (by simp) (.there (.there (.there (UpdAt.app (.there .here) X)))) (by simp; lia) ?_
  walk_at "ss"
  refine cE_dict0 fun D4 => ?_
  walk_at "ss"
  refine sa_inst (cls_G h) (tk_f h (by kernel_rfl)) (by decide) (by simp) (.there (.there (.there (.there (UpdAt.app (.there .here) X))))) (by simp; lia) ?_
  walk_at "ss"
  refine gen (α := Ix) (⟨a, dd, D1, D2, D3, D4, X, μ₀, ("_lexical_index", .l D4) :: ("_empty_index", .l D3) :: ("_rhs_index", .l D2) :: ("_lhs_index", .l D1) :: fs⟩) fun I hI => ?_
  have eM : ((D4, O.dict []) :: (D3, O.dict []) :: (D2, O.dict []) :: (D1, O.dict []) :: (X ++ (a, O.inst 336 dd) :: (dd, O.ns (("_lexical_index", W.l D4) :: ("_empty_index", W.l D3) :: ("_rhs_index", W.l D2) :: ("_lhs_index", W.l D1) :: fs)) :: μ₀)) = I.M [] [] [] [] := by subst hI; rfl
  rw [eM]
  have ea : a = I.a := by subst hI; rfl
  rw [ea]
  have p1 : I.fs.lookup ("_productions" : Str) = some (.v (.list (prods.map Pr.v))) := by subst hI; exact hp
  have q1 : I.fs.lookup ("_lhs_index" : Str) = some (.l I.D1) := by subst hI; rfl
  have q2 : I.fs.lookup ("_rhs_index" : Str) = some (.l I.D2) := by subst hI; rfl
  have q4 : I.fs.lookup ("_lexical_index" : Str) = some (.l I.D4) := by subst hI; rfl
  refine a_instM (cls_G h) (fd_G h (by kernel_rfl)) Ix.ma Ix.md p1 ?_
  refine for_is it_list ?_
  refine fr403 at_map (fun t ε' μ' => ε' = ([("self", W.l I.a)] : List (Str × W)) ∧ ∃ B k1 k2 k4, μ' = I.M B k1 k2 k4 ∧ Box B k1 1 (30 * t) ∧ Box B k2 1 (30 * t) ∧ Box B k4 0 (30 * t)) (fun _ _ _ => rfl) (⟨rfl, [], [], [], [], rfl, .nil, .nil, .nil⟩) (fun J hJ t p B k1 k2 k4 hpt b1 b2 b4 => ?_) (fun B k1 k2 k4 _ _ _ => ?_)
  · have ht : t < prods.length := (List.getElem?_eq_some_iff.mp hpt).1
    obtain ⟨hl4, hr10, i0, rr, hr, j0, hj0, hi0⟩ := hok p (List.mem_of_getElem? hpt)
    obtain ⟨l, r⟩ := p
    simp only at hl4 hr10 hr
    walk_at "ss"
    refine a_inst (cls_P h) (fd_P h (by kernel_rfl)) rfl ?_
    walk_at "ss"
    refine (key_spec (i := .N (nm l)) h ?_).deep (by decide)
    refine seqK_next (cS_cons (cS1.join (fun fl ε' μ' => fl = .next ∧ ε' = ([("lhs", W.v (tK l).val), ("prod", W.v (Pr.v (l, r))), ("self", W.l I.a)] : List (Str × W)) ∧ ∃ B k1, μ' = I.M B k1 k2 k4 ∧ Box B k1 1 (30 * t + 1) ∧ Box B k2 1 (30 * t + 1) ∧ Box B k4 0 (30 * t + 1) ∧ tK l ∈ k1.map (·.1)) (fun K hK => ?_) ?_))
    · walk_at "ss"
      refine a_instM (cls_G h) (fd_G h (by kernel_rfl)) Ix.ma Ix.md q1 ?_
      refine v_notInD (kvs := k1) (key := tK l) Ix.m1 (fun p hp => (b1.val p hp).1) (by show (1 : Nat) ≠ 2; decide) ?_
      walk_at "ss"
      refine ⟨fun hb => ?_, fun hb => ?_⟩
      · have hno : tK l ∉ k1.map (·.1) := by simpa using hb
        walk_at "ss"
        refine cE_listM ?_
        walk_at "ss"
        refine ⟨by simp, fun b => ?_⟩
        walk_at "ss"
        refine a_instM (cls_G h) (fd_G h (by kernel_rfl)) (.tail _ Ix.ma) (.tail _ Ix.md) q1 ?_
        walk_at "ss"
        refine si_dict (kvs := k1) (key := tK l) (.there Ix.u1) (fun p hp => (b1.val p hp).1) (by show (1 : Nat) ≠ 2; decide) (by have := b1.len; lia) ?_
        walk_at "ss"
        refine hK ⟨rfl, rfl, (b, .list []) :: B, kput k1 (tK l) (.l b), rfl, (b1.cons (b, .list [])).put rfl (.head _), (b2.cons (b, .list [])).mono (by lia), (b4.cons (b, .list [])).mono (by lia), ?_⟩
        exact List.mem_map_of_mem (f := (·.1)) (mem_kput_self hno)
      · have hin : tK l ∈ k1.map (·.1) := by simpa using hb
        walk_at "ss"
        exact hK ⟨rfl, rfl, B, k1, rfl, b1.mono (by lia), b2.mono (by lia), b4.mono (by lia), hin⟩
    clear b1 b2 b4
    rintro _ _ _ ⟨rfl, rfl, B, k1, rfl, b1, b2, b4, hin⟩
    (refine el12 (List.mem_map.mp hin) fun qq0 hpm qq2 => ?_; rcases qq0 with ⟨key, u⟩; subst qq2)
    obtain ⟨hkd, b, vs, hu, hbm, hbl⟩ := b1.val _ hpm
    simp only at hu
    subst hu
    obtain ⟨B', hU⟩ := UpdAt.exists (.list (vs ++ [W.v (Pr.v (l, r))])) hbm
    walk_at "ss"
    refine a_instM (cls_G h) (fd_G h (by kernel_rfl)) Ix.ma Ix.md q1 ?_
    walk_at "ss"
    refine ⟨sub_dict (kvs := k1) Ix.m1, v_itemD (kvs := k1) (u := .l b) Ix.m1 (fun p hp => (b1.val p hp).1.trans hkd.symm) (by rw [hkd]; decide) hpm ?_⟩
    refine m_list (Ix.mb hbm) PySem.F.slot_list_append rfl ?_
    walk_at "ss"
    refine v_append (Ix.ub hU) (by lia) ?_
    have b1' := b1.upd (κ := 1) hbl hU
    have b2' := b2.upd hbl hU
    have b4' := b4.upd hbl hU
    clear b1 b2 b4
    walk_at "ss"
    refine cT_valK ?_ (by intros; rfl)
    walk_at "ss"
    refine a_inst (cls_P h) (fd_P h (by kernel_rfl)) rfl ?_
    refine t_tup (by rw [List.length_map]; exact (by lia : r.length ≤ 100000)) ⟨fun hb => ?_, fun hb => (by rw [hr] at hb; cases hb)⟩
    have i0k : i0.key.kind = 1 := by rcases hi0 with rfl | rfl <;> rfl
    walk_at "ss"
    refine a_inst (cls_P h) (fd_P h (by kernel_rfl)) rfl ?_
    walk_at "ss"
    refine ⟨sub_tup, v_item_tup (x := i0.v) (by decide) (by decide) (by rw [hr]; rfl) ?_⟩
    walk_at "ss"
    refine (key_spec (i := i0) h ?_).deep (by decide)
    refine seqK_next (cS_cons (cS1.join (fun fl ε' μ' => fl = .next ∧ ε' = ([("rhs0", W.v i0.key.val), ("lhs", W.v (tK l).val), ("prod", W.v (Pr.v (l, r))), ("self", W.l I.a)] : List (Str × W)) ∧ ∃ B k2, μ' = I.M B k1 k2 k4 ∧ Box B k1 1 (30 * t + 3) ∧ Box B k2 1 (30 * t + 3) ∧ Box B k4 0 (30 * t + 3) ∧ i0.key ∈ k2.map (·.1)) (fun K hK => ?_) ?_))
    · walk_at "ss"
      refine a_instM (cls_G h) (fd_G h (by kernel_rfl)) Ix.ma Ix.md q2 ?_
      refine v_notInD (kvs := k2) (key := i0.key) Ix.m2 (fun p hp => (b2'.val p hp).1.trans i0k.symm) (by rw [i0k]; decide) ?_
      walk_at "ss"
      refine ⟨fun hb => ?_, fun hb => ?_⟩
      · have hno : i0.key ∉ k2.map (·.1) := by simpa using hb
        walk_at "ss"
        refine cE_listM ?_
        walk_at "ss"
        refine ⟨by simp, fun b => ?_⟩
        walk_at "ss"
        refine a_instM (cls_G h) (fd_G h (by kernel_rfl)) (.tail _ Ix.ma) (.tail _ Ix.md) q2 ?_
        walk_at "ss"
        refine si_dict (kvs := k2) (key := i0.key) (.there Ix.u2) (fun p hp => (b2'.val p hp).1.trans i0k.symm) (by rw [i0k]; decide) (by have := b2'.len; lia) ?_
        walk_at "ss"
        refine hK ⟨rfl, rfl, (b, .list []) :: B', kput k2 i0.key (.l b), rfl, (b1'.cons (b, .list [])).mono (by lia), (b2'.cons (b, .list [])).put i0k (.head _), (b4'.cons (b, .list [])).mono (by lia), ?_⟩
        exact List.mem_map_of_mem (f := (·.1)) (mem_kput_self hno)
      · have hin : i0.key ∈ k2.map (·.1) := by simpa using hb
        walk_at "ss"
        exact hK ⟨rfl, rfl, B', k2, rfl, b1'.mono (by lia), b2'.mono (by lia), b4'.mono (by lia), hin⟩
    clear b1' b2' b4'
    rintro _ _ _ ⟨rfl, rfl, B, k2, rfl, b1, b2, b4, hin2⟩
    (refine el12 (List.mem_map.mp hin2) fun qq0 hpm2 hk2 => ?_; rcases qq0 with ⟨key2, u2⟩)
    obtain ⟨hkd2, c, vs2, hu2, hbm2, hbl2⟩ := b2.val _ hpm2
    simp only at hu2 hk2
    subst hu2
    obtain ⟨B'', hU2⟩ := UpdAt.exists (.list (vs2 ++ [W.v (Pr.v (l, r))])) hbm2
    walk_at "ss"
    refine a_instM (cls_G h) (fd_G h (by kernel_rfl)) Ix.ma Ix.md q2 ?_
    walk_at "ss"
    refine ⟨sub_dict (kvs := k2) Ix.m2, v_itemD (kvs := k2) (u := .l c) Ix.m2 (fun p hp => (b2.val p hp).1.trans i0k.symm) (by rw [i0k]; decide) (hk2 ▸ hpm2) ?_⟩
    refine m_list (Ix.mb hbm2) PySem.F.slot_list_append rfl ?_
    walk_at "ss"
    refine v_append (Ix.ub hU2) (by lia) ?_
    have b1' := b1.upd (κ := 1) hbl2 hU2
    have b2' := b2.upd hbl2 hU2
    have b4' := b4.upd hbl2 hU2
    clear b1 b2 b4
    walk_at "ss"
    refine a_inst (cls_P h) (fd_P h (by kernel_rfl)) rfl ?_
    refine for_is it_tup ?_
    refine fr203 at_map (fun u ε' μ' => ε' = ([("rhs0", W.v i0.key.val), ("lhs", W.v (tK l).val), ("prod", W.v (Pr.v (l, r))), ("self", W.l I.a)] : List (Str × W)) ∧ ∃ B k4, μ' = I.M B k1 k2 k4 ∧ Box B k1 1 (30 * t + 4 + 2 * u) ∧ Box B k2 1 (30 * t + 4 + 2 * u) ∧ Box B k4 0 (30 * t + 4 + 2 * u)) (fun _ _ _ => rfl) (⟨rfl, B'', k4, rfl, b1', b2', b4'⟩) (fun J hJ u i B k4 hi b1 b2 b4 => ?_) (fun B k4 b1 b2 b4 => ?_)
    · have hu : u < r.length := (List.getElem?_eq_some_iff.mp hi).1
      walk_at "ss"
      refine cT_valK ?_ (by intros; rfl)
      walk_at "ss"
      refine (iste_spec (i := i) h ?_).deep (by decide)
      refine truthy_bool' ⟨fun hb => ?_, fun hb => ?_⟩
      · cases i with
        | N x => cases hb
        | T x =>
          walk_at "ss"
          refine a_instM (cls_G h) (fd_G h (by kernel_rfl)) Ix.ma Ix.md q4 ?_
          refine m_dict (kvs := k4) Ix.m4 PySem.F.slot_dict_setdefault rfl ?_
          walk_at "ss"
          refine cE_listM ?_
          walk_at "ss"
          refine ⟨by simp, fun e => ?_⟩
          walk_at "ss"
          refine c_setdefaultD (kvs := k4) (key := .s x) (.tail _ Ix.m4) (fun p hp => (b4.val p hp).1) (by show (0 : Nat) ≠ 2; decide) (by have := b4.len; lia) (fun hno => ⟨_, .there Ix.u4, ?_⟩) fun w hw => ?_
          · refine m_list (.head _) PySem.F.slot_list_append rfl ?_
            walk_at "ss"
            refine v_append .here (by simp) ?_
            walk_at "ss"
            have c1 := ((b1.cons (e, .list [])).mono (m := 30 * t + 4 + 2 * u) (Nat.le_refl _)).upd (w := W.v (Pr.v (l, r))) (Nat.zero_le _) .here
            have c2 := ((b2.cons (e, .list [])).mono (m := 30 * t + 4 + 2 * u) (Nat.le_refl _)).upd (w := W.v (Pr.v (l, r))) (Nat.zero_le _) .here
            have c4 := ((b4.cons (e, .list [])).put (key := .s x) rfl (.head _)).upd (w := W.v (Pr.v (l, r))) (Nat.zero_le _) .here
            exact forK_next hJ (ε' := [("rhs0", W.v i0.key.val), ("lhs", W.v (tK l).val), ("prod", W.v (Pr.v (l, r))), ("self", W.l I.a)]) ⟨rfl, rfl, rfl, rfl, trivial⟩ (List.Sublist.refl _) ⟨rfl, (e, .list [W.v (Pr.v (l, r))]) :: B, kput k4 (.s x) (.l e), rfl, c1.mono (by lia), c2.mono (by lia), c4.mono (by lia)⟩
          · obtain ⟨_, f, vs3, hw3, hbm3, hbl3⟩ := b4.val _ hw
            simp only at hw3
            subst hw3
            obtain ⟨B3, hU3⟩ := UpdAt.exists (.list (vs3 ++ [W.v (Pr.v (l, r))])) hbm3
            refine m_list (.tail _ (Ix.mb hbm3)) PySem.F.slot_list_append rfl ?_
            walk_at "ss"
            refine v_append (.there (Ix.ub hU3)) (by lia) ?_
            walk_at "ss"
            exact forK_next hJ (ε' := [("rhs0", W.v i0.key.val), ("lhs", W.v (tK l).val), ("prod", W.v (Pr.v (l, r))), ("self", W.l I.a)]) ⟨rfl, rfl, rfl, rfl, trivial⟩ (List.sublist_cons_self ..) ⟨rfl, B3, k4, rfl, (b1.upd hbl3 hU3).mono (by lia), (b2.upd hbl3 hU3).mono (by lia), (b4.upd hbl3 hU3).mono (by lia)⟩
      · walk_at "ss"
        exact forK_next hJ (ε' := [("rhs0", W.v i0.key.val), ("lhs", W.v (tK l).val), ("prod", W.v (Pr.v (l, r))), ("self", W.l I.a)]) ⟨rfl, rfl, rfl, rfl, trivial⟩ (List.Sublist.refl _) ⟨rfl, B, k4, rfl, b1.mono (by lia), b2.mono (by lia), b4.mono (by lia)⟩
    · simp only [List.length_map] at b1 b2 b4
      walk_at "ss"
      exact forK_next hJ (ε' := [("self", W.l I.a)]) ⟨rfl, trivial⟩ (List.Sublist.refl _) ⟨rfl, B, k1, k2, k4, rfl, b1.mono (by lia), b2.mono (by lia), b4.mono (by lia)⟩
  · walk_at "ss"
    refine ⟨_, _, X ++ (a, O.inst 336 dd) :: (dd, O.ns (("_lexical_index", W.l D4) :: ("_empty_index", W.l D3) :: ("_rhs_index", W.l D2) :: ("_lhs_index", W.l D1) :: fs)) :: μ₀, Fz.weak ?_, rfl, hk _ _ _ _⟩
    subst hI
    exact ((((List.sublist_cons_self ..).trans (List.sublist_cons_self ..)).trans (List.sublist_cons_self ..)).trans (List.sublist_cons_self ..)).trans (List.sublist_append_right ..)
end
noncomputable def unP : V → List V
  | .inst _ [_, (_, .tup vs)] => vs
  | _ => []
noncomputable def isI : V → Bool
  | .inst _ _ => true
  | _ => false
theorem unP_v (p : Pr) : unP p.v = p.2.map It.v := rfl
theorem all_isI (r : List It) : (r.map It.v).all isI = r.all It.isN := by
  rw [List.all_map]; exact List.all_congr rfl fun i => by cases i <;> rfl
section
variable {C : Cx} (h : C.K = Mine.hk.heap_1 C.P) (hg : C.gen = false)
include h
theorem isnl_any {μ : Mem} {p : Pr} {k : PostW} (hz : p.2.length ≤ 1000) (hT : ∀ P ∈ C.tabs, (P, O.tab) ∈ μ) (hk : k (.v (.bool ((unP p.v).all isI))) μ) : cCall C 7 μ (.ref 133) [.v p.v] [] k := by
  refine cCall.noGen (isnl_spec (C := C.noGen) h rfl hz hT ?_)
  rw [unP_v, all_isI] at hk; exact hk
theorem islx_any {μ : Mem} {p : Pr} {k : PostW} (hz : p.2.length ≤ 1000) (hT : ∀ P ∈ C.tabs, (P, O.tab) ∈ μ) (hk : k (.v (.bool !((unP p.v).all isI))) μ) : cCall C 8 μ (.ref 140) [.v p.v] [] k := by
  refine cCall.noGen (islx_spec (C := C.noGen) h rfl hz hT ?_)
  rw [unP_v, all_isI] at hk; exact hk
theorem len_any {μ : Mem} {p : Pr} {k : PostW} (hz : p.2.length ≤ 1000) (hk : k (.v (.int (unP p.v).length)) μ) : cCall C 3 μ (.builtin "len") [.v p.v] [] k := by
  refine len_P h hz ?_
  rw [unP_v, List.length_map] at hk; exact hk
include hg
theorem forms_spec {μ₀ X : Mem} {a dd : Addr} {fs : List (Str × W)} {prods : List Pr} {k : PostW} (hf : fs.length ≤ 30) (hp : fs.lookup ("_productions" : Str) = some (.v (.list (prods.map Pr.v)))) (hok : ∀ p ∈ prods, PrOk p) (hne : prods ≠ [])
    (hT : ∀ P ∈ C.tabs, (P, O.tab) ∈ μ₀)
    (hk : ∀ w1 w2 w3 w4 w5, k (.v .none) (X ++ (a, .inst 336 dd) :: (dd, .ns (("_all_unary_are_lexical", w5) :: ("_max_len", w4) :: ("_min_len", w3) :: ("_is_nonlexical", w2) :: ("_is_lexical", w1) :: fs)) :: μ₀)) :
    cCall C 12 (X ++ (a, .inst 336 dd) :: (dd, .ns fs) :: μ₀) (.ref 227) [.l a] [] k := by
  have hTn : ∀ fs' : List (Str × W), ∀ P ∈ C.tabs, (P, O.tab) ∈ X ++ (a, .inst 336 dd) :: (dd, .ns fs') :: μ₀ := fun fs' P q => by simp [hT P q]
  apply cCall_enter [("self", .l a)]
  walk_at "enter"
  case hbind =>
    intro F s vs kvs X hv hkv
    refine WsAt.i1 hv fun u h1 => ?_
    refine KwAt.i_nil hkv ?_
    refine ⟨_, BindsTo.of_eq rfl, ?_⟩; exact .cons h1 .nil
  walk_at "ss"
  refine a_instM (cls_G h) (fd_G h (by kernel_rfl)) (List.mem_append_right _ (.head _)) (List.mem_append_right _ (.tail _ (.head _))) hp ?_
  walk_at "ss"
  refine cGen_all (d := 8) hg (by intros; rfl) (by intros; rfl) rfl rfl rfl rfl (by intros; rfl) ?_
  walk_at "ss"
  refine ⟨rfl, ?_⟩
  walk_at "ss"
  refine ⟨_, it_list, hTn _, fun items e => ⟨fun _ => true, fun x => !((unP x).all isI), fun g x hx => ?_, ?_⟩⟩
  · subst e
    (refine el12 (List.mem_map.mp hx) fun p hpm qq2 => ?_; subst qq2)
    have hz : p.2.length ≤ 1000 := by have := (hok p hpm).2.1; lia
    refine ⟨_, tgt_name (by walk_at "kind"), ifs_nil ⟨rfl, rfl, fun _ => ?_⟩⟩
    walk_at "ss"
    refine m_P (C := C.inGen g) (f := 140) h (by kernel_rfl) (by kernel_rfl) (by kernel_rfl) (by decide) ?_
    walk_at "ss"
    refine (islx_any (C := C.inGen g) h hz (hTn _) ?_).deep (by decide)
    exact ⟨rfl, rfl⟩
  walk_at "ss"
  refine sa_inst (cls_G h) (tk_f h (by kernel_rfl)) (by decide) (by simp) (UpdAt.app (.there .here) X) (by lia) ?_
  walk_at "ss"
  refine cGen_all (d := 8) hg (by intros; rfl) (by intros; rfl) rfl rfl rfl rfl (by intros; rfl) ?_
  walk_at "ss"
  refine ⟨rfl, ?_⟩
  walk_at "ss"
  refine ⟨_, it_list, hTn _, fun items e => ⟨fun x => ((unP x).length : Int) != 1, fun x => (unP x).all isI, fun g x hx => ?_, ?_⟩⟩
  · subst e
    (refine el12 (List.mem_map.mp hx) fun p hpm qq2 => ?_; subst qq2)
    have hz : p.2.length ≤ 1000 := by have := (hok p hpm).2.1; lia
    refine ⟨_, tgt_name (by walk_at "kind"), ifs_one ?_⟩
    walk_at "ss"
    refine (len_any (C := C.inGen g) h hz ?_).deep (by decide)
    walk_at "ss"
    refine ⟨rfl, rfl, fun _ => ?_⟩
    walk_at "ss"
    refine m_P (C := C.inGen g) (f := 133) h (by kernel_rfl) (by kernel_rfl) (by kernel_rfl) (by decide) ?_
    walk_at "ss"
    refine (isnl_any (C := C.inGen g) h hz (hTn _) ?_).deep (by decide)
    exact ⟨rfl, rfl⟩
  walk_at "ss"
  refine sa_inst (cls_G h) (tk_f h (by kernel_rfl)) (by decide) (by simp) (UpdAt.app (.there .here) X) (by simp; lia) ?_
  walk_at "ss"
  refine cGen_min (d := 8) hg (by intros; rfl) (by intros; rfl) rfl rfl rfl rfl (by intros; rfl) ?_
  walk_at "ss"
  refine ⟨rfl, ?_⟩
  walk_at "ss"
  refine ⟨_, it_list, hTn _, fun items e => ⟨fun x => true, fun x => (unP x).length, fun g x hx => ?_, by rw [e, List.filter_eq_self.mpr (fun _ _ => rfl)]; exact fun q => hne (List.map_eq_nil_iff.mp q), fun m1 => ?_⟩⟩
  · subst e
    (refine el12 (List.mem_map.mp hx) fun p hpm qq2 => ?_; subst qq2)
    have hz : p.2.length ≤ 1000 := by have := (hok p hpm).2.1; lia
    refine ⟨_, tgt_name (by walk_at "kind"), ifs_nil ⟨rfl, rfl, fun _ => ?_⟩⟩
    walk_at "ss"
    refine (len_any (C := C.inGen g) h hz ?_).deep (by decide)
    exact ⟨rfl, rfl⟩
  walk_at "ss"
  refine sa_inst (cls_G h) (tk_f h (by kernel_rfl)) (by decide) (by simp) (UpdAt.app (.there .here) X) (by simp; lia) ?_
  walk_at "ss"
  refine cGen_max (d := 8) hg (by intros; rfl) (by intros; rfl) rfl rfl rfl rfl (by intros; rfl) ?_
  walk_at "ss"
  refine ⟨rfl, ?_⟩
  walk_at "ss"
  refine ⟨_, it_list, hTn _, fun items e => ⟨fun x => true, fun x => (unP x).length, fun g x hx => ?_, by rw [e, List.filter_eq_self.mpr (fun _ _ => rfl)]; exact fun q => hne (List.map_eq_nil_iff.mp q), fun m2 => ?_⟩⟩
  · subst e
    (refine el12 (List.mem_map.mp hx) fun p hpm qq2 => ?_; subst qq2)
    have hz : p.2.length ≤ 1000 := by have := (hok p hpm).2.1; lia
    refine ⟨_, tgt_name (by walk_at "kind"), ifs_nil ⟨rfl, rfl, fun _ => ?_⟩⟩
    walk_at "ss"
    refine (len_any (C := C.inGen g) h hz ?_).deep (by decide)
    exact ⟨rfl, rfl⟩
  walk_at "ss"
  refine sa_inst (cls_G h) (tk_f h (by kernel_rfl)) (by decide) (by simp) (UpdAt.app (.there .here) X) (by simp; lia) ?_
  walk_at "ss"
  refine cGen_all (d := 8) hg (by intros; rfl) (by intros; rfl) rfl rfl rfl rfl (by intros; rfl) ?_
  walk_at "ss"
  refine ⟨rfl, ?_⟩
  walk_at "ss"
  refine ⟨_, it_list, hTn _, fun items e => ⟨fun x => ((unP x).length : Int) == 1, fun x => !((unP x).all isI), fun g x hx => ?_, ?_⟩⟩
  · subst e
    (refine el12 (List.mem_map.mp hx) fun p hpm qq2 => ?_; subst qq2)
    have hz : p.2.length ≤ 1000 := by have := (hok p hpm).2.1; lia
    refine ⟨_, tgt_name (by walk_at "kind"), ifs_one ?_⟩
    walk_at "ss"
    refine (len_any (C := C.inGen g) h hz ?_).deep (by decide)
    walk_at "ss"
    refine ⟨rfl, rfl, fun _ => ?_⟩
    walk_at "ss"
    refine m_P (C := C.inGen g) (f := 140) h (by kernel_rfl) (by kernel_rfl) (by kernel_rfl) (by decide) ?_
    walk_at "ss"
    refine (islx_any (C := C.inGen g) h hz (hTn _) ?_).deep (by decide)
    exact ⟨rfl, rfl⟩
  walk_at "ss"
  refine sa_inst (cls_G h) (tk_f h (by kernel_rfl)) (by decide) (by simp) (UpdAt.app (.there .here) X) (by simp; lia) ?_
  walk_at "ss"
  exact hk _ _ _ _ _
end
noncomputable def nwK (i : Nat) : Key := .s (nw i)
theorem nwK_inj {i j : Nat} (h : nwK i = nwK j) : i = j := by
  have h1 : nw i = nw j := by injection h
  have h2 : (nw i).cps = (nw j).cps := by rw [h1]
  have h3 : (97 + i) = (97 + j) := by
    have := congrArg (fun (a : Array Nat) => a.getD 0 0) h2
    simpa [nw] using this
  lia
theorem naming_nw : Naming nwK := ⟨fun _ _ _ _ e => nwK_inj e, 0, by decide, fun _ => rfl⟩
noncomputable def immC (prods : List Pr) (i j : Nat) : Bool := (i == j) || prods.any fun p => p.1 == i && p.2.head? == some (It.N (nm j))
noncomputable def immW (prods : List Pr) (i j : Nat) : Bool := prods.any fun p => p.1 == i && p.2.head? == some (It.T (nw j))
structure Lc where
  a : Addr
  dd : Addr
  D1 : Addr
  D2 : Addr
  ad1 : Nat → Addr
  ad2 : Nat → Addr
  X : Mem
  μ : Mem
  fs : List (Str × W)
  cats : List Nat
noncomputable def Lc.ns (I : Lc) : List (Str × W) := ("_immediate_leftcorner_words", .l I.D2) :: ("_immediate_leftcorner_categories", .l I.D1) :: I.fs
noncomputable def Lc.M (I : Lc) (ks1 ks2 : Nat → List Key) : Mem := gsM I.ad2 ks2 I.cats.reverse ++ (I.D2, .dict (I.cats.map fun i => (tK i, W.l (I.ad2 i)))) ::
  (gsM I.ad1 ks1 I.cats.reverse ++ (I.D1, .dict (I.cats.map fun i => (tK i, W.l (I.ad1 i)))) :: (I.X ++ (I.a, .inst 336 I.dd) :: (I.dd, .ns I.ns) :: I.μ))
noncomputable def Lc.E (I : Lc) (ks1 ks2 : Nat → List Key) : Mem := I.X ++ (I.a, .inst 336 I.dd) :: (I.dd, .ns (("_immediate_leftcorner_words", .v (gV tK I.cats ks2)) :: ("_immediate_leftcorner_categories", .v (gV tK I.cats ks1)) :: I.fs)) :: I.μ
section
variable {I : Lc} {ks1 ks2 : Nat → List Key} {new : List Key} {i : Nat}
theorem Lc.m1 : (I.D1, O.dict (I.cats.map fun i => (tK i, W.l (I.ad1 i)))) ∈ I.M ks1 ks2 := List.mem_append_right _ (.tail _ (List.mem_append_right _ (.head _)))
theorem Lc.m2 : (I.D2, O.dict (I.cats.map fun i => (tK i, W.l (I.ad2 i)))) ∈ I.M ks1 ks2 := List.mem_append_right _ (.head _)
theorem Lc.ma : (I.a, O.inst 336 I.dd) ∈ I.M ks1 ks2 := List.mem_append_right _ (.tail _ (List.mem_append_right _ (.tail _ (List.mem_append_right _ (.head _)))))
theorem Lc.md : (I.dd, O.ns I.ns) ∈ I.M ks1 ks2 := List.mem_append_right _ (.tail _ (List.mem_append_right _ (.tail _ (List.mem_append_right _ (.tail _ (.head _))))))
theorem Lc.s1 (h : i ∈ I.cats) : (I.ad1 i, O.set (ks1 i)) ∈ I.M ks1 ks2 := List.mem_append_right _ (.tail _ (mem_gs (List.mem_reverse.mpr h)))
theorem Lc.s2 (h : i ∈ I.cats) : (I.ad2 i, O.set (ks2 i)) ∈ I.M ks1 ks2 := mem_gs (List.mem_reverse.mpr h)
theorem Lc.u1 (hn : I.cats.Nodup) (h : i ∈ I.cats) : UpdAt (I.ad1 i) (.set (ks1 i)) (.set new) (I.M ks1 ks2) (I.M (fun x => if x = i then new else ks1 x) ks2) :=
  UpdAt.app (.there (UpdAt.gs ((List.reverse_perm _).nodup_iff.mpr hn) (List.mem_reverse.mpr h))) _
theorem Lc.u2 (hn : I.cats.Nodup) (h : i ∈ I.cats) : UpdAt (I.ad2 i) (.set (ks2 i)) (.set new) (I.M ks1 ks2) (I.M ks1 (fun x => if x = i then new else ks2 x)) :=
  UpdAt.gs ((List.reverse_perm _).nodup_iff.mpr hn) (List.mem_reverse.mpr h)
theorem done_gV {dom : List Nat} {ks : Nat → List Key} : Done (.dict (dom.map fun i => (tK i, W.v (V.set (ks i))))) (gV tK dom ks) := by
  refine .dict ?_
  have := frozenD_map (dom.map fun i => (tK i, V.set (ks i)))
  rw [List.map_map] at this
  exact this
theorem all_l {dom : List Nat} {ad : Nat → Addr} {ks : Nat → List Key} : (dom.map fun i => (tK i, W.l (ad i))) = dom.map fun i => (tK i, if i ∈ dom.reverse then W.l (ad i) else W.v (V.set (ks i))) :=
  List.map_congr_left fun i hi => by rw [if_pos (List.mem_reverse.mpr hi)]
theorem Lc.fz {C : Cx} : Fz C (fun w w' => w = w') (I.M ks1 ks2) (I.E ks1 ks2) := by
  unfold Lc.M Lc.E
  rw [all_l (ad := I.ad2) (ks := ks2), all_l (ad := I.ad1) (ks := ks1)]
  have f1 := fz_gs (C := C) (K := tK) (ad := I.ad2) (ks := ks2) (dom := I.cats) (D := I.D2) (r := gsM I.ad1 ks1 I.cats.reverse ++ (I.D1, .dict (I.cats.map fun i => (tK i, if i ∈ I.cats.reverse then W.l (I.ad1 i) else W.v (V.set (ks1 i))))) :: (I.X ++ (I.a, .inst 336 I.dd) :: (I.dd, .ns I.ns) :: I.μ)) I.cats.reverse
  have f2 : Fz C (FrzW I.D2 (gV tK I.cats ks2)) ((I.D2, .dict (I.cats.map fun i => (tK i, W.v (V.set (ks2 i))))) :: (gsM I.ad1 ks1 I.cats.reverse ++ (I.D1, .dict (I.cats.map fun i => (tK i, if i ∈ I.cats.reverse then W.l (I.ad1 i) else W.v (V.set (ks1 i))))) :: (I.X ++ (I.a, .inst 336 I.dd) :: (I.dd, .ns I.ns) :: I.μ)))
      (gsM I.ad1 ks1 I.cats.reverse ++ (I.D1, .dict (I.cats.map fun i => (tK i, if i ∈ I.cats.reverse then W.l (I.ad1 i) else W.v (V.set (ks1 i))))) :: (I.X ++ (I.a, .inst 336 I.dd) :: (I.dd, .ns (("_immediate_leftcorner_words", .v (gV tK I.cats ks2)) :: ("_immediate_leftcorner_categories", .l I.D1) :: I.fs)) :: I.μ)) :=
    fz_obj (.head _) done_gV .here (FrzT.append (FrzT.refl _) (.cons (.same _) (FrzT.append (FrzT.refl _) (.cons (.same _) (.cons (.ns (.cons .put (.cons (.same _) (FrzN.refl _)))) (FrzT.refl _))))))
  have f3 := fz_gs (C := C) (K := tK) (ad := I.ad1) (ks := ks1) (dom := I.cats) (D := I.D1) (r := I.X ++ (I.a, .inst 336 I.dd) :: (I.dd, .ns (("_immediate_leftcorner_words", .v (gV tK I.cats ks2)) :: ("_immediate_leftcorner_categories", .l I.D1) :: I.fs)) :: I.μ) I.cats.reverse
  have f4 : Fz C (FrzW I.D1 (gV tK I.cats ks1)) ((I.D1, .dict (I.cats.map fun i => (tK i, W.v (V.set (ks1 i))))) :: (I.X ++ (I.a, .inst 336 I.dd) :: (I.dd, .ns (("_immediate_leftcorner_words", .v (gV tK I.cats ks2)) :: ("_immediate_leftcorner_categories", .l I.D1) :: I.fs)) :: I.μ))
      (I.X ++ (I.a, .inst 336 I.dd) :: (I.dd, .ns (("_immediate_leftcorner_words", .v (gV tK I.cats ks2)) :: ("_immediate_leftcorner_categories", .v (gV tK I.cats ks1)) :: I.fs)) :: I.μ) :=
    fz_obj (.head _) done_gV .here (FrzT.append (FrzT.refl _) (.cons (.same _) (.cons (.ns (.cons (.same _) (.cons .put (FrzN.refl _)))) (FrzT.refl _))))
  exact ((f1.trans f2).trans (f3.trans f4)).imp fun w w' q => ⟨w, ⟨w, rfl, .same _⟩, w, rfl, q ▸ .same _⟩
end
section
variable {C : Cx} (h : C.K = Mine.hk.heap_1 C.P) (hg : C.gen = false)
include h
theorem m_G {d : Nat} {μ : Mem} {a dd : Addr} {fs : List (Str × W)} {name : Str} {f : Addr} {kk : Value → List W → Mem → Prop} (h1 : PySem.W.findIn (Mine.hk.heap_1 C.P) (.ref 336) name = some (some (.ref f))) (h2 : PySem.W.typeIn (Mine.hk.heap_1 C.P) (.ref f) = some (.type "function")) (h3 : PySem.W.keepIn (Mine.hk.heap_1 C.P) (.ref f) = true)
    (hn : name ∉ FN) (hm : (a, O.inst 336 dd) ∈ μ) (hm2 : (dd, O.ns fs) ∈ μ) (hk : kk (.ref f) [.l a] μ) : cMeth C d μ (.l a) name kk := m_instM (cls_G h) (mt_f h h1 h2 h3) hn hm hm2 hk
theorem prods_spec {μ : Mem} {a dd : Addr} {fs : List (Str × W)} {w : W} {k : PostW} (hm : (a, O.inst 336 dd) ∈ μ) (hm2 : (dd, O.ns fs) ∈ μ) (hp : fs.lookup ("_productions" : Str) = some w) (hk : k w μ) : cCall C 2 μ (.ref 199) [.l a] [] k := by
  apply cCall_enter [("self", .l a), ("lhs", .v .none), ("rhs", .v .none), ("empty", .v (.bool false))]
  walk_at "enter"
  case hbind =>
    intro F s vs kvs X hv hkv
    refine WsAt.i1 hv fun u h1 => ?_
    refine KwAt.i_nil hkv ?_
    refine ⟨_, BindsTo.of_defaults rfl (X _ _ (by rw [h]; exact rfl)) rfl rfl rfl, ?_⟩
    exact .cons h1 (.cons .none (.cons .none (.cons (.bool _) .nil)))
  walk_at "ss"
  refine cAll_andK ?_
  refine cT_valK ?_ (by intros; rfl)
  walk_at "ss"
  refine t_none (both_f (both_f ?_))
  walk_at "ss"
  refine cAll_andK ?_
  walk_at "ss"
  refine cT_valK ?_ (by intros; rfl)
  walk_at "ss"
  refine t_none (both_t ?_)
  refine cAll_andK ?_
  walk_at "ss"
  refine cT_valK ?_ (by intros; rfl)
  walk_at "ss"
  refine t_none (both_t ?_)
  refine cAll_and_nil (both_t ?_)
  walk_at "ss"
  refine cT_valK ?_ (by intros; rfl)
  walk_at "ss"
  refine truthy_bool' (both_t ?_)
  walk_at "ss"
  refine a_instM (cls_G h) (fd_G h (by kernel_rfl)) hm hm2 hp ?_
  walk_at "ss"
  exact hk
end
theorem cS.weak {C : Cx} {d : Nat} {sc : Scope} {ε ε' : Env1} {μ μ' : Mem} {st : List Stmt} {kf : PostF} (he : ∀ x w, ε'.lookup x = some w → ε.lookup x = some w) (hm : μ'.Sublist μ) (h : cS C d sc ε' μ' st kf) : cS C d sc ε μ st kf :=
  fun A env F Z s hA hs SS => h A env F Z s hA hs (SS.weaken he hm)
theorem FrzN.snoc {a : Addr} {d : V} {k : Key} : ∀ (xs : List (Key × W)), FrzN a d (xs ++ [(k, W.l a)]) (xs ++ [(k, W.v d)])
  | [] => .cons .put .nil
  | (_, _) :: xs => .cons (.same _) (FrzN.snoc xs)
section
variable {ps : List Pr} {l i j j0 : Nat} {rr : List It}
theorem immC_N : immC (ps ++ [(l, It.N (nm j0) :: rr)]) i j = (immC ps i j || (l == i && j == j0)) := by
  unfold immC
  rw [List.any_append, List.any_cons, List.any_nil, Bool.or_false, ← Bool.or_assoc]
  congr 1
  show (l == i && (some (It.N (nm j0)) == some (It.N (nm j)))) = _
  have : (some (It.N (nm j0)) == some (It.N (nm j))) = (j == j0) := by
    rw [Bool.eq_iff_iff, beq_iff_eq, beq_iff_eq]
    exact ⟨fun q => by injection q with q; injection q with q; exact (nm_inj q).symm, fun q => by rw [q]⟩
  rw [this]
theorem immC_T {x : Str} : immC (ps ++ [(l, It.T x :: rr)]) i j = immC ps i j := by
  unfold immC
  rw [List.any_append, List.any_cons, List.any_nil, Bool.or_false, ← Bool.or_assoc]
  show (_ || (l == i && (some (It.T x) == some (It.N (nm j))))) = _
  simp
theorem immW_N {x : Str} : immW (ps ++ [(l, It.N x :: rr)]) i j = immW ps i j := by
  unfold immW
  rw [List.any_append, List.any_cons, List.any_nil, Bool.or_false]
  show (_ || (l == i && (some (It.N x) == some (It.T (nw j))))) = _
  simp
theorem immW_T : immW (ps ++ [(l, It.T (nw j0) :: rr)]) i j = (immW ps i j || (l == i && j == j0)) := by
  unfold immW
  rw [List.any_append, List.any_cons, List.any_nil, Bool.or_false]
  congr 1
  show (l == i && (some (It.T (nw j0)) == some (It.T (nw j)))) = _
  have : (some (It.T (nw j0)) == some (It.T (nw j))) = (j == j0) := by
    rw [Bool.eq_iff_iff, beq_iff_eq, beq_iff_eq]
    exact ⟨fun q => by injection q with q; injection q with q; exact (nwK_inj (by unfold nwK; rw [q])).symm, fun q => by rw [q]⟩
  rw [this]
theorem setIs_put {K : Nat → Key} {f g : Nat → Nat → Bool} {ks : Nat → List Key} {new : List Key} {cats : List Nat} (h : ∀ i ∈ cats, SetIs K (ks i) (f i)) (hn : SetIs K new (g l)) (he : ∀ i, i ≠ l → ∀ j, f i j = g i j) : ∀ i ∈ cats, SetIs K (if i = l then new else ks i) (g i) := fun i hi => by
  by_cases e : i = l
  · subst e; rw [if_pos rfl]; exact hn
  · rw [if_neg e]; exact (h i hi).same fun j _ => he i e j
end
section
variable {C : Cx} (h : C.K = Mine.hk.heap_1 C.P) (hg : C.gen = false)
include h hg
theorem lcalc_spec {μ₀ X : Mem} {a dd : Addr} {fs : List (Str × W)} {prods : List Pr} {cats : List Nat} {r : Nat → Nat → Bool} {k : PostW} (hf : fs.length ≤ 30)
    (hp : fs.lookup ("_productions" : Str) = some (.v (.list (prods.map Pr.v)))) (hc : fs.lookup ("_categories" : Str) = some (.v (.list (cats.map fun i => (tK i).val))))
    (hok : ∀ p ∈ prods, PrOk p) (hnd : cats.Nodup) (hc4 : ∀ i ∈ cats, i < 4) (hin : ∀ p ∈ prods, p.1 ∈ cats)
    (hr : ∀ i ∈ cats, ∀ j, j < 4 → (r i j = true ↔ Reach cats (immC prods) i j))
    (hk : ∀ w1 w2 lc lw, (∀ i ∈ cats, SetIs tK (lc i) (r i)) → (∀ i ∈ cats, SetIs nwK (lw i) fun j => (List.range 4).any fun l => r i l && immW prods l j) →
      k (.v .none) (X ++ (a, .inst 336 dd) :: (dd, .ns (("_leftcorner_words", .v (gV tK cats lw)) :: ("_leftcorners", .v (gV tK cats lc)) :: ("_immediate_leftcorner_words", w2) :: ("_immediate_leftcorner_categories", w1) :: fs)) :: μ₀)) :
    cCall C 8 (X ++ (a, .inst 336 dd) :: (dd, .ns fs) :: μ₀) (.ref 186) [.l a] [] k := by
  refine cCall.fzR ?_
  apply cCall_enter [("self", .l a)]
  walk_at "enter"
  case hbind =>
    intro F s vs kvs X hv hkv
    refine WsAt.i1 hv fun u h1 => ?_
    refine KwAt.i_nil hkv ?_
    refine ⟨_, BindsTo.of_eq rfl, ?_⟩; exact .cons h1 .nil
  walk_at "ss"
  refine cE_dictS rfl (by kernel_rfl) rfl (by intros; rfl) ?_
  walk_at "ss"
  refine a_instM (cls_G h) (fd_G h (by kernel_rfl)) (List.mem_append_right _ (.head _)) (List.mem_append_right _ (.tail _ (.head _))) hc ?_
  refine ⟨_, it_list, fun items e => ⟨cats, tK, fun i l => l = [tK i], naming_t, e, hnd, hc4, fun i hi => ⟨_, tgt_name (by walk_at "kind"), fun m => ?_⟩, fun D1 ad1 ks1 hR1 => ?_⟩⟩
  · walk_at "ss"
    refine ⟨rfl, rfl, ?_⟩
    walk_at "ss"
    exact ⟨tK i, rfl, by show (1 : Nat) ≠ 2; decide, fun a => ⟨a, _, rfl, rfl, rfl⟩⟩
  walk_at "ss"
  refine sa_inst (cls_G h) (tk_f h (by kernel_rfl)) (by decide) (List.mem_append_right _ (.tail _ (List.mem_append_right _ (.head _)))) (UpdAt.app (.there (UpdAt.app (.there .here) X)) _) (by lia) ?_
  walk_at "ss"
  refine cE_dictS rfl (by kernel_rfl) rfl (by intros; rfl) ?_
  walk_at "ss"
  refine a_instM (cls_G h) (fd_G h (by kernel_rfl)) (List.mem_append_right _ (.tail _ (List.mem_append_right _ (.head _)))) (List.mem_append_right _ (.tail _ (List.mem_append_right _ (.tail _ (.head _))))) hc ?_
  refine ⟨_, it_list, fun items e => ⟨cats, tK, fun i l => l = [], naming_t, e, hnd, hc4, fun i hi => ⟨_, tgt_name (by walk_at "kind"), fun m => ?_⟩, fun D2 ad2 ks2 hR2 => ?_⟩⟩
  · walk_at "ss"
    refine ⟨rfl, rfl, ?_⟩
    walk_at "ss"
    exact c_set0 fun a => ⟨a, _, rfl, rfl, rfl⟩
  walk_at "ss"
  refine sa_inst (cls_G h) (tk_f h (by kernel_rfl)) (by decide) (List.mem_append_right _ (.tail _ (List.mem_append_right _ (.tail _ (List.mem_append_right _ (.head _)))))) (UpdAt.app (.there (UpdAt.app (.there (UpdAt.app (.there .here) X)) _)) _) (by simp; lia) ?_
  refine gen (α := Lc) (⟨a, dd, D1, D2, ad1, ad2, X, μ₀, fs, cats⟩) fun I hI => ?_
  have eM : (gsM ad2 ks2 cats.reverse ++ (D2, O.dict (cats.map fun i => (tK i, W.l (ad2 i)))) :: (gsM ad1 ks1 cats.reverse ++ (D1, O.dict (cats.map fun i => (tK i, W.l (ad1 i)))) :: (X ++ (a, O.inst 336 dd) :: (dd, O.ns (("_immediate_leftcorner_words", W.l D2) :: ("_immediate_leftcorner_categories", W.l D1) :: fs)) :: μ₀))) = I.M ks1 ks2 := by subst hI; rfl
  rw [eM]
  have ea : a = I.a := by subst hI; rfl
  rw [ea]
  have ec : I.cats = cats := by subst hI; rfl
  have p1 : I.ns.lookup ("_productions" : Str) = some (.v (.list (prods.map Pr.v))) := by subst hI; exact hp
  have hS1 : ∀ i ∈ cats, SetIs tK (ks1 i) (immC (prods.take 0) i) := fun i hi => by
    rw [hR1 i hi]
    exact ⟨by simp, fun key => by
      rw [List.mem_singleton]
      exact ⟨fun q => ⟨i, hc4 i hi, by simp [immC], q⟩, fun ⟨j, a, b, c⟩ => by
        have : i = j := by simpa [immC] using b
        rw [c, this]⟩⟩
  have hS2 : ∀ i ∈ cats, SetIs nwK (ks2 i) (immW (prods.take 0) i) := fun i hi => by
    rw [hR2 i hi]
    exact ⟨.nil, fun key => ⟨fun q => (by cases q), fun ⟨j, a, b, c⟩ => (by simp [immW] at b)⟩⟩
  clear hR1 hR2 eM
  walk_at "ss"
  refine m_G (f := 199) h (by kernel_rfl) (by kernel_rfl) (by kernel_rfl) (by decide) Lc.ma Lc.md ?_
  walk_at "ss"
  refine (prods_spec h Lc.ma Lc.md p1 ?_).deep (by decide)
  refine for_is it_list ?_
  refine fr202 at_map (fun t ε' μ' => ε' = ([("self", W.l I.a)] : List (Str × W)) ∧ ∃ ks1 ks2, μ' = I.M ks1 ks2 ∧ (∀ i ∈ cats, SetIs tK (ks1 i) (immC (prods.take t) i)) ∧ (∀ i ∈ cats, SetIs nwK (ks2 i) (immW (prods.take t) i))) (fun _ _ _ => rfl) (⟨rfl, ks1, ks2, rfl, hS1, hS2⟩) (fun J hJ t p ks1 ks2 hpt hS1 hS2 => ?_) (fun ks1 ks2 hS1 hS2 => ?_)
  · have htk : prods.take (t + 1) = prods.take t ++ [p] := by rw [List.take_add_one, hpt]; rfl
    obtain ⟨hl4, hr10, i0, rr, hrr, j0, hj0, hi0⟩ := hok p (List.mem_of_getElem? hpt)
    have hl := hin p (List.mem_of_getElem? hpt)
    obtain ⟨l, rs⟩ := p
    simp only at hl4 hr10 hrr hl
    have hl' : l ∈ I.cats := ec ▸ hl
    have fin : ∀ {ε : Env1} {kf : PostF} {ks1' ks2'}, ε.lookup ("self" : Str) = some (W.l I.a) → (∀ i ∈ cats, SetIs tK (ks1' i) (immC (prods.take (t + 1)) i)) → (∀ i ∈ cats, SetIs nwK (ks2' i) (immW (prods.take (t + 1)) i)) →
        forK J t kf .next ε (I.M ks1' ks2') := fun {ε kf ks1' ks2'} q1 q2 q3 =>
      forK_next hJ (ε' := [("self", W.l I.a)]) ⟨by rw [q1]; rfl, trivial⟩ (List.Sublist.refl _) ⟨rfl, ks1', ks2', rfl, q2, q3⟩
    walk_at "ss"
    refine (len_any (p := (l, rs)) h (by show rs.length ≤ 1000; lia) ?_).deep (by decide)
    walk_at "ss"
    refine ⟨fun _ => ?_, fun hb => (by rw [unP_v] at hb; rw [hrr] at hb; simp at hb)⟩
    walk_at "ss"
    refine cS1_swap ?_ (by intros; rfl) (by rintro ⟨⟩ rfl; rfl) (by walk_at "kind") (by walk_at "kind")
    refine cE_tuple ?_
    walk_at "ss"
    refine m_P (f := 112) h (by kernel_rfl) (by kernel_rfl) (by kernel_rfl) (by decide) ?_
    walk_at "ss"
    refine (lhs_spec h ?_).deep (by decide)
    walk_at "ss"
    refine (key_spec (i := .N (nm l)) h ?_).deep (by decide)
    walk_at "ss"
    refine m_P (f := 119) h (by kernel_rfl) (by kernel_rfl) (by kernel_rfl) (by decide) ?_
    walk_at "ss"
    refine (rhs_spec h ?_).deep (by decide)
    walk_at "ss"
    refine ⟨sub_tup, v_item_tup (x := i0.v) (by decide) (by decide) (by rw [hrr]; rfl) ?_⟩
    walk_at "ss"
    refine ⟨_, rfl, by simp, _, _, rfl, ?_⟩
    walk_at "ss"
    refine cT_valK ?_ (by intros; rfl)
    walk_at "ss"
    refine (isnt_spec (i := i0) h ?_).deep (by decide)
    have hk1 : ∀ k' ∈ ks1 l, k'.kind = 1 := (hS1 l hl).kind fun _ => rfl
    have hk2 : ∀ k' ∈ ks2 l, k'.kind = 0 := (hS2 l hl).kind fun _ => rfl
    have hn1 := (hS1 l hl).len naming_t
    have hn2 := (hS2 l hl).len naming_nw
    refine truthy_bool' ⟨fun hb => ?_, fun hb => ?_⟩
    · rcases hi0 with rfl | rfl
      · walk_at "ss"
        refine a_instM (cls_G h) (fd_G h (by kernel_rfl)) Lc.ma Lc.md rfl ?_
        walk_at "ss"
        refine ⟨sub_dict Lc.m1, v_itemD (key := tK l) (u := .l (I.ad1 l)) Lc.m1 (fun p hp => ?_) (by show (1 : Nat) ≠ 2; decide) (List.mem_map_of_mem (f := fun i => (tK i, W.l (I.ad1 i))) hl') ?_⟩
        · (refine el12 (List.mem_map.mp hp) fun x _ qq2 => ?_; subst qq2); rfl
        refine m_set (ks := ks1 l) (Lc.s1 hl') PySem.F.slot_set_add rfl ?_
        walk_at "ss"
        refine (key_spec (i := .N (nm j0)) h ?_).deep (by decide)
        walk_at "ss"
        have hW : ∀ i ∈ cats, SetIs nwK (ks2 i) (immW (prods.take (t + 1)) i) := fun i hi => (hS2 i hi).same fun j _ => by rw [htk, hrr, immW_N]
        refine c_setaddU (ks := ks1 l) (key := tK j0) (Lc.s1 hl') hk1 (by show (1 : Nat) ≠ 2; decide) (by lia) (fun q => ?_) fun q ks' hp' => ⟨_, Lc.u1 (ec ▸ hnd) hl', ?_⟩
        · walk_at "ss"
          refine fin rfl (fun i hi => (hS1 i hi).same fun j _ => ?_) hW
          rw [htk, hrr, immC_N]
          by_cases e : l = i ∧ j = j0
          · obtain ⟨rfl, rfl⟩ := e
            rw [((hS1 l hl).has naming_t hj0).mp q]; rfl
          · have : (l == i && j == j0) = false := by
              rw [Bool.and_eq_false_iff]
              by_cases e1 : l = i
              · exact .inr (by simpa using fun e2 => e ⟨e1, e2⟩)
              · exact .inl (by simpa using e1)
            rw [this, Bool.or_false]
        · walk_at "ss"
          refine fin rfl (setIs_put hS1 (((hS1 l hl).add hj0 q hp').same fun j _ => ?_) fun i hi j => ?_) hW
          · rw [htk, hrr, immC_N]; simp
          · rw [htk, hrr, immC_N]
            have : (l == i) = false := by simpa using Ne.symm hi
            rw [this]; simp
      · cases hb
    · rcases hi0 with rfl | rfl
      · cases hb
      · walk_at "ss"
        refine a_instM (cls_G h) (fd_G h (by kernel_rfl)) Lc.ma Lc.md rfl ?_
        walk_at "ss"
        refine ⟨sub_dict Lc.m2, v_itemD (key := tK l) (u := .l (I.ad2 l)) Lc.m2 (fun p hp => ?_) (by show (1 : Nat) ≠ 2; decide) (List.mem_map_of_mem (f := fun i => (tK i, W.l (I.ad2 i))) hl') ?_⟩
        · (refine el12 (List.mem_map.mp hp) fun x _ qq2 => ?_; subst qq2); rfl
        refine m_set (ks := ks2 l) (Lc.s2 hl') PySem.F.slot_set_add rfl ?_
        walk_at "ss"
        have hC : ∀ i ∈ cats, SetIs tK (ks1 i) (immC (prods.take (t + 1)) i) := fun i hi => (hS1 i hi).same fun j _ => by rw [htk, hrr, immC_T]
        refine c_setaddU (ks := ks2 l) (key := nwK j0) (Lc.s2 hl') hk2 (by show (0 : Nat) ≠ 2; decide) (by lia) (fun q => ?_) fun q ks' hp' => ⟨_, Lc.u2 (ec ▸ hnd) hl', ?_⟩
        · walk_at "ss"
          refine fin rfl hC (fun i hi => (hS2 i hi).same fun j _ => ?_)
          rw [htk, hrr, immW_T]
          by_cases e : l = i ∧ j = j0
          · obtain ⟨rfl, rfl⟩ := e
            rw [((hS2 l hl).has naming_nw hj0).mp q]; rfl
          · have : (l == i && j == j0) = false := by
              rw [Bool.and_eq_false_iff]
              by_cases e1 : l = i
              · exact .inr (by simpa using fun e2 => e ⟨e1, e2⟩)
              · exact .inl (by simpa using e1)
            rw [this, Bool.or_false]
        · walk_at "ss"
          refine fin rfl hC (setIs_put hS2 (((hS2 l hl).add hj0 q hp').same fun j _ => ?_) fun i hi j => ?_)
          · rw [htk, hrr, immW_T]; simp
          · rw [htk, hrr, immW_T]
            have : (l == i) = false := by simpa using Ne.symm hi
            rw [this]; simp
  · rw [List.length_map, List.take_length] at hS1 hS2
    refine seqK_next (cS.fz Lc.fz (.cons rfl .nil) ?_)
    have ea' : (I.a, O.inst 336 I.dd) ∈ I.E ks1 ks2 := List.mem_append_right _ (.head _)
    have ed' : (I.dd, O.ns (("_immediate_leftcorner_words", .v (gV tK I.cats ks2)) :: ("_immediate_leftcorner_categories", .v (gV tK I.cats ks1)) :: I.fs)) ∈ I.E ks1 ks2 := List.mem_append_right _ (.tail _ (.head _))
    walk_at "ss"
    refine a_instM (cls_G h) (fd_G h (by kernel_rfl)) ea' ed' rfl ?_
    rw [ec]
    walk_at "ss"
    refine (closure_spec h hg naming_t sortOk_t hnd hc4 hS1 hr fun lc hlc => ?_).deep (by decide)
    walk_at "ss"
    refine sa_inst (cls_G h) (tk_f h (by kernel_rfl)) (by decide) ea' (UpdAt.app (.there .here) I.X) (by subst hI; simp; lia) ?_
    walk_at "ss"
    refine cE_dict0 fun D3 => ?_
    walk_at "ss"
    refine sa_inst (cls_G h) (tk_f h (by kernel_rfl)) (by decide) (.tail _ (List.mem_append_right _ (.head _))) (.there (UpdAt.app (.there .here) I.X)) (by subst hI; simp; lia) ?_
    refine gen (α := List (Str × W)) ((("_leftcorner_words", W.l D3) :: ("_leftcorners", W.v (gV tK cats lc)) :: ("_immediate_leftcorner_words", W.v (gV tK I.cats ks2)) :: ("_immediate_leftcorner_categories", W.v (gV tK I.cats ks1)) :: I.fs : List (Str × W))) fun ns2 hns2 => ?_
    refine gen (α := Mem) (I.X ++ (I.a, O.inst 336 I.dd) :: (I.dd, O.ns ns2) :: I.μ) fun R hR => ?_
    have hM : ((D3, O.dict []) :: (I.X ++ (I.a, O.inst 336 I.dd) :: (I.dd, O.ns (("_leftcorner_words", W.l D3) :: ("_leftcorners", .v (gV tK cats lc)) :: ("_immediate_leftcorner_words", .v (gV tK I.cats ks2)) :: ("_immediate_leftcorner_categories", .v (gV tK I.cats ks1)) :: I.fs)) :: I.μ)) = (D3, O.dict []) :: R := by rw [hR, hns2]
    rw [hM]
    have ra : (I.a, O.inst 336 I.dd) ∈ R := by rw [hR]; exact List.mem_append_right _ (.head _)
    have rd : (I.dd, O.ns ns2) ∈ R := by rw [hR]; exact List.mem_append_right _ (.tail _ (.head _))
    have l1 : ns2.lookup ("_leftcorners" : Str) = some (.v (gV tK cats lc)) := by rw [hns2]; rfl
    have l2 : ns2.lookup ("_leftcorner_words" : Str) = some (.l D3) := by rw [hns2]; rfl
    have l3 : ns2.lookup ("_immediate_leftcorner_words" : Str) = some (.v (gV tK cats ks2)) := by rw [hns2, ec]; rfl
    clear hM ea' ed'
    refine seqK_next (cS.weak (ε' := [("self", W.l I.a)]) (look_sub ⟨rfl, trivial⟩) (List.Sublist.refl _) ?_)
    walk_at "ss"
    refine a_instM (cls_G h) (fd_G h (by kernel_rfl)) (.tail _ ra) (.tail _ rd) l1 ?_
    refine ⟨_, it_dict, fun items e => ?_⟩
    have e' : items = cats.map fun i => (tK i).val := by rw [e, List.map_map]; rfl
    clear e
    subst e'
    refine fr101 at_map (fun t ε' μ' => ε' = ([("self", W.l I.a)] : List (Str × W)) ∧ ∃ lw, μ' = (D3, O.dict ((cats.take t).map fun i => (tK i, W.v (V.set (lw i))))) :: R ∧ ∀ i ∈ cats.take t, SetIs nwK (lw i) fun j => (List.range 4).any fun l => r i l && immW prods l j) (fun _ _ _ => rfl) (⟨rfl, fun _ => [], rfl, by simp⟩) (fun J hJ t i lw hit hlw => ?_) (fun lw hlw => ?_)
    · have hi : i ∈ cats := List.mem_of_getElem? hit
      have hlt : t < cats.length := (List.getElem?_eq_some_iff.mp hit).1
      have htk : cats.take (t + 1) = cats.take t ++ [i] := by rw [List.take_add_one, hit]; rfl
      have hout : i ∉ cats.take t := by
        intro h2
        have h3 := hnd
        rw [← List.take_append_drop t cats] at h3
        have h4 : i ∈ cats.drop t := by
          rw [List.drop_eq_getElem_cons hlt, (List.getElem?_eq_some_iff.mp hit).2]; exact .head _
        exact (List.nodup_append.mp h3).2.2 i h2 i h4 rfl
      have hkey : tK i ∉ ((cats.take t).map fun i => (tK i, W.v (V.set (lw i)))).map (·.1) := by
        rw [List.map_map]
        intro q
        refine el12 (List.mem_map.mp q) fun x hx e => ?_
        exact hout (tK_inj e ▸ hx)
      walk_at "ss"
      refine a_instM (cls_G h) (fd_G h (by kernel_rfl)) (.tail _ ra) (.tail _ rd) l1 ?_
      walk_at "ss"
      refine g_item naming_t hi ?_
      walk_at "ss"
      refine cS1_asg2 ?_ (by intros; rfl) (by intros; rfl)
      walk_at "ss"
      refine c_set0 fun s => ?_
      walk_at "ss"
      refine a_instM (cls_G h) (fd_G h (by kernel_rfl)) (.tail _ (.tail _ ra)) (.tail _ (.tail _ rd)) l2 ?_
      walk_at "ss"
      refine si_dict (key := tK i) (.there .here) (fun p hp => ?_) (by show (1 : Nat) ≠ 2; decide) ?_ ?_
      · (refine el12 (List.mem_map.mp hp) fun x _ qq2 => ?_; subst qq2); rfl
      · rw [List.length_map]
        have := List.length_take_le t cats
        have := fs_len hnd hc4
        lia
      rw [kput_new hkey]
      walk_at "ss"
      refine ⟨_, it_set, fun items hL => ?_⟩
      (refine el12 hL fun L qq1 hLp => ?_; try clear hL; subst qq1)
      have hLm : ∀ x ∈ L, ∃ l, l < 4 ∧ r i l = true ∧ x = tK l := fun x hx => ((hlc i hi).mem x).mp (hLp.subset hx)
      refine fr102 at_map (fun u ε' μ' => ε' = ([("lc", W.l s), ("lefts", W.v (V.set (lc i))), ("cat", W.v (tK i).val), ("self", W.l I.a)] : List (Str × W)) ∧ ∃ ks, μ' = (s, O.set ks) :: (D3, O.dict (((cats.take t).map fun i => (tK i, W.v (V.set (lw i)))) ++ [(tK i, W.l s)])) :: R ∧ ks.Nodup ∧
        ∀ x, x ∈ ks ↔ ∃ l, l < 4 ∧ tK l ∈ L.take u ∧ ∃ j, j < 4 ∧ immW prods l j = true ∧ x = nwK j) (fun _ _ _ => rfl) (⟨rfl, [], rfl, .nil, fun x => ⟨fun q => (by cases q), fun ⟨_, _, q, _⟩ => (by simp at q)⟩⟩) (fun J hJ u key ks hku hkn hkm => ?_) (fun ks hkn hkm => ?_)
      · (refine el13 (hLm key (List.mem_of_getElem? hku)) fun l hl4 hrl qq3 => ?_; subst qq3)
        have hLt : L.take (u + 1) = L.take u ++ [tK l] := by rw [List.take_add_one, hku]; rfl
        have kk : ∀ x ∈ ks, ∃ j, j < 4 ∧ x = nwK j := fun x hx => by (refine el13 ((hkm x).mp hx) fun _ _ _ qr => ?_; refine el13 qr fun j a _ b => ?_; try clear qr); exact ⟨j, a, b⟩
        walk_at "ss"
        refine m_set (ks := ks) (.head _) PySem.F.slot_set_update rfl ?_
        walk_at "ss"
        refine a_instM (cls_G h) (fd_G h (by kernel_rfl)) (.tail _ (.tail _ ra)) (.tail _ (.tail _ rd)) l3 ?_
        refine m_dict gV_has PySem.F.slot_dict_get rfl ?_
        walk_at "ss"
        refine c_set0 fun e => ?_
        walk_at "ss"
        refine g_getG naming_t hc4 (fun i hi => (hS2 i hi).nd) hl4 fun S hSn hSm => ?_
        have kS : ∀ x ∈ S, ∃ j, j < 4 ∧ immW prods l j = true ∧ x = nwK j := fun x hx => ((hS2 l ((hSm x).mp hx).1).mem x).mp ((hSm x).mp hx).2
        walk_at "ss"
        refine c_updateU (ks := ks) (lo := S) (.head _) (fun x hx => by (refine el12 (kk x hx) fun j _ qq2 => ?_; subst qq2); rfl) (fun x hx => by (refine el13 (kS x hx) fun j _ _ qq3 => ?_; subst qq3); rfl) ?_ fun ks' hm' hn' => ⟨_, .here, ?_⟩
        · have := nodup_len hkn kk
          have := nodup_len hSn fun x hx => let ⟨j, a, _, b⟩ := kS x hx; ⟨j, a, b⟩
          lia
        walk_at "ss"
        refine forK_next hJ (ε' := [("lc", W.l s), ("lefts", W.v (V.set (lc i))), ("cat", W.v (tK i).val), ("self", W.l I.a)]) ⟨rfl, rfl, rfl, rfl, trivial⟩ (List.Sublist.refl _) ⟨rfl, ks', rfl, hn', fun x => ?_⟩
        rw [hm' x, hkm x, hLt]
        constructor
        · rintro (⟨l', a, b, c⟩ | hx)
          · exact ⟨l', a, List.mem_append_left _ b, c⟩
          · exact ⟨l, hl4, by simp, kS x hx⟩
        · rintro ⟨l', a, b, c⟩
          rcases List.mem_append.mp b with q | q
          · exact .inl ⟨l', a, q, c⟩
          · have : l' = l := tK_inj (List.mem_singleton.mp q)
            subst this
            (refine el13 c fun j hj hw qq3 => ?_; try clear c; subst qq3)
            refine el12 (List.any_eq_true.mp hw) fun p hp1 hp2 => ?_
            have hl'c : l' ∈ cats := by
              have : p.1 = l' := by simpa using (Bool.and_eq_true_iff.mp hp2).1
              exact this ▸ hin p hp1
            exact .inr ((hSm _).mpr ⟨hl'c, ((hS2 l' hl'c).mem _).mpr ⟨j, hj, hw, rfl⟩⟩)
      · rw [List.length_map, List.take_length] at hkm
        refine seqK_next (cS.fz (fz_obj (o := .set ks) (a := s) (d := .set ks) (.head _) .set .here (.cons (.dict (FrzN.snoc _)) (FrzT.refl _))) (.cons .put (.cons (.same _) (.cons (.same _) (.cons (.same _) .nil)))) ?_)
        walk_at "ss"
        refine forK_next hJ (ε' := [("self", W.l I.a)]) ⟨rfl, trivial⟩ (List.Sublist.refl _) ⟨rfl, fun x => if x = i then ks else lw x, ?_, fun x hx => ?_⟩
        · have e1 : ((cats.take t).map fun x => (tK x, W.v (V.set (if x = i then ks else lw x)))) = (cats.take t).map fun x => (tK x, W.v (V.set (lw x))) := List.map_congr_left fun x hx => by
            have : x ≠ i := fun q => hout (q ▸ hx)
            simp [this]
          rw [htk, List.map_append, e1]; simp
        · by_cases e : x = i
          · subst e
            simp only [if_true]
            refine ⟨hkn, fun key => ?_⟩
            rw [hkm key]
            constructor
            · rintro ⟨l, hl4, hlL, j, hj, hw, rfl⟩
              refine el13 (hLm _ hlL) fun l' a b c => ?_
              have : l = l' := tK_inj c
              subst this
              exact ⟨j, hj, List.any_eq_true.mpr ⟨l, by simpa using hl4, by rw [b, hw]; rfl⟩, rfl⟩
            · rintro ⟨j, hj, hw, rfl⟩
              refine el12 (List.any_eq_true.mp hw) fun l hl hq => ?_
              have hl4 : l < 4 := by simpa using hl
              obtain ⟨h1, h2⟩ := Bool.and_eq_true_iff.mp hq
              exact ⟨l, hl4, hLp.symm.subset (((hlc x hi).mem _).mpr ⟨l, hl4, h1, rfl⟩), j, hj, h2, rfl⟩
          · simp only [e, if_false]
            rw [htk] at hx
            rcases List.mem_append.mp hx with q | q
            · exact hlw x q
            · exact absurd (List.mem_singleton.mp q) e
    · rw [List.length_map, List.take_length] at *
      walk_at "ss"
      refine ⟨_, _, X ++ (a, O.inst 336 dd) :: (dd, O.ns (("_leftcorner_words", .v (gV tK cats lw)) :: ("_leftcorners", .v (gV tK cats lc)) :: ("_immediate_leftcorner_words", .v (gV tK cats ks2)) :: ("_immediate_leftcorner_categories", .v (gV tK cats ks1)) :: fs)) :: μ₀, fz_obj (a := D3) (d := gV tK cats lw) (.head _) done_gV .here ?_, .same _, hk _ _ lc lw hlc hlw⟩
      rw [hR, hns2, hI]
      exact FrzT.append (FrzT.refl _) (.cons (.same _) (.cons (.ns (.cons .put (FrzN.refl _))) (FrzT.refl _)))
end
noncomputable def cfgV (cats : List Nat) (lc lw : Nat → List Key) : V := .inst 336 [("_leftcorners", gV tK cats lc), ("_leftcorner_words", gV tK cats lw)]
theorem cats_frozen {cats : List Nat} : Done (.list (cats.map fun i => W.v (tK i).val)) (.list (cats.map fun i => (tK i).val)) := by
  refine .list ?_
  have := frozen_map (cats.map fun i => (tK i).val)
  rw [List.map_map] at this
  exact this
theorem eqv_tK {i j : Nat} : PyData.eqv (toD (tK i).val) (toD (tK j).val) = decide (i = j) := by
  refine (eqv_stup [tN, nm i] [tN, nm j]).trans ?_
  by_cases e : i = j
  · subst e; simp
  · have : ¬ [tN, nm i] = [tN, nm j] := fun q => e (nm_inj (by injection q with _ q; injection q))
    simp [e, this]
theorem sh_tK {i : Nat} (h : i < 4) : SeqAt.shaped (toD (tK i).val) = true := sh_stup (x := [tN, nm i]) fun y hy => by
  rcases List.mem_cons.mp hy with rfl | hy
  · exact sOk_N
  · cases List.mem_singleton.mp hy; exact sOk_nm h
theorem any_tK {cats : List Nat} {l : Nat} : ((cats.map fun i => (tK i).val).any fun y => PyData.eqv (toD y) (toD (tK l).val)) = decide (l ∈ cats) := by
  rw [List.any_map]
  have : ((fun y => PyData.eqv (toD y) (toD (tK l).val)) ∘ fun i => (tK i).val) = fun i => decide (i = l) := by
    funext i; exact eqv_tK
  rw [this, Bool.eq_iff_iff, List.any_eq_true, decide_eq_true_iff]
  exact ⟨fun ⟨x, hx, e⟩ => (of_decide_eq_true e) ▸ hx, fun q => ⟨l, q, by simp⟩⟩
theorem g_getD {C : Cx} {d : Nat} {μ : Mem} {k : PostW} {K : Nat → Key} {dom : List Nat} {ks : Nat → List Key} {D0 : List Key} (N : Naming K) (hd : ∀ i ∈ dom, i < 4) {j : Nat} (hj : j < 4) {a : Addr}
    (h : ∀ S : List Key, (j ∈ dom → S = ks j) → (j ∉ dom → S = D0) → k (.v (.set S)) μ) :
    cCall C d ((a, .set D0) :: μ) (.builtin "dict.get") [.v (gV K dom ks), .v (K j).val, .l a] [] k := by
  refine cCall.fzR (g_get N hd hj (fun hin => ?_) fun hout => ?_)
  · exact ⟨_, _, μ, Fz.weak (List.sublist_cons_self ..), rfl, h _ (fun _ => rfl) fun q => absurd hin q⟩
  · exact ⟨_, .v (.set D0), μ, fz_obj (.head _) .set .here (FrzT.refl _), .put, h D0 (fun q => absurd q hout) fun _ => rfl⟩
section
variable {C : Cx} (h : C.K = Mine.hk.heap_1 C.P) (hg : C.gen = false)
include h hg
theorem init_G {μ : Mem} {a dd : Addr} {i0 : Nat} {prods : List Pr} {r : Nat → Nat → Bool} (hT : ∀ P ∈ C.tabs, (P, O.tab) ∈ μ) (hok : ∀ p ∈ prods, PrOk p) (hz : prods.length ≤ 100) (hne : prods ≠ [])
    (hr : ∀ cats : List Nat, (∀ i, i ∈ cats ↔ ∃ p ∈ prods, p.1 = i) → ∀ i ∈ cats, ∀ j, j < 4 → (r i j = true ↔ Reach cats (immC prods) i j)) :
    cCode C 14 ((a, .inst 336 dd) :: (dd, .ns []) :: μ) (.ref 174) [.l a, .v (nonT (nm i0)), .v (.list (prods.map Pr.v))] [] fun w μ' => w = .v .none ∧ ∃ cats lc lw fs, cats.Nodup ∧ (∀ i, i ∈ cats ↔ ∃ p ∈ prods, p.1 = i) ∧
      (∀ i ∈ cats, SetIs tK (lc i) (r i)) ∧ (∀ i ∈ cats, SetIs nwK (lw i) fun j => (List.range 4).any fun l => r i l && immW prods l j) ∧
      μ' = (a, .inst 336 dd) :: (dd, .ns (("_leftcorner_words", .v (gV tK cats lw)) :: ("_leftcorners", .v (gV tK cats lc)) :: fs)) :: μ := by
  apply cCode_enter [("self", .l a), ("start", .v (nonT (nm i0))), ("productions", .v (.list (prods.map Pr.v))), ("calculate_leftcorners", .v (.bool true))]
  walk_at "enter"
  case hbind =>
    intro F s vs kvs X hv hkv
    refine WsAt.i3 hv fun u v w h1 h2 h3 => ?_
    refine KwAt.i_nil hkv ?_
    refine ⟨_, BindsTo.of_defaults rfl (X _ _ (by rw [h]; exact rfl)) rfl rfl rfl, ?_⟩
    exact .cons h1 (.cons h2 (.cons h3 (.cons (.bool _) .nil)))
  walk_at "ss"
  refine cT_valK ?_ (by intros; rfl)
  walk_at "ss"
  refine (isnt_spec (i := .N (nm i0)) h ?_).deep (by decide)
  refine truthy_bool' (both_f ?_)
  walk_at "ss"
  refine sa_inst (cls_G h) (tk_f h (by kernel_rfl)) (by decide) (.head _) (.there .here) (by simp) ?_
  walk_at "ss"
  refine sa_inst (cls_G h) (tk_f h (by kernel_rfl)) (by decide) (.head _) (.there .here) (by simp) ?_
  walk_at "ss"
  refine cE_listM ?_
  walk_at "ss"
  refine ⟨by simp, fun c => ?_⟩
  walk_at "ss"
  refine sa_inst (cls_G h) (tk_f h (by kernel_rfl)) (by decide) (.tail _ (.head _)) (.there (.there .here)) (by simp) ?_
  walk_at "ss"
  refine for_is it_list ?_
  refine fr102 at_map (fun t ε' μ' => ε' = ([("self", .l a), ("start", .v (nonT (nm i0))), ("productions", .v (.list (prods.map Pr.v))), ("calculate_leftcorners", .v (.bool true))] : List (Str × W)) ∧ ∃ cats : List Nat, μ' = (c, O.list (cats.map fun i => W.v (tK i).val)) :: (a, .inst 336 dd) :: (dd, .ns [("_categories", .l c), ("_productions", .v (.list (prods.map Pr.v))), ("_start", .v (nonT (nm i0)))]) :: μ ∧ cats.Nodup ∧ (∀ i, i ∈ cats ↔ ∃ p ∈ prods.take t, p.1 = i)) (fun _ _ _ => rfl) (⟨rfl, [], rfl, .nil, by simp⟩) (fun J hJ t p cats hpt hnd hm => ?_) (fun cats hnd hm => ?_)
  · have htk : prods.take (t + 1) = prods.take t ++ [p] := by rw [List.take_add_one, hpt]; rfl
    have hl4 := (hok p (List.mem_of_getElem? hpt)).1
    have hc4 : ∀ i ∈ cats, i < 4 := fun i hi => by
      refine el12 ((hm i).mp hi) fun q hq e => ?_
      exact e ▸ (hok q (List.mem_of_mem_take hq)).1
    obtain ⟨l, rs⟩ := p
    simp only at hl4
    walk_at "ss"
    refine m_P (f := 112) h (by kernel_rfl) (by kernel_rfl) (by kernel_rfl) (by decide) ?_
    walk_at "ss"
    refine (lhs_spec h ?_).deep (by decide)
    walk_at "ss"
    refine (key_spec (i := .N (nm l)) h ?_).deep (by decide)
    walk_at "ss"
    refine a_instM (cls_G h) (fd_G h (by kernel_rfl)) (.tail _ (.head _)) (.tail _ (.tail _ (.head _))) rfl ?_
    refine v_notInL (x := .l c) (vs := cats.map fun i => (tK i).val) (a := (tK l).val) (by rw [List.map_map]; exact .head _) (cl_toDs fun i hi => sh_tK (hc4 i hi)) (sh_tK hl4) ?_
    rw [any_tK]
    walk_at "ss"
    refine ⟨fun hb => ?_, fun hb => ?_⟩
    · have hno : l ∉ cats := by simpa using hb
      walk_at "ss"
      refine a_instM (cls_G h) (fd_G h (by kernel_rfl)) (.tail _ (.head _)) (.tail _ (.tail _ (.head _))) rfl ?_
      refine m_list (.head _) PySem.F.slot_list_append rfl ?_
      walk_at "ss"
      refine m_P (f := 112) h (by kernel_rfl) (by kernel_rfl) (by kernel_rfl) (by decide) ?_
      walk_at "ss"
      refine (lhs_spec h ?_).deep (by decide)
      walk_at "ss"
      refine (key_spec (i := .N (nm l)) h ?_).deep (by decide)
      walk_at "ss"
      refine v_append .here (by rw [List.length_map]; have := fs_len hnd hc4; lia) ?_
      walk_at "ss"
      refine forK_next hJ (ε' := [("self", .l a), ("start", .v (nonT (nm i0))), ("productions", .v (.list (prods.map Pr.v))), ("calculate_leftcorners", .v (.bool true))]) ⟨rfl, rfl, rfl, rfl, trivial⟩ (List.Sublist.refl _) ⟨rfl, cats ++ [l], by rw [List.map_append]; rfl, ?_, fun i => ?_⟩
      · exact List.nodup_append.mpr ⟨hnd, List.pairwise_singleton _ _, fun x hx y hy e => hno (by rw [List.mem_singleton.mp hy] at e; exact e ▸ hx)⟩
      · rw [htk, List.mem_append, List.mem_singleton, hm i]
        constructor
        · rintro (⟨q, hq, e⟩ | rfl)
          · exact ⟨q, List.mem_append_left _ hq, e⟩
          · exact ⟨(i, rs), by simp, rfl⟩
        · rintro ⟨q, hq, e⟩
          rcases List.mem_append.mp hq with w | w
          · exact .inl ⟨q, w, e⟩
          · rw [List.mem_singleton.mp w] at e; exact .inr e.symm
    · have hin : l ∈ cats := by simpa using hb
      walk_at "ss"
      refine forK_next hJ (ε' := [("self", .l a), ("start", .v (nonT (nm i0))), ("productions", .v (.list (prods.map Pr.v))), ("calculate_leftcorners", .v (.bool true))]) ⟨rfl, rfl, rfl, rfl, trivial⟩ (List.Sublist.refl _) ⟨rfl, cats, rfl, hnd, fun i => ?_⟩
      rw [htk, hm i]
      constructor
      · rintro ⟨q, hq, e⟩
        exact ⟨q, List.mem_append_left _ hq, e⟩
      · rintro ⟨q, hq, e⟩
        rcases List.mem_append.mp hq with w | w
        · exact ⟨q, w, e⟩
        · rw [List.mem_singleton.mp w] at e
          exact (hm i).mp (e ▸ hin)
  · rw [List.length_map, List.take_length] at hm
    have hc4 : ∀ i ∈ cats, i < 4 := fun i hi => by
      refine el12 ((hm i).mp hi) fun q hq e => ?_
      exact e ▸ (hok q hq).1
    refine seqK_next (cS.fz (fz_obj (a := c) (d := .list (cats.map fun i => (tK i).val)) (.head _) cats_frozen .here (.cons (.same _) (.cons (.ns (.cons .put (FrzN.refl _))) (FrzT.refl _)))) (.cons (.same _) (.cons (.same _) (.cons (.same _) (.cons (.same _) .nil)))) ?_)
    walk_at "ss"
    refine m_G (f := 181) h (by kernel_rfl) (by kernel_rfl) (by kernel_rfl) (by decide) (.head _) (.tail _ (.head _)) ?_
    walk_at "ss"
    refine (indexes_spec (X := []) h (by simp) rfl hok hz fun w1 w2 w3 w4 => ?_).deep (by decide)
    walk_at "ss"
    refine m_G (f := 227) h (by kernel_rfl) (by kernel_rfl) (by kernel_rfl) (by decide) (.head _) (.tail _ (.head _)) ?_
    walk_at "ss"
    refine (forms_spec (X := []) h hg (by simp) rfl hok hne hT fun w5 w6 w7 w8 w9 => ?_).deep (by decide)
    walk_at "ss"
    refine cT_valK ?_ (by intros; rfl)
    walk_at "ss"
    refine truthy_bool' (both_t ?_)
    walk_at "ss"
    refine m_G (f := 186) h (by kernel_rfl) (by kernel_rfl) (by kernel_rfl) (by decide) (.head _) (.tail _ (.head _)) ?_
    walk_at "ss"
    refine (lcalc_spec (X := []) (cats := cats) (r := r) h hg (by simp) rfl rfl hok hnd hc4 (fun p hp => (hm p.1).mpr ⟨p, hp, rfl⟩) (hr cats hm) fun w10 w11 lc lw hlc hlw => ?_).deep (by decide)
    walk_at "ss"
    exact ⟨rfl, cats, lc, lw, _, hnd, hm, hlc, hlw, rfl⟩
theorem mk_G {μ : Mem} {i0 : Nat} {prods : List Pr} {r : Nat → Nat → Bool} {k : PostW} (hT : ∀ P ∈ C.tabs, (P, O.tab) ∈ μ) (hok : ∀ p ∈ prods, PrOk p) (hz : prods.length ≤ 100) (hne : prods ≠ [])
    (hr : ∀ cats : List Nat, (∀ i, i ∈ cats ↔ ∃ p ∈ prods, p.1 = i) → ∀ i ∈ cats, ∀ j, j < 4 → (r i j = true ↔ Reach cats (immC prods) i j))
    (hk : ∀ cats lc lw, cats.Nodup → (∀ i, i ∈ cats ↔ ∃ p ∈ prods, p.1 = i) → (∀ i ∈ cats, SetIs tK (lc i) (r i)) → (∀ i ∈ cats, SetIs nwK (lw i) fun j => (List.range 4).any fun l => r i l && immW prods l j) → k (.v (cfgV cats lc lw)) μ) :
    cCall C 15 μ (.ref 336) [.v (nonT (nm i0)), .v (.list (prods.map Pr.v))] [] k := by
  refine cCall.fzR (c_make (d := 14) (cls_G h) (fd_G h (by kernel_rfl)) (ty_f h (by kernel_rfl)) fun a dd => cCode.mono (init_G h hg hT hok hz hne hr) fun w m hh => ?_)
  obtain ⟨hw, cats, lc, lw, fs, h1, h2, h3, h4, hm⟩ := hh
  subst hm
  refine ⟨hw, _, .v (cfgV cats lc lw), μ, fz_inst (.head _) (.tail _ (.head _)) (gs := [("_leftcorners", gV tK cats lc), ("_leftcorner_words", gV tK cats lw)]) (fun p hp => ?_) (.there .here) .here (FrzT.refl _), .put, hk cats lc lw h1 h2 h3 h4⟩
  rcases List.mem_cons.mp hp with rfl | hp
  · rfl
  · cases List.mem_singleton.mp hp
    rfl
theorem lcs_spec {μ : Mem} {cats : List Nat} {lc lw : Nat → List Key} {i : Nat} {k : PostW} (hc4 : ∀ i ∈ cats, i < 4) (hi : i < 4) (hk : ∀ S, (i ∈ cats → S = lc i) → (i ∉ cats → S = [tK i]) → k (.v (.set S)) μ) :
    cCall C 4 μ (.ref 206) [.v (cfgV cats lc lw), .v (nonT (nm i))] [] k := by
  apply cCall_enter [("self", .v (cfgV cats lc lw)), ("cat", .v (nonT (nm i)))]
  walk_at "enter"
  case hbind =>
    intro F s vs kvs X hv hkv
    refine WsAt.i2 hv fun u v h1 h2 => ?_
    refine KwAt.i_nil hkv ?_
    refine ⟨_, BindsTo.of_eq rfl, ?_⟩; exact .cons h1 (.cons h2 .nil)
  walk_at "ss"
  refine a_inst (cls_G h) (fd_G h (by kernel_rfl)) rfl ?_
  refine m_dict gV_has PySem.F.slot_dict_get rfl ?_
  walk_at "ss"
  refine (key_spec (i := .N (nm i)) h ?_).deep (by decide)
  walk_at "ss"
  refine (key_spec (i := .N (nm i)) h ?_).deep (by decide)
  refine ⟨tK i, rfl, by show (1 : Nat) ≠ 2; decide, fun e => ?_⟩
  walk_at "ss"
  refine g_getD naming_t hc4 hi fun S h1 h2 => ?_
  walk_at "ss"
  exact hk S h1 h2
theorem m_Gv {d : Nat} {μ : Mem} {cats : List Nat} {lc lw : Nat → List Key} {name : Str} {f : Addr} {kk : Value → List W → Mem → Prop} (h1 : PySem.W.findIn (Mine.hk.heap_1 C.P) (.ref 336) name = some (some (.ref f))) (h2 : PySem.W.typeIn (Mine.hk.heap_1 C.P) (.ref f) = some (.type "function")) (h3 : PySem.W.keepIn (Mine.hk.heap_1 C.P) (.ref f) = true)
    (hn : name ∉ FN) (hk : kk (.ref f) [.v (cfgV cats lc lw)] μ) : cMeth C d μ (.v (cfgV cats lc lw)) name kk := m_inst (cls_G h) (mt_f h h1 h2 h3) hn hk
theorem ilc_N {μ : Mem} {cats : List Nat} {lc lw : Nat → List Key} {i j : Nat} {k : PostW} (hc4 : ∀ i ∈ cats, i < 4) (hi : i < 4) (hkd : ∀ i ∈ cats, ∀ x ∈ lc i, x.kind = 1)
    (hk : ∀ S, (i ∈ cats → S = lc i) → (i ∉ cats → S = [tK i]) → k (.v (.bool (decide (tK j ∈ S)))) μ) :
    cCall C 6 μ (.ref 213) [.v (cfgV cats lc lw), .v (nonT (nm i)), .v (nonT (nm j))] [] k := by
  apply cCall_enter [("self", .v (cfgV cats lc lw)), ("cat", .v (nonT (nm i))), ("left", .v (nonT (nm j)))]
  walk_at "enter"
  case hbind =>
    intro F s vs kvs X hv hkv
    refine WsAt.i3 hv fun u v w h1 h2 h3 => ?_
    refine KwAt.i_nil hkv ?_
    refine ⟨_, BindsTo.of_eq rfl, ?_⟩; exact .cons h1 (.cons h2 (.cons h3 .nil))
  walk_at "ss"
  refine cT_valK ?_ (by intros; rfl)
  walk_at "ss"
  refine (isnt_spec (i := .N (nm j)) h ?_).deep (by decide)
  refine truthy_bool' (both_t ?_)
  walk_at "ss"
  refine (key_spec (i := .N (nm j)) h ?_).deep (by decide)
  walk_at "ss"
  refine m_Gv (f := 206) h hg (by kernel_rfl) (by kernel_rfl) (by kernel_rfl) (by decide) ?_
  walk_at "ss"
  refine (lcs_spec h hg hc4 hi fun S h1 h2 => ?_).deep (by decide)
  refine v_inS (ks := S) (key := tK j) rfl (fun x hx => ?_) (by show (1 : Nat) ≠ 2; decide) ?_
  · by_cases e : i ∈ cats
    · exact hkd i e x (h1 e ▸ hx)
    · rw [h2 e] at hx; rw [List.mem_singleton.mp hx]; rfl
  walk_at "ss"
  exact hk S h1 h2
theorem ilc_T {μ : Mem} {cats : List Nat} {lc lw : Nat → List Key} {i j : Nat} {k : PostW} (hc4 : ∀ i ∈ cats, i < 4) (hne : cats ≠ []) (hcl : cats.length ≤ 100) (hi : i < 4) (hkd : ∀ i ∈ cats, ∀ x ∈ lw i, x.kind = 0)
    (hk : ∀ S, (i ∈ cats → S = lw i) → (i ∉ cats → S = []) → k (.v (.bool (decide (nwK j ∈ S)))) μ) :
    cCall C 6 μ (.ref 213) [.v (cfgV cats lc lw), .v (nonT (nm i)), .v (.str (nw j))] [] k := by
  apply cCall_enter [("self", .v (cfgV cats lc lw)), ("cat", .v (nonT (nm i))), ("left", .v (.str (nw j)))]
  walk_at "enter"
  case hbind =>
    intro F s vs kvs X hv hkv
    refine WsAt.i3 hv fun u v w h1 h2 h3 => ?_
    refine KwAt.i_nil hkv ?_
    refine ⟨_, BindsTo.of_eq rfl, ?_⟩; exact .cons h1 (.cons h2 (.cons h3 .nil))
  walk_at "ss"
  refine cT_valK ?_ (by intros; rfl)
  walk_at "ss"
  refine (isnt_spec (i := .T (nw j)) h ?_).deep (by decide)
  refine truthy_bool' (both_f ?_)
  walk_at "ss"
  refine cT_valK ?_ (by intros; rfl)
  walk_at "ss"
  refine a_inst (cls_G h) (fd_G h (by kernel_rfl)) rfl ?_
  refine t_dict gV_has (by rw [List.length_map]; lia) ⟨fun _ => ?_, fun e => ?_⟩
  rotate_left
  · cases cats with
    | nil => exact absurd rfl hne
    | cons x r => cases e
  walk_at "ss"
  refine a_inst (cls_G h) (fd_G h (by kernel_rfl)) rfl ?_
  refine m_dict gV_has PySem.F.slot_dict_get rfl ?_
  walk_at "ss"
  refine (key_spec (i := .N (nm i)) h ?_).deep (by decide)
  walk_at "ss"
  refine c_set0 fun e => ?_
  walk_at "ss"
  refine g_getD naming_t hc4 hi fun S h1 h2 => ?_
  refine v_inS (ks := S) (key := nwK j) rfl (fun x hx => ?_) (by show (0 : Nat) ≠ 2; decide) ?_
  · by_cases e : i ∈ cats
    · exact hkd i e x (h1 e ▸ hx)
    · rw [h2 e] at hx; cases hx
  walk_at "ss"
  exact hk S h1 h2
end
theorem behind_iff {f g : Nat → Nat → Bool} {i j : Nat} : behind f g i j = true ↔ ∃ k, k < 4 ∧ f i k = true ∧ g k j = true := by
  unfold behind
  rw [List.any_map, List.any_eq_true]
  constructor
  · rintro ⟨k, hk, e⟩
    obtain ⟨e1, e2⟩ := Bool.and_eq_true_iff.mp e
    exact ⟨k, by simpa using hk, e1, e2⟩
  · rintro ⟨k, hk, e1, e2⟩
    exact ⟨k, by simpa using hk, by simp [e1, e2]⟩
noncomputable def two0 (f : Nat → Nat → Bool) (i j : Nat) : Bool := (i == j) || f i j
noncomputable def wholeOf (f : Nat → Nat → Bool) : Nat → Nat → Bool := behind (behind (two0 f) (two0 f)) (behind (two0 f) (two0 f))
abbrev Rch (f : Nat → Nat → Bool) := Reach (List.range 4) f
section
variable {f g : Nat → Nat → Bool} {i j k : Nat} {dom : List Nat}
theorem Reach.trans {a b c : Nat} (h : Reach dom f a b) (h' : Reach dom f b c) : Reach dom f a c := by
  induction h' with
  | refl => exact h
  | step _ p q r ih => exact ih.step p q r
theorem Reach.mono {dom' : List Nat} (h : Reach dom f i j) (hs : ∀ a b, a ∈ dom → b < 4 → f a b = true → Reach dom' g a b) : Reach dom' g i j := by
  induction h with
  | refl => exact .refl
  | step _ p q r ih => exact ih.trans (hs _ _ p q r)
theorem Reach.none (h : Reach dom f i j) (hn : ∀ k, k < 4 → f i k = false) : i = j := by
  induction h with
  | refl => rfl
  | step _ p q r ih => subst ih; rw [hn _ q] at r; cases r
theorem rch_two0 (hi : i < 4) (hj : j < 4) (h : two0 f i j = true) : Rch f i j := by
  unfold two0 at h
  rcases Bool.or_eq_true_iff.mp h with q | q
  · have : i = j := by simpa using q
    subst this; exact .refl
  · exact Reach.step .refl (by simpa using hi) hj q
theorem whole_sound (hi : i < 4) (hj : j < 4) (h : wholeOf f i j = true) : Rch f i j := by
  refine el13 (behind_iff.mp h) fun b hb h1 h2 => ?_
  refine el13 (behind_iff.mp h1) fun a ha h3 h4 => ?_
  refine el13 (behind_iff.mp h2) fun c hc h5 h6 => ?_
  exact (((rch_two0 hi ha h3).trans (rch_two0 ha hb h4)).trans (rch_two0 hb hc h5)).trans (rch_two0 hc hj h6)
noncomputable def Pm (f : Nat → Nat → Bool) (i : Nat) : Nat → Nat → Bool
  | 0, j => i == j
  | m + 1, j => (List.range 4).any fun k => Pm f i m k && two0 f k j
theorem Pm_succ {m : Nat} : Pm f i (m + 1) j = true ↔ ∃ k, k < 4 ∧ Pm f i m k = true ∧ two0 f k j = true := by
  show (List.range 4).any _ = true ↔ _
  rw [List.any_eq_true]
  constructor
  · rintro ⟨k, hk, e⟩
    obtain ⟨e1, e2⟩ := Bool.and_eq_true_iff.mp e
    exact ⟨k, by simpa using hk, e1, e2⟩
  · rintro ⟨k, hk, e1, e2⟩
    exact ⟨k, by simpa using hk, by simp [e1, e2]⟩
theorem Pm_mono {m : Nat} (hj : j < 4) (h : Pm f i m j = true) : Pm f i (m + 1) j = true := Pm_succ.mpr ⟨j, hj, h, by simp [two0]⟩
theorem Pm_stable {m : Nat} (h : ∀ j, j < 4 → Pm f i (m + 1) j = true → Pm f i m j = true) : ∀ (n j : Nat), j < 4 → Pm f i (m + n) j = true → Pm f i m j = true
  | 0, _, _, e => e
  | n + 1, j, hj, e => by
    refine el13 (Pm_succ.mp e) fun k hk e1 e2 => ?_
    exact h j hj (Pm_succ.mpr ⟨k, hk, Pm_stable h n k hk e1, e2⟩)
theorem pick_lt {p q : Nat → Bool} (h : ∀ j, j < 4 → p j = true → q j = true) {j : Nat} (hj : j < 4) (h1 : q j = true) (h2 : p j = false) : (pick p).length < (pick q).length := by
  have hn : (j :: pick p).Nodup := List.nodup_cons.mpr ⟨fun hm => (by rw [(pick_mem.mp hm).2] at h2; cases h2), pick_nodup p⟩
  have := List.Nodup.length_le_of_subset hn (l₂ := pick q) fun x hx => by
    rcases List.mem_cons.mp hx with rfl | hx
    · exact pick_mem.mpr ⟨hj, h1⟩
    · exact pick_mem.mpr ⟨(pick_mem.mp hx).1, h x (pick_mem.mp hx).1 (pick_mem.mp hx).2⟩
  simp only [List.length_cons] at this
  lia
theorem Pm_closed (hi : i < 4) (hk : k < 4) (h : Pm f i 5 k = true) : Pm f i 4 k = true := by
  cases hn : Pm f i 4 k with
  | true => rfl
  | false =>
    have new : ∀ m, m ≤ 4 → ∃ j, j < 4 ∧ Pm f i (m + 1) j = true ∧ Pm f i m j = false := fun m hm => by
      by_cases e : ∃ j, j < 4 ∧ Pm f i (m + 1) j = true ∧ Pm f i m j = false
      · exact e
      · have st : ∀ j, j < 4 → Pm f i (m + 1) j = true → Pm f i m j = true := fun j hj q => by
          cases q2 : Pm f i m j with
          | true => rfl
          | false => exact absurd ⟨j, hj, q, q2⟩ e
        have up : ∀ (n j : Nat), j < 4 → Pm f i m j = true → Pm f i (m + n) j = true := fun n => by
          induction n with
          | zero => exact fun j _ q => q
          | succ n ih => exact fun j hj q => Pm_mono hj (ih j hj q)
        have h5 : m + (5 - m) = 5 := by lia
        have h4 : m + (4 - m) = 4 := by lia
        have a := Pm_stable st (5 - m) k hk (by rw [h5]; exact h)
        have b := up (4 - m) k hk a
        rw [h4, hn] at b; cases b
    have lt : ∀ m, m ≤ 4 → (pick (Pm f i m)).length < (pick (Pm f i (m + 1))).length := fun m hm => by
      refine el13 (new m hm) fun j hj a b => ?_
      exact pick_lt (fun j hj => Pm_mono hj) hj a b
    have a0 : (pick (Pm f i 0)).length < (pick (Pm f i 1)).length := lt 0 (by lia)
    have a1 : (pick (Pm f i 1)).length < (pick (Pm f i 2)).length := lt 1 (by lia)
    have a2 : (pick (Pm f i 2)).length < (pick (Pm f i 3)).length := lt 2 (by lia)
    have a3 : (pick (Pm f i 3)).length < (pick (Pm f i 4)).length := lt 3 (by lia)
    have a4 : (pick (Pm f i 4)).length < (pick (Pm f i 5)).length := lt 4 (by lia)
    have := pick_len (Pm f i 5)
    lia
theorem Pm_whole (h : Pm f i 4 j = true) : wholeOf f i j = true := by
  refine el13 (Pm_succ.mp h) fun c hc h1 h2 => ?_
  refine el13 (Pm_succ.mp h1) fun b hb h3 h4 => ?_
  refine el13 (Pm_succ.mp h3) fun a ha h5 h6 => ?_
  refine el13 (Pm_succ.mp h5) fun z hz h7 h8 => ?_
  have : i = z := by simpa [Pm] using h7
  subst this
  exact behind_iff.mpr ⟨b, hb, behind_iff.mpr ⟨a, ha, h8, h6⟩, behind_iff.mpr ⟨c, hc, h4, h2⟩⟩
theorem whole_iff (hi : i < 4) (hj : j < 4) : wholeOf f i j = true ↔ Rch f i j := by
  refine ⟨whole_sound hi hj, fun h => Pm_whole ?_⟩
  clear hj
  induction h with
  | refl => exact Pm_mono hi (Pm_mono hi (Pm_mono hi (Pm_mono hi (by simp [Pm]))))
  | step _ p q r ih => exact Pm_closed hi q (Pm_succ.mpr ⟨_, by simpa using p, ih, by simp [two0, r]⟩)
end
noncomputable def domOf (full : Bool) (f : Nat → Nat → Bool) : List Nat := pick fun i => full || (List.range 4).any (f i)
section
variable {f : Nat → Nat → Bool} {full : Bool} {i j : Nat}
theorem dom_of (hi : i < 4) (hj : j < 4) (h : f i j = true) : i ∈ domOf full f := pick_mem.mpr ⟨hi, by
  rw [Bool.or_eq_true_iff]; exact .inr (List.any_eq_true.mpr ⟨j, by simpa using hj, h⟩)⟩
theorem dom_lt (h : i ∈ domOf full f) : i < 4 := (pick_mem.mp h).1
theorem dom_none (hi : i < 4) (h : i ∉ domOf full f) (hj : j < 4) : f i j = false := by
  cases e : f i j with
  | false => rfl
  | true => exact absurd (dom_of hi hj e) h
theorem whole_dom (hi : i < 4) (hj : j < 4) : wholeOf f i j = true ↔ Reach (domOf full f) f i j := by
  rw [whole_iff hi hj]
  exact ⟨fun h => h.mono fun a b ha hb e => Reach.step .refl (dom_of (by simpa using ha) hb e) hb e, fun h => h.mono fun a b ha hb e => Reach.step .refl (by simpa using dom_lt ha) hb e⟩
theorem whole_self (hi : i < 4) : wholeOf f i i = true := (whole_iff hi hi).mpr .refl
theorem whole_twice (hi : i < 4) (hj : j < 4) : wholeOf f i j = true ↔ Reach (domOf full f) (wholeOf f) i j := by
  constructor
  · intro h
    by_cases e : i ∈ domOf full f
    · exact Reach.step .refl e hj h
    · have := ((whole_iff hi hj).mp h).none fun k hk => dom_none hi e hk
      subst this; exact .refl
  · intro h
    exact (whole_iff hi hj).mpr (h.mono fun a b ha hb e => (whole_iff (dom_lt ha) hb).mp e)
theorem whole_wider {s e : Nat} (hs : s < 4) (he : e < 4) (hw : wholeOf f s e = true) (hi : i < 4) (hj : j < 4) :
    wholeOf f i j = true ↔ Reach (domOf full f) (fun a b => f a b || (a == s && b == e)) i j := by
  constructor
  · intro h
    exact ((whole_dom hi hj).mp h).mono fun a b ha hb q => Reach.step .refl ha hb (by simp [q])
  · intro h
    refine (whole_iff hi hj).mpr (h.mono fun a b ha hb q => ?_)
    rcases Bool.or_eq_true_iff.mp q with q | q
    · exact Reach.step .refl (by simpa using dom_lt ha) hb q
    · obtain ⟨q1, q2⟩ := Bool.and_eq_true_iff.mp q
      have q1 : a = s := by simpa using q1
      have q2 : b = e := by simpa using q2
      subst q1; subst q2
      exact (whole_iff hs he).mp hw
theorem whole_out (hi : i < 4) (hn : ∀ k, k < 4 → f i k = false) (hj : j < 4) : wholeOf f i j = (i == j) := by
  rw [Bool.eq_iff_iff, whole_iff hi hj, beq_iff_eq]
  exact ⟨fun h => h.none hn, fun h => h ▸ .refl⟩
end
theorem nxt_range {ns : List Int} {k many : Int} (h : 0 < many) : 0 ≤ nxt ns k many ∧ nxt ns k many < many := by
  unfold nxt
  split
  · exact ⟨Int.fmod_nonneg_of_pos _ h, Int.fmod_lt_of_pos _ h⟩
  · exact ⟨Int.fmod_nonneg_of_pos _ h, Int.fmod_lt_of_pos _ h⟩
noncomputable def drawn (ns : List Int) (t : Nat) : Nat × Nat := ((nxt ns (2 + 2 * t) 4).toNat, (nxt ns (3 + 2 * t) 4).toNat)
noncomputable def arr (ns : List Int) : Nat → List (Nat × Nat)
  | 0 => []
  | t + 1 => if drawn ns t ∈ arr ns t then arr ns t else arr ns t ++ [drawn ns t]
theorem drawn_lt {ns : List Int} {t : Nat} : (drawn ns t).1 < 4 ∧ (drawn ns t).2 < 4 := by
  have h1 := nxt_range (ns := ns) (k := 2 + 2 * t) (many := 4) (by decide)
  have h2 := nxt_range (ns := ns) (k := 3 + 2 * t) (many := 4) (by decide)
  unfold drawn
  constructor <;> (simp only; lia)
theorem arr_lt {ns : List Int} : ∀ {t : Nat} {p : Nat × Nat}, p ∈ arr ns t → p.1 < 4 ∧ p.2 < 4
  | 0, _, h => by cases h
  | t + 1, p, h => by
    unfold arr at h
    split at h
    · exact arr_lt h
    · rcases List.mem_append.mp h with q | q
      · exact arr_lt q
      · rw [List.mem_singleton.mp q]; exact drawn_lt
theorem arr_len {ns : List Int} : ∀ {t : Nat}, (arr ns t).length ≤ t
  | 0 => Nat.le_refl _
  | t + 1 => by
    unfold arr
    have := arr_len (ns := ns) (t := t)
    split
    · lia
    · rw [List.length_append, List.length_singleton]; lia
theorem arr_out {ns : List Int} {t : Nat} (h : drawn ns t ∉ arr ns t) : arr ns (t + 1) = arr ns t ++ [drawn ns t] := by
  show (if _ then _ else _) = _
  exact if_neg h
theorem arr_in {ns : List Int} {t : Nat} (h : drawn ns t ∈ arr ns t) : arr ns (t + 1) = arr ns t := by
  show (if _ then _ else _) = _
  exact if_pos h
theorem relN_refl {a : Addr} {d : V} : ∀ (ε : Env1), RelN (FrzW a d) ε ε
  | [] => .nil
  | (_, _) :: r => .cons (.same _) (relN_refl r)
theorem cAll.mono {C : Cx} {d : Nat} {sc : Scope} {ε : Env1} {μ : Mem} {op : BoolOp} {es : List Expr} {kb kb' : Bool → Mem → Prop} (h : cAll C d sc ε μ op es kb) (hk : ∀ b m, kb b m → kb' b m) : cAll C d sc ε μ op es kb' := fun A env F Z s a b c e =>
  wpBot (h A env F Z s a b c e) fun _ _ ⟨F', μ', q, r1, r2⟩ => ⟨F', μ', hk _ _ q, r1, r2⟩
theorem done_gN {dom : List Nat} {ks : Nat → List Key} : Done (.dict (dom.map fun i => (nmK i, W.v (V.set (ks i))))) (gV nmK dom ks) := by
  refine .dict ?_
  have := frozenD_map (dom.map fun i => (nmK i, V.set (ks i)))
  rw [List.map_map] at this
  exact this
theorem done_told {dom : List Nat} {f : Nat → Nat → Bool} : Done (.dict ((dom.map nmK).map fun key => (key, W.v (V.list (((pick (f (idxOf key))).map nm).map .str))))) (toldV dom f) := by
  refine .dict ?_
  have := frozenD_map (dom.map fun i => (nmK i, V.list (((pick (f i)).map nm).map .str)))
  rw [List.map_map] at this
  rw [List.map_map]
  have e : ((fun key => (key, W.v (V.list (((pick (f (idxOf key))).map nm).map .str)))) ∘ nmK) = ((fun p : Key × V => (p.1, W.v p.2)) ∘ fun i => (nmK i, V.list (((pick (f i)).map nm).map .str))) := by
    funext i
    simp only [Function.comp, idxOf_nm]
  rw [e]
  exact this
theorem sh_told {f : Nat → Bool} : SeqAt.shaped (toD (.list (((pick f).map nm).map .str))) = true := sh_strs fun x hx => by
  (refine el12 (List.mem_map.mp hx) fun j hj qq2 => ?_; subst qq2)
  exact sOk_nm (pick_mem.mp hj).1
theorem told_hits {dom : List Nat} {f : Nat → Nat → Bool} : ∀ (l : List Nat), (∀ i ∈ l, i ∈ dom) → VHits (dom.map fun i => (nmK i, V.list (((pick (f i)).map nm).map .str))) (l.map fun i => (nmK i, V.list (((pick (f i)).map nm).map .str))) true
  | [], _ => .nil
  | i :: l, h => by
    have r := VHits.hit (v := V.list (((pick (f i)).map nm).map .str)) (List.mem_map_of_mem (f := fun i => (nmK i, V.list (((pick (f i)).map nm).map .str))) (h i (.head _))) sh_told sh_told (told_hits l fun x hx => h x (.tail _ hx))
    rw [eqv_strs] at r
    simpa using r
theorem v_told_ne {C : Cx} {d : Nat} {μ : Mem} {k : PostW} {dom : List Nat} {f : Nat → Nat → Bool} (h : k (.v (.bool false)) μ) : cV2 C (d + 6) μ (.v (toldV dom f)) (.v (toldV dom f)) (compareOp .NotEq) k := by
  refine v_neDict (r := true) (fun p hp => ?_) (fun p hp => ?_) (told_hits dom fun _ q => q) ?_
  · (refine el12 (List.mem_map.mp hp) fun _ _ qq2 => ?_; subst qq2); rfl
  · (refine el12 (List.mem_map.mp hp) fun _ _ qq2 => ?_; subst qq2); rfl
  · simpa using h
theorem v_strs_ne {C : Cx} {d : Nat} {μ : Mem} {k : PostW} {f : Nat → Bool} (h : k (.v (.bool false)) μ) : cV2 C (d + 4) μ (.v (.list (((pick f).map nm).map .str))) (.v (.list (((List.range 4).filter f).map fun j => .str (nm j)))) (compareOp .NotEq) k := by
  have e : (((List.range 4).filter f).map fun j => V.str (nm j)) = ((pick f).map nm).map .str := by rw [List.map_map]; rfl
  rw [e]
  refine v_neD sh_told sh_told ?_
  rw [eqv_strs]; simpa using h
theorem fz_graph {C : Cx} {ad : Nat → Addr} {ks : Nat → List Key} {dom : List Nat} {D : Addr} {r : Mem} : Fz C (FrzW D (gV nmK dom ks)) (gsM ad ks dom.reverse ++ (D, O.dict (dom.map fun i => (nmK i, W.l (ad i)))) :: r) r := by
  have e : (dom.map fun i => (nmK i, W.l (ad i))) = dom.map fun i => (nmK i, if i ∈ dom.reverse then W.l (ad i) else W.v (V.set (ks i))) :=
    List.map_congr_left fun i hi => by rw [if_pos (List.mem_reverse.mpr hi)]
  rw [e]
  have f2 : Fz C (FrzW D (gV nmK dom ks)) ((D, O.dict (dom.map fun i => (nmK i, W.v (V.set (ks i))))) :: r) r := fz_obj (.head _) done_gN .here (FrzT.refl _)
  exact ((fz_gs dom.reverse).trans f2).imp fun w w' q => ⟨w, rfl, q⟩
noncomputable def tailIt : Nat → List It
  | 0 => []
  | 1 => [.N (nm 0)]
  | 2 => [.T (nw 1)]
  | _ => [.N (nm 2), .T (nw 3)]
theorem tailIt_len (q : Nat) : (tailIt q).length ≤ 2 := by
  unfold tailIt; split <;> simp
theorem tail_at {q : Nat} (h : q < 4) : [V.list [], V.list [nonT (Str.ofString "A")], V.list [V.str (Str.ofString "b")], V.list [nonT (Str.ofString "C"), V.str (Str.ofString "d")]][((q : Int)).toNat]? = some (.list ((tailIt q).map It.v)) := by
  rw [show Str.ofString "A" = nm 0 from by decide +kernel, show Str.ofString "C" = nm 2 from by decide +kernel, show Str.ofString "b" = nw 1 from by decide +kernel, show Str.ofString "d" = nw 3 from by decide +kernel]
  have : q = 0 ∨ q = 1 ∨ q = 2 ∨ q = 3 := by lia
  rcases this with rfl | rfl | rfl | rfl <;> rfl
theorem i_abcd {C : Cx} {d : Nat} {μ : Mem} {k : PostW} {i : Nat} (hi : i < 4) (h : k (.v (.str (nw i))) μ) : SubOk C μ (.v (.str (Str.ofString "abcd"))) ∧ cV2 C d μ (.v (.str (Str.ofString "abcd"))) (.v (.int i)) getItem k :=
  ⟨sub_str, v_item_str (c := 97 + i) (by lia) (by lia) (by rw [show ((i : Int)).toNat = i from rfl]; exact nw_cps hi) h⟩
noncomputable def extra (ns : List Int) (c : Int) (l : List (Nat × Nat)) (t : Nat) : List Pr := (List.range t).map fun u => ((l.getD u (0, 0)).1, It.N (nm (l.getD u (0, 0)).2) :: tailIt (nxt ns (c + u) 4).toNat)
theorem extra_len {ns : List Int} {c : Int} {l : List (Nat × Nat)} {t : Nat} : (extra ns c l t).length = t := by unfold extra; simp
theorem extra_succ {ns : List Int} {c : Int} {l : List (Nat × Nat)} {t x y q : Nat} (h : l[t]? = some (x, y)) (hq : nxt ns (c + t) 4 = q) : extra ns c l (t + 1) = extra ns c l t ++ [(x, It.N (nm y) :: tailIt q)] := by
  unfold extra
  rw [List.range_succ, List.map_append, List.map_singleton, hq, List.getD_eq_getElem?_getD, h]
  rfl
theorem done_prods {prods : List Pr} : Done (.list (prods.map fun p => W.v p.v)) (.list (prods.map Pr.v)) := by
  refine .list ?_
  have := frozen_map (prods.map Pr.v)
  rw [List.map_map] at this
  exact this
structure ProdsAre (prods : List Pr) (lt : Nat → Bool) (once : Nat → Nat → Bool) : Prop where
  ok : ∀ p ∈ prods, PrOk p
  hd : ∀ p ∈ prods, (p.1 < 4 ∧ lt p.1 = true ∧ p.2.head? = some (.T (nw p.1))) ∨ ∃ j, j < 4 ∧ once p.1 j = true ∧ p.2.head? = some (.N (nm j))
  l : ∀ i, i < 4 → lt i = true → ∃ p ∈ prods, p.1 = i ∧ p.2.head? = some (.T (nw i))
  a : ∀ i j, once i j = true → ∃ p ∈ prods, p.1 = i ∧ p.2.head? = some (.N (nm j))
  lt4 : ∀ i j, once i j = true → i < 4 ∧ j < 4
theorem prods_are {ns : List Int} {c : Int} {arrows : List (Nat × Nat)} {lt : Nat → Bool} (hal : ∀ p ∈ arrows, p.1 < 4 ∧ p.2 < 4) :
    ProdsAre (((pick lt).map fun i => (i, [It.T (nw i)])) ++ extra ns c arrows arrows.length) lt (fun i j => decide ((i, j) ∈ arrows)) := by
  have ex : ∀ p ∈ extra ns c arrows arrows.length, ∃ x y r, (x, y) ∈ arrows ∧ p = (x, It.N (nm y) :: r) ∧ r.length ≤ 2 := fun p hp => by
    (refine el12 (List.mem_map.mp hp) fun u hu qq2 => ?_; subst qq2)
    have hu : u < arrows.length := by simpa using hu
    have e : arrows.getD u (0, 0) = arrows[u] := by rw [List.getD_eq_getElem?_getD, List.getElem?_eq_getElem hu]; rfl
    exact ⟨_, _, _, by rw [e]; exact List.getElem_mem hu, rfl, tailIt_len _⟩
  refine ⟨fun p hp => ?_, fun p hp => ?_, fun i hi hl => ⟨_, List.mem_append_left _ (List.mem_map_of_mem (pick_mem.mpr ⟨hi, hl⟩)), rfl, rfl⟩, fun i j hij => ?_, fun i j hij => hal (i, j) (of_decide_eq_true hij)⟩
  · rcases List.mem_append.mp hp with q | q
    · (refine el12 (List.mem_map.mp q) fun i hi qq2 => ?_; subst qq2)
      have := (pick_mem.mp hi).1
      exact ⟨this, by simp, _, _, rfl, i, this, .inr rfl⟩
    · (refine el33 (ex p q) fun x y r hm qq4 hr => ?_; subst qq4)
      obtain ⟨h1, h2⟩ := hal _ hm
      exact ⟨h1, by simp; lia, _, _, rfl, y, h2, .inl rfl⟩
  · rcases List.mem_append.mp hp with q | q
    · (refine el12 (List.mem_map.mp q) fun i hi qq2 => ?_; subst qq2)
      exact .inl ⟨(pick_mem.mp hi).1, (pick_mem.mp hi).2, rfl⟩
    · (refine el33 (ex p q) fun x y r hm qq4 hr => ?_; subst qq4)
      exact .inr ⟨y, (hal _ hm).2, decide_eq_true hm, rfl⟩
  · have hm := of_decide_eq_true hij
    obtain ⟨u, hu⟩ := List.mem_iff_getElem?.mp hm
    have hul : u < arrows.length := (List.getElem?_eq_some_iff.mp hu).1
    refine ⟨_, List.mem_append_right _ (List.mem_map_of_mem (List.mem_range.mpr hul)), ?_, ?_⟩
    · show (arrows.getD u (0, 0)).1 = i
      rw [List.getD_eq_getElem?_getD, hu]; rfl
    · show some (It.N (nm (arrows.getD u (0, 0)).2)) = _
      rw [List.getD_eq_getElem?_getD, hu]; rfl
section
variable {prods : List Pr} {lt : Nat → Bool} {once : Nat → Nat → Bool}
theorem ProdsAre.ne (F : ProdsAre prods lt once) (h : lt 0 = true) : prods ≠ [] := fun q => by
  refine el12 (F.l 0 (by decide) h) fun p hp _ => ?_
  rw [q] at hp; cases hp
theorem ProdsAre.immC (F : ProdsAre prods lt once) {i j : Nat} (hj : j < 4) : immC prods i j = (i == j || once i j) := by
  unfold Mine.immC
  congr 1
  rw [Bool.eq_iff_iff, List.any_eq_true]
  constructor
  · rintro ⟨p, hp, e⟩
    obtain ⟨e1, e2⟩ := Bool.and_eq_true_iff.mp e
    have e1 : p.1 = i := by simpa using e1
    have e2 : p.2.head? = some (It.N (nm j)) := by simpa using e2
    rcases F.hd p hp with ⟨_, _, q⟩ | ⟨j', _, o, q⟩
    · rw [e2] at q; cases q
    · rw [e2] at q
      have : j = j' := nm_inj (by injection q with q; injection q)
      rw [this, ← e1]; exact o
  · intro o
    refine el13 (F.a i j o) fun p hp e1 e2 => ?_
    exact ⟨p, hp, by simp [e1, e2]⟩
theorem ProdsAre.immW (F : ProdsAre prods lt once) {i j : Nat} (hi : i < 4) : immW prods i j = (i == j && lt i) := by
  unfold Mine.immW
  rw [Bool.eq_iff_iff, List.any_eq_true]
  constructor
  · rintro ⟨p, hp, e⟩
    obtain ⟨e1, e2⟩ := Bool.and_eq_true_iff.mp e
    have e1 : p.1 = i := by simpa using e1
    have e2 : p.2.head? = some (It.T (nw j)) := by simpa using e2
    rcases F.hd p hp with ⟨_, hl, q⟩ | ⟨j', _, o, q⟩
    · rw [e2] at q
      have : j = p.1 := nwK_inj (by unfold nwK; injection q with q; injection q with q; rw [q])
      rw [e1] at hl this
      simp [this, hl]
    · rw [e2] at q; cases q
  · intro o
    obtain ⟨o1, o2⟩ := Bool.and_eq_true_iff.mp o
    have : i = j := by simpa using o1
    subst this
    refine el13 (F.l i hi o2) fun p hp e1 e2 => ?_
    exact ⟨p, hp, by simp [e1, e2]⟩
theorem ProdsAre.cat (F : ProdsAre prods lt once) {cats : List Nat} (hm : ∀ i, i ∈ cats ↔ ∃ p ∈ prods, p.1 = i) {i : Nat} (hi : i < 4) : i ∈ cats ↔ lt i = true ∨ ∃ j, once i j = true := by
  rw [hm i]
  constructor
  · rintro ⟨p, hp, rfl⟩
    rcases F.hd p hp with ⟨_, hl, _⟩ | ⟨j', _, o, _⟩
    · exact .inl hl
    · exact .inr ⟨j', o⟩
  · rintro (hl | ⟨j, o⟩)
    · refine el13 (F.l i hi hl) fun p hp e _ => ?_
      exact ⟨p, hp, e⟩
    · refine el13 (F.a i j o) fun p hp e _ => ?_
      exact ⟨p, hp, e⟩
theorem ProdsAre.reach (F : ProdsAre prods lt once) {cats : List Nat} (hm : ∀ i, i ∈ cats ↔ ∃ p ∈ prods, p.1 = i) {i j : Nat} (hi : i ∈ cats) (hj : j < 4) : wholeOf once i j = true ↔ Reach cats (Mine.immC prods) i j := by
  have hc4 : ∀ i ∈ cats, i < 4 := fun i hi => by refine el12 ((hm i).mp hi) fun p hp e => ?_; exact e ▸ (F.ok p hp).1
  rw [whole_iff (hc4 i hi) hj]
  constructor
  · intro q
    refine q.mono fun a b ha hb o => Reach.step .refl ((F.cat hm (by simpa using ha)).mpr (.inr ⟨b, o⟩)) hb ?_
    rw [F.immC hb, o, Bool.or_true]
  · intro q
    refine q.mono fun a b ha hb o => ?_
    rw [F.immC hb] at o
    rcases Bool.or_eq_true_iff.mp o with o | o
    · have : a = b := by simpa using o
      subst this; exact .refl
    · exact Reach.step .refl (by simpa using hc4 a ha) hb o
end
theorem tupLt_asymm {a b : List Str} (h1 : tupLt a b = true) (h2 : tupLt b a = true) : False := by
  have h3 := tupLt_trans h1 h2
  rw [tupLt_irr] at h3; cases h3
theorem tupLt_nm {i j : Nat} (h : i < j) : tupLt [tN, nm i] [tN, nm j] = true := by
  have hne : nm i ≠ nm j := fun q => by have := nm_inj q; lia
  unfold tupLt lexRes
  rw [if_pos rfl]
  unfold lexRes
  rw [if_neg hne, cps_tri hne]
  have := nm_sorted h
  simp only [decide_eq_true_eq, Bool.not_eq_true', decide_eq_false_iff_not]
  exact this
theorem sorted_tK {S : List Key} {f : Nat → Bool} (h : SetIs tK S f) {R : List (List Str)} (hp : (R.map Key.t).Perm S) (hs : R.Pairwise fun a b => tupLt a b = true) : R = (pick f).map fun j => [tN, nm j] := by
  have hp2 : (((pick f).map fun j => [tN, nm j]).map Key.t).Perm S := by
    rw [List.map_map]; exact (h.perm naming_t).symm
  have hpR : R.Perm ((pick f).map fun j => [tN, nm j]) := by
    have hq := hp.trans hp2.symm
    have hinj : ∀ (xs ys : List (List Str)), (xs.map Key.t).Perm (ys.map Key.t) → xs.Perm ys := fun xs ys q => by
      have := q.map (fun k => match k with | Key.t x => x | _ => [])
      rw [List.map_map, List.map_map] at this
      have e : ((fun k => match k with | Key.t x => x | _ => []) ∘ Key.t) = (fun x : List Str => x) := rfl
      rw [e, List.map_id', List.map_id'] at this
      exact this
    exact hinj _ _ hq
  refine hpR.eq_of_pairwise (le := fun a b => tupLt a b = true) (fun a b _ _ h1 h2 => (tupLt_asymm h1 h2).elim) hs ?_
  rw [List.pairwise_map]
  exact (pick_pw f).imp fun hlt => tupLt_nm hlt
theorem v_tups_ne {C : Cx} {d : Nat} {μ : Mem} {k : PostW} {f : Nat → Bool} (h : k (.v (.bool false)) μ) : cV2 C (d + 4) μ (.v (.list (((pick f).map fun j => [tN, nm j]).map fun xs => .tup (xs.map .str)))) (.v (.list (((List.range 4).filter f).map fun j => .tup [.str tN, .str (nm j)]))) (compareOp .NotEq) k := by
  have e : (((List.range 4).filter f).map fun j => V.tup [.str tN, .str (nm j)]) = ((pick f).map fun j => [tN, nm j]).map fun xs => .tup (xs.map .str) := by rw [List.map_map]; rfl
  rw [e]
  have sh : SeqAt.shaped (toD (.list (((pick f).map fun j => [tN, nm j]).map fun xs => .tup (xs.map .str)))) = true := sh_stups fun x hx y hy => by
    (refine el12 (List.mem_map.mp hx) fun j hj qq2 => ?_; subst qq2)
    rcases List.mem_cons.mp hy with rfl | hy
    · exact sOk_N
    · cases List.mem_singleton.mp hy; exact sOk_nm (pick_mem.mp hj).1
  refine v_neD sh sh ?_
  rw [eqv_stups]; simpa using h
noncomputable def pairV (p : Nat × Nat) : V := .tup [.int p.1, .int p.2]
theorem eqv_pairV (p q : Nat × Nat) : PyData.eqv (toD (pairV p)) (toD (pairV q)) = decide (p = q) := by
  refine (eqv_pair _ _ _ _).trans ?_
  obtain ⟨a, b⟩ := p
  obtain ⟨c, d⟩ := q
  simp only [Prod.mk.injEq, Int.ofNat_inj]
theorem sh_pairV (p : Nat × Nat) : SeqAt.shaped (toD (pairV p)) = true := sh_pair _ _
theorem any_pairV {l : List (Nat × Nat)} {p : Nat × Nat} : ((l.map pairV).any fun y => PyData.eqv (toD y) (toD (pairV p))) = decide (p ∈ l) := by
  rw [List.any_map, show ((fun y => PyData.eqv (toD y) (toD (pairV p))) ∘ pairV) = fun x => decide (x = p) from funext fun x => eqv_pairV x p, Bool.eq_iff_iff, List.any_eq_true, decide_eq_true_iff]
  exact ⟨fun ⟨x, hx, e⟩ => (of_decide_eq_true e) ▸ hx, fun q => ⟨p, q, by simp⟩⟩
theorem done_pairs {l : List (Nat × Nat)} : Done (.list (l.map fun p => W.v (pairV p))) (.list (l.map pairV)) := by
  refine .list ?_
  have := frozen_map (l.map pairV)
  rw [List.map_map] at this
  exact this
theorem any_true {f : Nat → Bool} : (((List.range 4).map fun j => V.bool (f j)).any fun y => PyData.eqv (toD y) (toD (.bool true))) = (List.range 4).any f := by
  rw [List.any_map]
  refine List.any_congr rfl fun j => ?_
  show PyData.eqv (toD (.bool (f j))) (toD (.bool true)) = f j
  rw [eqv_bool]; cases f j <;> rfl
noncomputable def hand (ns : List Int) (k : Int) : O := .list [.v (.list (ns.map .int)), .v (.int k)]
section
variable {C : Cx} (h : C.K = Mine.hk.heap_1 C.P) (hg : C.gen = false)
include h
theorem next_at {μ μ' : Mem} {a : Addr} {ns : List Int} {kk many : Int} {k : PostW} (hk0 : 0 ≤ kk) (hk1 : kk < 1000) (hmany : many ≠ 0) (hl : ns.length ≤ 100)
    (hU : UpdAt a (hand ns kk) (hand ns (kk + 1)) μ μ') (hk : k (.v (.int (nxt ns kk many))) μ') : cCall C 3 μ (.ref 354) [.l a, .v (.int many)] [] k := law_next_spec h hk0 hk1 hmany hl hU hk
include hg
local macro_rules | `(tactic| walk_at "cons") => `(tactic| ((with_reducible refine cS_let ?_); intro $(Lean.mkIdent (Lean.Name.mkSimple "zε")):ident $(Lean.mkIdent (Lean.Name.mkSimple "zμ")):ident))
theorem law_spec {μ : Mem} {a : Addr} {items : Array Value} {ns₀ : List Int} {k : PostW} (hl : C.B.IsList a items) (hv : Vals C.P (fun _ => none) (ns₀.map .int) items.toList) (hz : ns₀.length ≤ 63) (hT : ∀ P ∈ C.tabs, (P, O.tab) ∈ μ)
    (hk : ∀ μ', (∀ P ∈ C.tabs, (P, O.tab) ∈ μ') → k (.v (.bool true)) μ') : cCall C 18 μ (.ref 369) [.v (.glob (.ref a))] [] k := by
  apply cCall_enter [("script", .v (.glob (.ref a)))]
  walk_at "enter"
  case hbind =>
    intro F s vs kvs X hv hkv
    refine WsAt.i1 hv fun u h1 => ?_
    refine KwAt.i_nil hkv ?_
    refine ⟨_, BindsTo.of_eq rfl, ?_⟩; exact .cons h1 .nil
  walk_at "ss"
  refine cE_listM ?_
  walk_at "ss"
  refine ⟨a, items, ns₀.map .int, rfl, hl, hv, by have := hv.toList; rw [Array.length_toList, List.length_map] at this; lia, ?_⟩
  walk_at "ss"
  refine ⟨30, rfl, ?_⟩
  walk_at "ss"
  refine ⟨by simp, fun hd => ?_⟩
  refine gen (ns₀.take 30) fun ns hns => ?_
  have hns30 : ns.length ≤ 100 := by rw [hns, List.length_take]; lia
  rw [← List.map_take, ← hns, show O.list [W.v (V.list (ns.map .int)), W.v (V.int 0)] = hand ns 0 from rfl]
  try clear hns hl hv
  walk_at "ss"
  refine (next_at (ns := ns) (kk := 0) (many := 9) h (by decide) (by decide) (by decide) hns30 .here ?_).deep (by decide)
  obtain ⟨m, hm⟩ : ∃ m : Nat, nxt ns 0 9 = m := ⟨(nxt ns 0 9).toNat, by have := nxt_range (ns := ns) (k := 0) (many := 9) (by decide); lia⟩
  have hm9 : m < 9 := by have := nxt_range (ns := ns) (k := 0) (many := 9) (by decide); lia
  rw [hm]
  walk_at "ss"
  refine (next_at (ns := ns) (kk := 1) (many := 2) h (by decide) (by decide) (by decide) hns30 .here ?_).deep (by decide)
  refine gen ((nxt ns 1 2 == 0)) fun full hfull => ?_
  (walk_at "s"); (walk_at "s"); (walk_at "s")
  rw [← hfull]
  walk_at "ss"
  refine cE_listM ?_
  walk_at "ss"
  refine ⟨by simp, fun ar => ?_⟩
  walk_at "ss"
  refine for_is (it_rng (by decide) (by decide) (by lia) (by lia)) ?_
  refine fr000 (at_rng (n := m)) (fun t ε' μ' => ε' = ([("arrows", W.l ar), ("full", W.v (.bool full)), ("many", W.v (.int m)), ("hand", W.l hd), ("script", W.v (.glob (.ref a)))] : List (Str × W)) ∧ μ' = (ar, .list ((arr ns t).map fun p => W.v (pairV p))) :: (hd, hand ns (2 + 2 * t)) :: μ) (fun _ _ _ => rfl) (⟨rfl, rfl⟩) (fun J hJ t _ ht => ?_) ?_
  · have ht' : t < 9 := by lia
    have e0 : nxt ns (2 + 2 * (t : Int)) 4 = ((drawn ns t).1 : Int) := by
      have h1 := nxt_range (ns := ns) (k := 2 + 2 * t) (many := 4) (by decide)
      unfold drawn; simp only; lia
    have e1 : nxt ns (2 + 2 * (t : Int) + 1) 4 = ((drawn ns t).2 : Int) := by
      have h1 := nxt_range (ns := ns) (k := 3 + 2 * t) (many := 4) (by decide)
      have e : 2 + 2 * (t : Int) + 1 = 3 + 2 * t := by lia
      unfold drawn; rw [e]; simp only; lia
    walk_at "ss"
    refine cE_tuple ?_
    walk_at "ss"
    refine (next_at (ns := ns) (kk := 2 + 2 * t) (many := 4) h (by lia) (by lia) (by decide) hns30 (.there .here) ?_).deep (by decide)
    walk_at "ss"
    refine (next_at (ns := ns) (kk := 2 + 2 * t + 1) (many := 4) h (by lia) (by lia) (by decide) hns30 (.there .here) ?_).deep (by decide)
    rw [e0, e1]
    walk_at "ss"
    refine ⟨_, rfl, by simp, ?_⟩
    have e2 : (2 + 2 * (t : Int) + 1 + 1) = 2 + 2 * ((t + 1 : Nat) : Int) := by lia
    rw [e2]
    walk_at "ss"
    refine v_notInL (x := .l ar) (vs := (arr ns t).map pairV) (a := pairV (drawn ns t)) (by rw [List.map_map]; exact .head _) (cl_toDs fun p _ => sh_pairV p) (sh_pairV _) ?_
    rw [any_pairV]
    walk_at "ss"
    refine ⟨fun hb => ?_, fun hb => ?_⟩
    · have hno : drawn ns t ∉ arr ns t := by simpa using hb
      walk_at "ss"
      refine m_list (.head _) PySem.F.slot_list_append rfl ?_
      walk_at "ss"
      refine v_append .here (by rw [List.length_map]; have := arr_len (ns := ns) (t := t); lia) ?_
      walk_at "ss"
      refine forK_next hJ (ε' := [("arrows", W.l ar), ("full", W.v (.bool full)), ("many", W.v (.int m)), ("hand", W.l hd), ("script", W.v (.glob (.ref a)))]) ⟨rfl, rfl, rfl, rfl, rfl, trivial⟩ (List.Sublist.refl _) ⟨rfl, ?_⟩
      rw [arr_out hno, List.map_append]; rfl
    · have hin : drawn ns t ∈ arr ns t := by simpa using hb
      walk_at "ss"
      refine forK_next hJ (ε' := [("arrows", W.l ar), ("full", W.v (.bool full)), ("many", W.v (.int m)), ("hand", W.l hd), ("script", W.v (.glob (.ref a)))]) ⟨rfl, rfl, rfl, rfl, rfl, trivial⟩ (List.Sublist.refl _) ⟨rfl, ?_⟩
      rw [arr_in hin]
  have erl : (rngV 0 (m : Int)).length = m := by unfold rngV; simp
  rw [erl]
  refine seqK_next (cS.fz (fz_obj (a := ar) (d := .list ((arr ns m).map pairV)) (.head _) done_pairs .here (FrzT.refl _)) (.cons .put (.cons (.same _) (.cons (.same _) (.cons (.same _) (.cons (.same _) .nil))))) ?_)
  have hal : ∀ p ∈ arr ns m, p.1 < 4 ∧ p.2 < 4 := fun p hp => arr_lt hp
  have hal2 : (arr ns m).length ≤ 8 := by have := arr_len (ns := ns) (t := m); lia
  refine gen (arr ns m) fun arrows harr => ?_
  rw [← harr] at hal hal2 ⊢
  try clear harr
  refine gen (α := Nat → Nat → Bool) (fun i j => decide ((i, j) ∈ arrows)) fun once honce => ?_
  walk_at "ss"
  refine ⟨4, rfl, by decide, fun i => rowV (once i), fun i hi acc L => ?_, ?_⟩
  · walk_at "ss"
    refine ⟨4, rfl, by decide, fun j => .bool (once i j), fun j hj acc L => ?_, ?_⟩
    · walk_at "ss"
      refine cE_tuple ?_
      walk_at "ss"
      refine ⟨_, rfl, by simp, ?_⟩
      walk_at "ss"
      refine v_inL (x := .v (.list (arrows.map pairV))) (vs := arrows.map pairV) (a := pairV (i, j)) rfl (cl_toDs fun p _ => sh_pairV p) (sh_pairV _) ?_
      rw [any_pairV]
      walk_at "ss"
      rw [honce]
      exact ⟨rfl, rfl⟩
    · exact ⟨rfl, rfl⟩
  walk_at "ss"
  refine cS1_listR0M rfl (by kernel_rfl) rfl (by intros; rfl) (by walk_at "kind") (sw_at rfl) (by walk_at "kind") ?_
  walk_at "ss"
  refine ⟨4, rfl, by decide, fun i => rowV (two0 once i), fun i hi acc L => ?_, fun tw => ?_⟩
  · walk_at "ss"
    refine ⟨4, rfl, by decide, fun j => .bool (two0 once i j), fun j hj acc L => ?_, ?_⟩
    · walk_at "ss"
      have eij : ((i : Int) == (j : Int)) = (i == j) := by rw [Bool.eq_iff_iff, beq_iff_eq, beq_iff_eq]; exact Int.ofNat_inj
      rw [eij]
      refine ⟨fun e => ?_, fun e => ?_⟩
      · walk_at "ss"
        refine i_mat hi ?_
        walk_at "ss"
        refine i_row hj ?_
        exact ⟨by simp [two0, e], rfl⟩
      · exact ⟨by simp [two0, e], rfl⟩
    · exact ⟨rfl, rfl⟩
  refine seqK_next (cS.fz (fz_obj (a := tw) (d := matV (two0 once)) (.head _) (.list (frozen_map _)) .here (FrzT.refl _)) (.cons .put (relN_refl _)) ?_)
  walk_at "ss"
  refine (law_behind_spec h (f := two0 once) (g := two0 once) ?_).deep (by decide)
  walk_at "ss"
  refine (law_behind_spec h (f := behind (two0 once) (two0 once)) (g := behind (two0 once) (two0 once)) ?_).deep (by decide)
  refine gen (α := Nat → Nat → Bool) (wholeOf once) fun whole hwhole => ?_
  rw [show behind (behind (two0 once) (two0 once)) (behind (two0 once) (two0 once)) = whole from hwhole.symm]
  walk_at "ss"
  refine cE_dict0 fun D => ?_
  refine seqK_next (cS.weak (ε' := [("graph", W.l D), ("whole", W.v (matV whole)), ("once", W.v (matV once)), ("arrows", W.v (.list (arrows.map pairV))), ("full", W.v (.bool full)), ("hand", W.l hd)]) (look_sub ⟨rfl, rfl, rfl, rfl, rfl, rfl, trivial⟩) (List.Sublist.refl _) ?_)
  refine gen (α := Nat → Bool) (fun i => full || (List.range 4).any (once i)) fun inG hinG => ?_
  walk_at "ss"
  refine for_is (it_rng (by decide) (by decide) (by decide) (by decide)) ?_
  refine fr101 (at_rng (n := 4)) (fun t ε' μ' => ε' = ([("graph", W.l D), ("whole", W.v (matV whole)), ("once", W.v (matV once)), ("arrows", W.v (.list (arrows.map pairV))), ("full", W.v (.bool full)), ("hand", W.l hd)] : List (Str × W)) ∧ ∃ gk, μ' = (D, O.dict (((List.range t).filter inG).map fun i => (nmK i, W.v (V.set (gk i))))) :: (hd, hand ns (2 + 2 * m)) :: μ ∧ ∀ i ∈ (List.range t).filter inG, SetIs nmK (gk i) (once i)) (fun _ _ _ => rfl) (⟨rfl, fun _ => [], rfl, by simp⟩) (fun J hJ t _ gk ht4 hgk => ?_) (fun gk hgk => ?_)
  · have hrs : (List.range (t + 1)).filter inG = (List.range t).filter inG ++ (if inG t = true then [t] else []) := by
      rw [List.range_succ, List.filter_append]
      congr 1
      by_cases e : inG t = true <;> simp [e]
    walk_at "ss"
    refine cAll.mono (kb := fun b m' => b = inG t ∧ m' = (D, O.dict (((List.range t).filter inG).map fun i => (nmK i, W.v (V.set (gk i))))) :: (hd, hand ns (2 + 2 * m)) :: μ) ?_ ?_
    · refine cAll_orK ?_
      refine cT_valK ?_ (by intros; rfl)
      walk_at "ss"
      refine truthy_bool' ⟨fun ef => ?_, fun ef => ⟨by rw [hinG]; simp [ef], rfl⟩⟩
      refine cAll_orK ?_
      walk_at "ss"
      refine i_mat ht4 ?_
      refine v_inL (x := .v (rowV (once t))) (vs := (List.range 4).map fun j => .bool (once t j)) (a := .bool true) rfl (cl_toDs fun j _ => sh_bool _) (sh_bool _) ?_
      rw [any_true]
      walk_at "ss"
      exact ⟨fun eb => cAll_or_nil ⟨by rw [hinG]; simp only [ef, eb, Bool.or_self], rfl⟩, fun eb => ⟨by rw [hinG]; simp only [eb, Bool.or_true], rfl⟩⟩
    · rintro b _ ⟨rfl, rfl⟩
      refine ⟨fun hb => ?_, fun hb => ?_⟩
      · walk_at "ss"
        refine ⟨4, rfl, by decide, once t, fun j => .str (nm j), fun j hj acc L => ?_, ?_⟩
        · refine cT_valK ?_ (by intros; rfl)
          walk_at "ss"
          refine i_mat ht4 ?_
          walk_at "ss"
          refine i_row hj ?_
          refine truthy_bool' ⟨rfl, rfl, fun _ => ?_⟩
          walk_at "ss"
          refine i_ABCD hj ?_
          exact ⟨rfl, rfl⟩
        walk_at "ss"
        refine c_setList (L := (pick (once t)).map nmK) (κ := 0) (by rw [List.map_map]; rfl) (fun x hx => by (refine el12 (List.mem_map.mp hx) fun j _ qq2 => ?_; subst qq2); rfl) (by decide) (by rw [List.length_map]; have := pick_len (once t); lia) fun s ks hkn hkm => ?_
        have hS : SetIs nmK ks (once t) := ⟨hkn, fun key => by
          rw [hkm key, List.mem_map]
          exact ⟨fun ⟨j, hj, e⟩ => ⟨j, (pick_mem.mp hj).1, (pick_mem.mp hj).2, e.symm⟩, fun ⟨j, a, b, e⟩ => ⟨j, pick_mem.mpr ⟨a, b⟩, e.symm⟩⟩⟩
        have hno : nmK t ∉ (((List.range t).filter inG).map fun i => (nmK i, W.v (V.set (gk i)))).map (·.1) := by
          rw [List.map_map]
          intro q
          refine el12 (List.mem_map.mp q) fun x hx e => ?_
          have hxt : x = t := nmK_inj e
          have := (List.mem_filter.mp hx).1
          rw [List.mem_range] at this
          lia
        walk_at "ss"
        refine i_ABCD ht4 ?_
        refine si_dict (key := nmK t) (.there .here) (fun p hp => ?_) (by show (0 : Nat) ≠ 2; decide) ?_ ?_
        · (refine el12 (List.mem_map.mp hp) fun x _ qq2 => ?_; subst qq2); rfl
        · rw [List.length_map]
          have := List.length_filter_le inG (List.range t)
          rw [List.length_range] at this
          lia
        rw [kput_new hno]
        refine seqK_next (cS.fz (fz_obj (o := .set ks) (a := s) (d := .set ks) (.head _) .set .here (.cons (.dict (FrzN.snoc _)) (FrzT.refl _))) (relN_refl _) ?_)
        walk_at "ss"
        refine forK_next hJ (ε' := [("graph", W.l D), ("whole", W.v (matV whole)), ("once", W.v (matV once)), ("arrows", W.v (.list (arrows.map pairV))), ("full", W.v (.bool full)), ("hand", W.l hd)]) ⟨rfl, rfl, rfl, rfl, rfl, rfl, trivial⟩ (List.Sublist.refl _) ⟨rfl, fun x => if x = t then ks else gk x, ?_, fun x hx => ?_⟩
        · have e1 : (((List.range t).filter inG).map fun x => (nmK x, W.v (V.set (if x = t then ks else gk x)))) = ((List.range t).filter inG).map fun x => (nmK x, W.v (V.set (gk x))) := List.map_congr_left fun x hx => by
            have : x ≠ t := fun q => by
              have := (List.mem_filter.mp hx).1
              rw [List.mem_range] at this
              lia
            simp [this]
          rw [hrs, if_pos hb, List.map_append, e1]; simp
        · rw [hrs, if_pos hb] at hx
          rcases List.mem_append.mp hx with q | q
          · have : x ≠ t := fun e => by
              have := (List.mem_filter.mp q).1
              rw [List.mem_range] at this
              lia
            simp only [this, if_false]
            exact hgk x q
          · rw [List.mem_singleton.mp q]
            simp only [if_true]
            exact hS
      · walk_at "ss"
        refine forK_next hJ (ε' := [("graph", W.l D), ("whole", W.v (matV whole)), ("once", W.v (matV once)), ("arrows", W.v (.list (arrows.map pairV))), ("full", W.v (.bool full)), ("hand", W.l hd)]) ⟨rfl, rfl, rfl, rfl, rfl, rfl, trivial⟩ (List.Sublist.refl _) ⟨rfl, gk, ?_, ?_⟩
        · rw [hrs, if_neg (by rw [hb]; decide), List.append_nil]
        · rw [hrs, if_neg (by rw [hb]; decide), List.append_nil]; exact hgk
  have er4 : (rngV 0 4).length = 4 := rfl
  rw [er4] at hgk ⊢
  refine gen (domOf full once) fun dom hdom => ?_
  rw [show (List.range 4).filter inG = dom by rw [hdom, hinG]; rfl] at hgk ⊢
  have hdn : dom.Nodup := by rw [hdom]; exact pick_nodup _
  have hd4 : ∀ i ∈ dom, i < 4 := fun i hi => by rw [hdom] at hi; exact dom_lt hi
  have hdl : dom.length ≤ 4 := fs_len hdn hd4
  refine seqK_next (cS.fz (fz_obj (a := D) (d := gV nmK dom gk) (.head _) done_gN .here (FrzT.refl _)) (.cons .put (relN_refl _)) ?_)
  refine cS.weak (ε' := [("graph", W.v (gV nmK dom gk)), ("whole", W.v (matV whole)), ("once", W.v (matV once)), ("arrows", W.v (.list (arrows.map pairV))), ("hand", W.l hd)]) (look_sub ⟨rfl, rfl, rfl, rfl, rfl, trivial⟩) (List.Sublist.refl _) ?_
  try clear hfull
  walk_at "ss"
  refine cS1_dictVM rfl (by kernel_rfl) rfl (by intros; rfl) (sw_at rfl) (by walk_at "kind") ?_
  walk_at "ss"
  refine ⟨_, it_dict, fun items e => ⟨dom.map nmK, fun key => .list (((pick (whole (idxOf key))).map nm).map .str), 0, ?_, ?_, ?_, by decide, ?_, fun key hkey => ?_, fun du => ?_⟩⟩
  · rw [e, List.map_map, List.map_map]; rfl
  · exact map_nodup (fun _ _ _ _ q => nmK_inj q) hdn
  · intro x hx
    (refine el12 (List.mem_map.mp hx) fun i _ qq2 => ?_; subst qq2)
    rfl
  · rw [List.length_map]; lia
  · (refine el12 (List.mem_map.mp hkey) fun i hi qq2 => ?_; subst qq2)
    have hi4 := hd4 i hi
    refine ⟨_, tgt_name (by walk_at "kind"), fun acc D => ?_⟩
    walk_at "ss"
    refine ⟨rfl, ?_⟩
    walk_at "ss"
    refine ⟨4, rfl, by decide, whole i, fun j => .str (nm j), fun j hj acc L => ?_, ?_⟩
    · refine cT_valK ?_ (by intros; rfl)
      walk_at "ss"
      refine m_index ?_
      walk_at "ss"
      refine c_ABCD hi4 ?_
      refine i_mat hi4 ?_
      walk_at "ss"
      refine i_row hj ?_
      refine truthy_bool' ⟨rfl, rfl, fun _ => ?_⟩
      walk_at "ss"
      refine i_ABCD hj ?_
      exact ⟨rfl, rfl⟩
    · refine ⟨?_, rfl⟩
      show _ = W.v (V.list (List.map V.str (List.map nm (pick (whole (idxOf (nmK i)))))))
      rw [idxOf_nm, List.map_map]; rfl
  refine seqK_next (cS.fz (fz_obj (a := du) (d := toldV dom whole) (.head _) done_told .here (FrzT.refl _)) (.cons .put (relN_refl _)) ?_)
  walk_at "ss"
  refine (law_told_spec (f := once) h hdn (by lia) hgk ?_).deep (by decide)
  walk_at "ss"
  have hwd : ∀ i ∈ dom, ∀ j, j < 4 → (whole i j = true ↔ Reach dom once i j) := fun i hi j hj => by
    rw [hwhole, hdom]; exact whole_dom (hd4 i hi) hj
  refine (closure_spec h hg naming_nm sortOk_nm hdn hd4 hgk hwd fun ck hck => ?_).deep (by decide)
  walk_at "ss"
  refine cAll_orK ?_
  walk_at "ss"
  refine (law_told_spec (f := whole) h hdn (by lia) hck ?_).deep (by decide)
  walk_at "ss"
  refine v_told_ne ?_
  walk_at "ss"
  refine both_ft ?_
  refine cAll_orK ?_
  walk_at "ss"
  refine (law_told_spec (f := once) h hdn (by lia) hgk ?_).deep (by decide)
  walk_at "ss"
  refine v_told_ne ?_
  walk_at "ss"
  refine both_ft (cAll_or_nil (both_f ?_))
  walk_at "ss"
  have hww : ∀ i ∈ dom, ∀ j, j < 4 → (whole i j = true ↔ Reach dom whole i j) := fun i hi j hj => by
    rw [hwhole, hdom]; exact whole_twice (hd4 i hi) hj
  refine (closure_spec h hg naming_nm sortOk_nm hdn hd4 hck hww fun ck2 hck2 => ?_).deep (by decide)
  walk_at "ss"
  refine (law_told_spec (f := whole) h hdn (by lia) hck2 ?_).deep (by decide)
  walk_at "ss"
  refine v_told_ne ?_
  walk_at "ss"
  refine (both_f ?_)
  walk_at "ss"
  refine (law_behind_spec h (f := once) (g := whole) ?_).deep (by decide)
  refine gen (α := Nat → Nat → Bool) (behind once whole) fun more hmore => ?_
  rw [← hmore]
  refine seqK_next (cS.weak (ε' := [("more", W.v (matV more)), ("closure", W.v (gV nmK dom ck)), ("due", W.v (toldV dom whole)), ("graph", W.v (gV nmK dom gk)), ("whole", W.v (matV whole)), ("once", W.v (matV once)), ("arrows", W.v (.list (arrows.map pairV))), ("hand", W.l hd)]) (look_sub ⟨rfl, rfl, rfl, rfl, rfl, rfl, rfl, rfl, trivial⟩) (List.Sublist.refl _) ?_)
  try clear hck2 ck2
  have hout : ∀ i, i < 4 → i ∉ dom → ∀ j, j < 4 → whole i j = (i == j) := fun i hi hn j hj => by
    rw [hwhole]; exact whole_out hi (fun k hk => dom_none hi (hdom ▸ hn) hk) hj
  walk_at "ss"
  refine for_is (it_rng (by decide) (by decide) (by decide) (by decide)) ?_
  refine fr000 (at_rng (n := 4)) (fun t ε' μ' => ε' = ([("more", W.v (matV more)), ("closure", W.v (gV nmK dom ck)), ("due", W.v (toldV dom whole)), ("graph", W.v (gV nmK dom gk)), ("whole", W.v (matV whole)), ("once", W.v (matV once)), ("arrows", W.v (.list (arrows.map pairV))), ("hand", W.l hd)] : List (Str × W)) ∧ μ' = (hd, hand ns (2 + 2 * m)) :: μ) (fun _ _ _ => rfl) (⟨rfl, rfl⟩) (fun J hJ t _ ht4 => ?_) ?_
  · walk_at "ss"
    refine i_ABCD ht4 ?_
    walk_at "ss"
    refine g_in naming_nm hd4 ht4 ?_
    walk_at "ss"
    refine ⟨fun hb => ?_, fun hb => ?_⟩
    · have htd : t ∈ dom := by simpa using hb
      walk_at "ss"
      refine cCall.fzR (c_set0 fun s => ⟨_, .v (.set []), _, fz_obj (.head _) .set .here (FrzT.refl _), .put, ?_⟩)
      walk_at "ss"
      refine i_ABCD ht4 ?_
      refine g_item naming_nm htd ?_
      refine ⟨_, it_set, fun items hL => ?_⟩
      (refine el12 hL fun L qq1 hLp => ?_; try clear hL; subst qq1)
      have hLm : ∀ x ∈ L, ∃ l, l < 4 ∧ once t l = true ∧ x = nmK l := fun x hx => ((hgk t htd).mem x).mp (hLp.subset hx)
      refine cFor_mk (fun u ε' μ' => ∃ ks, ε' = ([("told", W.v (.set ks)), ("i", W.v (.int t)), ("more", W.v (matV more)), ("closure", W.v (gV nmK dom ck)), ("due", W.v (toldV dom whole)), ("graph", W.v (gV nmK dom gk)), ("whole", W.v (matV whole)), ("once", W.v (matV once)), ("arrows", W.v (.list (arrows.map pairV))), ("hand", W.l hd)] : List (Str × W)) ∧ μ' = (hd, hand ns (2 + 2 * m)) :: μ ∧ ks.Nodup ∧
        ∀ x, x ∈ ks ↔ ∃ l, l < 4 ∧ nmK l ∈ L.take u ∧ ∃ j, j < 4 ∧ whole l j = true ∧ x = nmK j) (⟨[], rfl, rfl, .nil, fun x => ⟨fun q => (by cases q), fun ⟨_, _, q, _⟩ => (by simp at q)⟩⟩) (fun J hJ u x ε' μ' hx hIn => ?_) (fun ε' μ' hIn => ?_)
      · (refine el14 hIn fun ks qq1 qq2 hkn hkm => ?_; try clear hIn; subst qq1; subst qq2)
        rw [List.getElem?_map] at hx
        (refine el12 (Option.map_eq_some_iff.mp hx) fun key hku qq2 => ?_; subst qq2)
        (refine el13 (hLm key (List.mem_of_getElem? hku)) fun l hl4 hol qq3 => ?_; subst qq3)
        have hLt : L.take (u + 1) = L.take u ++ [nmK l] := by rw [List.take_add_one, hku]; rfl
        have kk : ∀ x ∈ ks, ∃ j, j < 4 ∧ x = nmK j := fun x hx => by (refine el13 ((hkm x).mp hx) fun _ _ _ qr => ?_; refine el13 qr fun j a _ b => ?_; try clear qr); exact ⟨j, a, b⟩
        walk_at "ss"
        refine m_dict gV_has PySem.F.slot_dict_get rfl ?_
        walk_at "ss"
        refine ⟨nmK l, rfl, by show (0 : Nat) ≠ 2; decide, fun e => ?_⟩
        walk_at "ss"
        refine g_getD naming_nm hd4 hl4 fun S h1 h2 => ?_
        have hS : SetIs nmK S (whole l) := by
          by_cases e : l ∈ dom
          · rw [h1 e]; exact hck l e
          · rw [h2 e]
            exact ⟨List.nodup_cons.mpr ⟨by simp, .nil⟩, fun key => by
              rw [List.mem_singleton]
              exact ⟨fun q => ⟨l, hl4, by rw [hout l hl4 e l hl4]; simp, q⟩, fun ⟨j, a, b, c⟩ => by
                rw [hout l hl4 e j a] at b
                have : l = j := by simpa using b
                rw [c, this]⟩⟩
        refine v_or (ks := ks) (lo := S) (fun x hx => by (refine el12 (kk x hx) fun j _ qq2 => ?_; subst qq2); rfl) (fun x hx => by (refine el13 ((hS.mem x).mp hx) fun j _ _ qq3 => ?_; subst qq3); rfl) ?_ fun e ks' hn' hm' => ?_
        · have := nodup_len hkn kk
          have := hS.len naming_nm
          lia
        refine seqK_next (cS.fz (fz_obj (a := e) (d := .set ks') (.head _) .set .here (FrzT.refl _)) (.cons .put (relN_refl _)) ?_)
        walk_at "ss"
        refine forK_next hJ (ε' := [("told", W.v (.set ks')), ("i", W.v (.int t)), ("more", W.v (matV more)), ("closure", W.v (gV nmK dom ck)), ("due", W.v (toldV dom whole)), ("graph", W.v (gV nmK dom gk)), ("whole", W.v (matV whole)), ("once", W.v (matV once)), ("arrows", W.v (.list (arrows.map pairV))), ("hand", W.l hd)]) ⟨rfl, rfl, rfl, rfl, rfl, rfl, rfl, rfl, rfl, rfl, trivial⟩ (List.Sublist.refl _) ⟨ks', rfl, rfl, hn', fun x => ?_⟩
        rw [hm' x, hkm x, hLt]
        constructor
        · rintro (⟨l', a, b, c⟩ | hx)
          · exact ⟨l', a, List.mem_append_left _ b, c⟩
          · exact ⟨l, hl4, by simp, (hS.mem x).mp hx⟩
        · rintro ⟨l', a, b, c⟩
          rcases List.mem_append.mp b with q | q
          · exact .inl ⟨l', a, q, c⟩
          · have : l' = l := nmK_inj (List.mem_singleton.mp q)
            subst this
            exact .inr ((hS.mem x).mpr c)
      · (refine el14 hIn fun ks qq1 qq2 hkn hkm => ?_; try clear hIn; subst qq1; subst qq2)
        rw [List.length_map, List.take_length] at hkm
        have hS : SetIs nmK ks (more t) := ⟨hkn, fun key => by
          rw [hkm key, hmore]
          constructor
          · rintro ⟨l, hl4, hlL, j, hj, hw, rfl⟩
            refine el13 (hLm _ hlL) fun l' a b c => ?_
            have : l = l' := nmK_inj c
            subst this
            exact ⟨j, hj, behind_iff.mpr ⟨l, hl4, b, hw⟩, rfl⟩
          · rintro ⟨j, hj, hw, rfl⟩
            refine el13 (behind_iff.mp hw) fun l hl4 h1 h2 => ?_
            exact ⟨l, hl4, hLp.symm.subset (((hgk t htd).mem _).mpr ⟨l, hl4, h1, rfl⟩), j, hj, h2, rfl⟩⟩
        walk_at "ss"
        refine (c_sortedS (hS.kind fun _ => rfl) (by have := hS.len naming_nm; lia) fun L' hp' hL' => ?_).deep (Nat.le_refl _)
        rw [hS.sorted hp' hL']
        walk_at "ss"
        refine ⟨4, rfl, by decide, more t, fun j => .str (nm j), fun j hj acc L => ?_, ?_⟩
        · refine cT_valK ?_ (by intros; rfl)
          walk_at "ss"
          refine i_mat ht4 ?_
          walk_at "ss"
          refine i_row hj ?_
          refine truthy_bool' ⟨rfl, rfl, fun _ => ?_⟩
          walk_at "ss"
          refine i_ABCD hj ?_
          exact ⟨rfl, rfl⟩
        refine v_strs_ne ?_
        walk_at "ss"
        refine (both_f ?_)
        walk_at "ss"
        exact forK_next hJ (ε' := [("more", W.v (matV more)), ("closure", W.v (gV nmK dom ck)), ("due", W.v (toldV dom whole)), ("graph", W.v (gV nmK dom gk)), ("whole", W.v (matV whole)), ("once", W.v (matV once)), ("arrows", W.v (.list (arrows.map pairV))), ("hand", W.l hd)]) ⟨rfl, rfl, rfl, rfl, rfl, rfl, rfl, rfl, trivial⟩ (List.Sublist.refl _) ⟨rfl, rfl⟩
    · walk_at "ss"
      exact forK_next hJ (ε' := [("more", W.v (matV more)), ("closure", W.v (gV nmK dom ck)), ("due", W.v (toldV dom whole)), ("graph", W.v (gV nmK dom gk)), ("whole", W.v (matV whole)), ("once", W.v (matV once)), ("arrows", W.v (.list (arrows.map pairV))), ("hand", W.l hd)]) ⟨rfl, rfl, rfl, rfl, rfl, rfl, rfl, rfl, trivial⟩ (List.Sublist.refl _) ⟨rfl, rfl⟩
  refine seqK_next (cS.weak (ε' := [("due", W.v (toldV dom whole)), ("graph", W.v (gV nmK dom gk)), ("whole", W.v (matV whole)), ("once", W.v (matV once)), ("arrows", W.v (.list (arrows.map pairV))), ("hand", W.l hd)]) (look_sub ⟨rfl, rfl, rfl, rfl, rfl, rfl, trivial⟩) (List.Sublist.refl _) ?_)
  try clear hck ck
  walk_at "ss"
  refine (next_at (ns := ns) (kk := 2 + 2 * m) (many := 4) h (by lia) (by lia) (by decide) hns30 .here ?_).deep (by decide)
  obtain ⟨st, hst⟩ : ∃ st : Nat, nxt ns (2 + 2 * m) 4 = st := ⟨(nxt ns (2 + 2 * m) 4).toNat, by have := nxt_range (ns := ns) (k := 2 + 2 * m) (many := 4) (by decide); lia⟩
  have hst4 : st < 4 := by have := nxt_range (ns := ns) (k := 2 + 2 * m) (many := 4) (by decide); lia
  rw [hst]
  refine seqK_next (cS_cons (cS1.mono (kf := fun fl ε' μ' => fl = .next ∧ (∀ x w, List.lookup x ([("whole", W.v (matV whole)), ("once", W.v (matV once)), ("arrows", W.v (.list (arrows.map pairV))), ("hand", W.l hd)] : List (Str × W)) = some w → ε'.lookup x = some w) ∧ ∃ c : Int, μ' = (hd, hand ns c) :: μ ∧ 0 ≤ c ∧ c ≤ 100) ?_ ?_))
  · walk_at "ss"
    refine i_ABCD hst4 ?_
    walk_at "ss"
    refine g_in naming_nm hd4 hst4 ?_
    walk_at "ss"
    refine ⟨fun hb => ?_, fun hb => ?_⟩
    · have hsd : st ∈ dom := by simpa using hb
      walk_at "ss"
      refine cS1_listRM rfl (by kernel_rfl) rfl (by intros; rfl) (by walk_at "kind") (sw_at rfl) (by walk_at "kind") ?_
      walk_at "ss"
      refine ⟨4, rfl, by decide, whole st, fun j => .int j, fun j hj acc L => ?_, fun en => ?_⟩
      · refine cT_valK ?_ (by intros; rfl)
        walk_at "ss"
        refine i_mat hst4 ?_
        walk_at "ss"
        refine i_row hj ?_
        refine truthy_bool' ⟨rfl, rfl, fun _ => ?_⟩
        walk_at "ss"
        exact ⟨rfl, rfl⟩
      refine seqK_next (cS.fz (fz_obj (a := en) (d := .list ((pick (whole st)).map fun (j : Nat) => V.int j)) (.head _) (.list (frozen_map _)) .here (FrzT.refl _)) (.cons .put (relN_refl _)) ?_)
      have hpl : 0 < (pick (whole st)).length := List.length_pos_of_mem (pick_mem.mpr ⟨hst4, by rw [hwhole]; exact whole_self hst4⟩)
      have hpl4 := pick_len (whole st)
      walk_at "ss"
      refine len_list (by rw [List.length_map]; lia) ?_
      rw [List.length_map]
      walk_at "ss"
      refine (next_at (ns := ns) (kk := 2 + 2 * m + 1) (many := (pick (whole st)).length) h (by lia) (by lia) (by lia) hns30 .here ?_).deep (by decide)
      obtain ⟨q, hq⟩ : ∃ q : Nat, nxt ns (2 + 2 * m + 1) (pick (whole st)).length = q := ⟨(nxt ns (2 + 2 * m + 1) (pick (whole st)).length).toNat, by have := nxt_range (ns := ns) (k := 2 + 2 * m + 1) (many := (pick (whole st)).length) (by lia); lia⟩
      have hql : q < (pick (whole st)).length := by have := nxt_range (ns := ns) (k := 2 + 2 * m + 1) (many := (pick (whole st)).length) (by lia); lia
      rw [hq]
      obtain ⟨e, he⟩ : ∃ e, (pick (whole st))[q]? = some e := ⟨_, List.getElem?_eq_getElem hql⟩
      have hem := pick_mem.mp (List.mem_of_getElem? he)
      refine ⟨sub_list, v_item_list (x := .int e) (by lia) (by lia) (by rw [show ((q : Int)).toNat = q from rfl, List.getElem?_map, he]; rfl) ?_⟩
      walk_at "ss"
      refine cS1_dictS rfl (by kernel_rfl) rfl (by intros; rfl) (sw_at rfl) (by walk_at "kind") ?_
      walk_at "ss"
      refine ⟨_, it_dict, fun items ei => ⟨dom, nmK, fun i l => SetIs nmK l (once i), naming_nm, by rw [ei, List.map_map]; rfl, hdn, hd4, fun i hi => ⟨_, tgt_name (by walk_at "kind"), fun mm => ?_⟩, fun Dw ad wk hR => ?_⟩⟩
      · walk_at "ss"
        refine ⟨rfl, rfl, ?_⟩
        walk_at "ss"
        refine g_item naming_nm hi ?_
        walk_at "ss"
        refine c_setSet ((hgk i hi).kind fun _ => rfl) (by have := (hgk i hi).len naming_nm; lia) fun a ks hn hm => ⟨a, ks, rfl, rfl, hn, fun key => (hm key).trans ((hgk i hi).mem key)⟩
      walk_at "ss"
      refine i_ABCD hst4 ?_
      refine ⟨sub_dict (kvs := dom.map fun i => (nmK i, W.l (ad i))) (List.mem_append_right _ (.head _)), v_itemD (key := nmK st) (u := .l (ad st)) (kvs := dom.map fun i => (nmK i, W.l (ad i))) (List.mem_append_right _ (.head _)) (fun p hp => ?_) (by show (0 : Nat) ≠ 2; decide) (List.mem_map_of_mem (f := fun i => (nmK i, W.l (ad i))) hsd) ?_⟩
      · (refine el12 (List.mem_map.mp hp) fun x _ qq2 => ?_; subst qq2); rfl
      refine m_set (ks := wk st) (mem_gs (List.mem_reverse.mpr hsd)) PySem.F.slot_set_add rfl ?_
      walk_at "ss"
      refine i_ABCD hem.1 ?_
      walk_at "ss"
      have hwid : ∀ i ∈ dom, ∀ j, j < 4 → (whole i j = true ↔ Reach dom (fun a b => once a b || (a == st && b == e)) i j) := fun i hi j hj => by
        rw [hwhole, hdom]; exact whole_wider hst4 hem.1 (hwhole ▸ hem.2) (hd4 i hi) hj
      have fin : ∀ {wk' : Nat → List Key}, (∀ i ∈ dom, SetIs nmK (wk' i) fun j => once i j || (i == st && j == e)) → Fz C (FrzW Dw (gV nmK dom wk')) (gsM ad wk' dom.reverse ++ (Dw, O.dict (dom.map fun i => (nmK i, W.l (ad i)))) :: (hd, hand ns (2 + 2 * m + 1 + 1)) :: μ) ((hd, hand ns (2 + 2 * m + 1 + 1)) :: μ) := fun _ => fz_graph
      refine c_setaddU (ks := wk st) (key := nmK e) (mem_gs (List.mem_reverse.mpr hsd)) ((hR st hsd).kind fun _ => rfl) (by show (0 : Nat) ≠ 2; decide) (by have := (hR st hsd).len naming_nm; lia) (fun hin => ?_) fun hin ks' hp' => ⟨_, UpdAt.gs ((List.reverse_perm _).nodup_iff.mpr hdn) (List.mem_reverse.mpr hsd), ?_⟩
      · have hW : ∀ i ∈ dom, SetIs nmK (wk i) fun j => once i j || (i == st && j == e) := fun i hi => (hR i hi).same fun j hj => by
          by_cases e1 : i = st ∧ j = e
          · obtain ⟨rfl, rfl⟩ := e1
            rw [((hR i hi).has naming_nm hj).mp hin]; rfl
          · have : (i == st && j == e) = false := by
              rw [Bool.and_eq_false_iff]
              by_cases e2 : i = st
              · exact .inr (by simpa using fun e3 => e1 ⟨e2, e3⟩)
              · exact .inl (by simpa using e2)
            rw [this, Bool.or_false]
        refine seqK_next (cS.fz (fin hW) (.cons .put (relN_refl _)) ?_)
        walk_at "ss"
        refine (closure_spec h hg naming_nm sortOk_nm hdn hd4 hW hwid fun ck hck => ?_).deep (by decide)
        walk_at "ss"
        refine (law_told_spec (f := whole) h hdn (by lia) hck ?_).deep (by decide)
        walk_at "ss"
        refine v_told_ne ?_
        walk_at "ss"
        refine (both_f ?_)
        walk_at "ss"
        exact ⟨rfl, look_sub ⟨rfl, rfl, rfl, rfl, trivial⟩, _, rfl, by lia, by lia⟩
      · have hW : ∀ i ∈ dom, SetIs nmK (if i = st then ks' else wk i) fun j => once i j || (i == st && j == e) := setIs_put hR (((hR st hsd).add hem.1 hin hp').same fun j _ => by simp) fun i hi j => by
          have : (i == st) = false := by simpa using hi
          rw [this]; simp
        refine seqK_next (cS.fz (fin hW) (.cons .put (relN_refl _)) ?_)
        walk_at "ss"
        refine (closure_spec h hg naming_nm sortOk_nm hdn hd4 hW hwid fun ck hck => ?_).deep (by decide)
        walk_at "ss"
        refine (law_told_spec (f := whole) h hdn (by lia) hck ?_).deep (by decide)
        walk_at "ss"
        refine v_told_ne ?_
        walk_at "ss"
        refine (both_f ?_)
        walk_at "ss"
        exact ⟨rfl, look_sub ⟨rfl, rfl, rfl, rfl, trivial⟩, _, rfl, by lia, by lia⟩
    · walk_at "ss"
      exact ⟨rfl, look_sub ⟨rfl, rfl, rfl, rfl, trivial⟩, _, rfl, by lia, by lia⟩
  rintro _ ε' _ ⟨rfl, hε, c, rfl, hc0, hc1⟩
  refine seqK_next (cS.weak hε (List.Sublist.refl _) ?_)
  try clear hε ε'
  walk_at "ss"
  refine cE_listF ?_
  walk_at "ss"
  refine ⟨_, rfl, by simp, ?_⟩
  refine cE_listSt rfl (by kernel_rfl) rfl (by intros; rfl) (by walk_at "kind") ?_
  walk_at "ss"
  refine ⟨3, rfl, by decide, fun i => (hd, hand ns (c + i)) :: μ, fun i => .bool (nxt ns (c + i) 2 == 0), by simp; rfl, fun i hi acc L => ?_, ?_⟩
  · walk_at "ss"
    refine (next_at (ns := ns) (kk := c + i) (many := 2) h (by lia) (by lia) (by decide) hns30 (.there .here) ?_).deep (by decide)
    walk_at "ss"
    refine ⟨rfl, ?_⟩
    have e : c + (i : Int) + 1 = c + ((i + 1 : Nat) : Int) := by lia
    rw [e]
  refine gen (α := Nat → Bool) (fun i => match i with | 0 => true | i + 1 => nxt ns (c + i) 2 == 0) fun lt hlt => ?_
  refine add_LL (by simp) ?_
  have hlv : (V.list ([V.bool true] ++ (List.range 3).map fun (i : Nat) => V.bool (nxt ns (c + i) 2 == 0))) = rowV lt := by rw [hlt]; rfl
  rw [hlv]
  have hlt0 : lt 0 = true := by rw [hlt]
  try clear hlt hlv
  refine seqK_next (cS.weak (μ' := (hd, hand ns (c + ((3 : Nat) : Int))) :: μ) (ε' := [("letters", W.v (rowV lt)), ("whole", W.v (matV whole)), ("arrows", W.v (.list (arrows.map pairV))), ("hand", W.l hd)]) (look_sub ⟨rfl, rfl, rfl, rfl, trivial⟩) (List.Sublist.refl _) ?_)
  refine gen (α := Int) (c + (3 : Nat)) fun c3 hc3 => ?_
  rw [← hc3]
  have hc30 : 0 ≤ c3 := by lia
  have hc31 : c3 ≤ 200 := by lia
  try clear hc3
  walk_at "ss"
  refine cS1_listRM rfl (by kernel_rfl) rfl (by intros; rfl) (by walk_at "kind") (sw_at rfl) (by walk_at "kind") ?_
  walk_at "ss"
  refine ⟨4, rfl, by decide, lt, fun i => Pr.v (i, [It.T (nw i)]), fun i hi acc L => ?_, fun R => ?_⟩
  · refine cT_valK ?_ (by intros; rfl)
    walk_at "ss"
    refine i_row hi ?_
    refine truthy_bool' ⟨rfl, rfl, fun _ => ?_⟩
    walk_at "ss"
    refine i_ABCD hi ?_
    walk_at "ss"
    refine (mk_N h ?_).deep (by decide)
    walk_at "ss"
    refine cE_listF ?_
    walk_at "ss"
    refine i_abcd hi ?_
    walk_at "ss"
    refine ⟨_, rfl, by simp, ?_⟩
    walk_at "ss"
    refine (mk_P (l := nm i) (r := [It.T (nw i)]) h (by simp) ?_).deep (by decide)
    exact ⟨rfl, rfl⟩
  refine gen (α := List Pr) ((pick lt).map fun i => (i, [It.T (nw i)])) fun pr0 hpr0 => ?_
  have hm0 : ((((List.range 4).filter lt).map fun i => Pr.v (i, [It.T (nw i)])).map W.v) = pr0.map fun p => W.v p.v := by
    rw [hpr0, List.map_map, List.map_map]; rfl
  rw [hm0]
  walk_at "ss"
  refine for_is it_list ?_
  refine fr000 at_map (fun t ε' μ' => ε' = ([("rules", W.l R), ("letters", W.v (rowV lt)), ("whole", W.v (matV whole)), ("arrows", W.v (.list (arrows.map pairV))), ("hand", W.l hd)] : List (Str × W)) ∧ μ' = (R, O.list ((pr0 ++ extra ns c3 arrows t).map fun p => W.v p.v)) :: (hd, hand ns (c3 + t)) :: μ) (fun _ _ _ => rfl) (⟨rfl, by simp [extra]; rfl⟩) (fun J hJ t p hpt => ?_) ?_
  · have ht : t < arrows.length := (List.getElem?_eq_some_iff.mp hpt).1
    obtain ⟨p1, p2⟩ := hal p (List.mem_of_getElem? hpt)
    obtain ⟨x, y⟩ := p
    simp only at p1 p2
    refine asg_tup2 (by walk_at "kind") (by walk_at "kind") ?_
    obtain ⟨q, hq⟩ : ∃ q : Nat, nxt ns (c3 + t) 4 = q := ⟨(nxt ns (c3 + t) 4).toNat, by have := nxt_range (ns := ns) (k := c3 + t) (many := 4) (by decide); lia⟩
    have hq4 : q < 4 := by have := nxt_range (ns := ns) (k := c3 + t) (many := 4) (by decide); lia
    walk_at "ss"
    refine cE_listF ?_
    walk_at "ss"
    refine cE_listF ?_
    walk_at "ss"
    refine ⟨_, rfl, by simp, ?_⟩
    walk_at "ss"
    refine cE_listF ?_
    walk_at "ss"
    refine (mk_N h ?_).deep (by decide)
    walk_at "ss"
    refine ⟨_, rfl, by simp, ?_⟩
    walk_at "ss"
    refine cE_listF ?_
    walk_at "ss"
    refine ⟨_, rfl, by simp, ?_⟩
    walk_at "ss"
    refine cE_listF ?_
    walk_at "ss"
    refine (mk_N h ?_).deep (by decide)
    walk_at "ss"
    refine ⟨_, rfl, by simp, ?_⟩
    walk_at "ss"
    refine ⟨_, rfl, by simp, ?_⟩
    walk_at "ss"
    refine (next_at (ns := ns) (kk := c3 + t) (many := 4) h (by lia) (by lia) (by decide) hns30 (.there .here) ?_).deep (by decide)
    rw [hq]
    refine ⟨sub_list, v_item_list (x := .list ((tailIt q).map It.v)) (by lia) (by lia) (tail_at hq4) ?_⟩
    walk_at "ss"
    refine m_list (.head _) PySem.F.slot_list_append rfl ?_
    walk_at "ss"
    refine i_ABCD p1 ?_
    walk_at "ss"
    refine (mk_N h ?_).deep (by decide)
    walk_at "ss"
    refine cE_listF ?_
    walk_at "ss"
    refine i_ABCD p2 ?_
    walk_at "ss"
    refine (mk_N h ?_).deep (by decide)
    walk_at "ss"
    refine ⟨_, rfl, by simp, ?_⟩
    walk_at "ss"
    refine add_LL (by simp; have := tailIt_len q; lia) ?_
    walk_at "ss"
    refine (mk_P (l := nm x) (r := It.N (nm y) :: tailIt q) h (by simp; have := tailIt_len q; lia) ?_).deep (by decide)
    walk_at "ss"
    refine v_append .here (by rw [List.length_map, List.length_append, hpr0, List.length_map]; have := pick_len lt; have := extra_len (ns := ns) (c := c3) (l := arrows) (t := t); lia) ?_
    walk_at "ss"
    have e2 : c3 + (t : Int) + 1 = c3 + ((t + 1 : Nat) : Int) := by lia
    rw [e2]
    refine forK_next hJ (ε' := [("rules", W.l R), ("letters", W.v (rowV lt)), ("whole", W.v (matV whole)), ("arrows", W.v (.list (arrows.map pairV))), ("hand", W.l hd)]) ⟨rfl, rfl, rfl, rfl, rfl, trivial⟩ (List.Sublist.refl _) ⟨rfl, ?_⟩
    rw [extra_succ hpt hq, ← List.append_assoc, List.map_append (l₂ := [_])]; rfl
  rw [List.length_map]
  refine gen (α := List Pr) (pr0 ++ extra ns c3 arrows arrows.length) fun prods hprods => ?_
  rw [← hprods]
  refine gen (α := Int) (c3 + (arrows.length : Nat)) fun c4 hc4 => ?_
  rw [← hc4]
  refine seqK_next (cS.fz (fz_obj (a := R) (d := .list (prods.map Pr.v)) (.head _) done_prods .here (FrzT.refl _)) (.cons .put (relN_refl _)) ?_)
  have F : ProdsAre prods lt once := by rw [hprods, hpr0, honce]; exact prods_are hal
  have hok : ∀ p ∈ prods, PrOk p := F.ok
  have hz1 : prods.length ≤ 100 := by
    rw [hprods, List.length_append, hpr0, List.length_map]
    have := pick_len lt; have := extra_len (ns := ns) (c := c3) (l := arrows) (t := arrows.length); lia
  have hne : prods ≠ [] := F.ne hlt0
  try clear hprods hpr0 hm0 pr0
  walk_at "ss"
  rw [show Str.ofString "A" = nm 0 from by decide +kernel]
  refine (mk_N h ?_).deep (by decide)
  walk_at "ss"
  refine (mk_G (i0 := 0) (r := whole) h hg (fun P hP => .tail _ (hT P hP)) hok hz1 hne (fun cats hcm i hi j hj => by rw [hwhole]; exact F.reach hcm hi hj) fun cats lc lw hcn hcm hlc hlw => ?_).deep (by decide)
  refine seqK_next (cS.weak (ε' := [("grammar", W.v (cfgV cats lc lw)), ("letters", W.v (rowV lt)), ("whole", W.v (matV whole))]) (look_sub ⟨rfl, rfl, rfl, trivial⟩) (List.Sublist.refl _) ?_)
  have hc4' : ∀ i ∈ cats, i < 4 := fun i hi => by refine el12 ((hcm i).mp hi) fun p hp e => ?_; exact e ▸ (hok p hp).1
  have hcl : cats.length ≤ 100 := by have := fs_len hcn hc4'; lia
  have hcne : cats ≠ [] := fun q => by
    have := (F.cat hcm (i := 0) (by decide)).mpr (.inl hlt0)
    rw [q] at this; cases this
  have hno : ∀ i, i < 4 → i ∉ cats → lt i = false ∧ ∀ j, j < 4 → whole i j = (i == j) := fun i hi hn => by
    have h1 : lt i = false := by
      cases e : lt i with
      | false => rfl
      | true => exact absurd ((F.cat hcm hi).mpr (.inl e)) hn
    refine ⟨h1, fun j hj => ?_⟩
    rw [hwhole]
    refine whole_out hi (fun k hk => ?_) hj
    cases e : once i k with
    | false => rfl
    | true => exact absurd ((F.cat hcm hi).mpr (.inr ⟨k, e⟩)) hn
  have lcS : ∀ i, i < 4 → ∀ S, (i ∈ cats → S = lc i) → (i ∉ cats → S = [tK i]) → SetIs tK S (whole i) := fun i hi S h1 h2 => by
    by_cases e : i ∈ cats
    · rw [h1 e]; exact hlc i e
    · rw [h2 e]
      exact ⟨List.nodup_cons.mpr ⟨by simp, .nil⟩, fun key => by
        rw [List.mem_singleton]
        exact ⟨fun q => ⟨i, hi, by rw [(hno i hi e).2 i hi]; simp, q⟩, fun ⟨j, a, b, c⟩ => by
          rw [(hno i hi e).2 j a] at b
          have : i = j := by simpa using b
          rw [c, this]⟩⟩
  have lwS : ∀ i, i < 4 → ∀ S, (i ∈ cats → S = lw i) → (i ∉ cats → S = []) → ∀ j, j < 4 → decide (nwK j ∈ S) = (whole i j && lt j) := fun i hi S h1 h2 j hj => by
    rw [Bool.eq_iff_iff, decide_eq_true_iff]
    by_cases e : i ∈ cats
    · rw [h1 e, (hlw i e).has naming_nw hj, List.any_eq_true]
      constructor
      · rintro ⟨l, hl, q⟩
        obtain ⟨q1, q2⟩ := Bool.and_eq_true_iff.mp q
        rw [F.immW (by simpa using hl)] at q2
        obtain ⟨q3, q4⟩ := Bool.and_eq_true_iff.mp q2
        have : l = j := by simpa using q3
        subst this
        rw [q1, q4]; rfl
      · intro q
        obtain ⟨q1, q2⟩ := Bool.and_eq_true_iff.mp q
        exact ⟨j, by simpa using hj, by rw [F.immW hj, q1, q2]; simp⟩
    · rw [h2 e]
      constructor
      · intro q; cases q
      · intro q
        obtain ⟨q1, q2⟩ := Bool.and_eq_true_iff.mp q
        rw [(hno i hi e).2 j hj] at q1
        have : i = j := by simpa using q1
        rw [← this, (hno i hi e).1] at q2
        cases q2
  walk_at "ss"
  refine for_is (it_rng (by decide) (by decide) (by decide) (by decide)) ?_
  refine fr000 (at_rng (n := 4)) (fun t ε' μ' => ε' = ([("grammar", W.v (cfgV cats lc lw)), ("letters", W.v (rowV lt)), ("whole", W.v (matV whole))] : List (Str × W)) ∧ μ' = (hd, hand ns c4) :: μ) (fun _ _ _ => rfl) (⟨rfl, rfl⟩) (fun J hJ t _ ht4 => ?_) ?_
  · walk_at "ss"
    refine i_ABCD ht4 ?_
    walk_at "ss"
    refine (mk_N h ?_).deep (by decide)
    walk_at "ss"
    refine m_Gv (f := 206) h hg (by kernel_rfl) (by kernel_rfl) (by kernel_rfl) (by decide) ?_
    walk_at "ss"
    refine (lcs_spec h hg hc4' ht4 fun S h1 h2 => ?_).deep (by decide)
    have hS := lcS t ht4 S h1 h2
    walk_at "ss"
    refine (c_sortedT (hS.kind fun _ => rfl) (fun q => by refine el13 ((hS.mem _).mp q) fun j _ _ e => ?_; cases e) hS.nd (by have := hS.len naming_t; lia) fun Rr hp hpw => ?_).deep (Nat.le_refl _)
    rw [sorted_tK hS hp (hpw (hS.len naming_t))]
    walk_at "ss"
    refine ⟨4, rfl, by decide, whole t, fun j => .tup [.str tN, .str (nm j)], fun j hj acc L => ?_, ?_⟩
    · refine cT_valK ?_ (by intros; rfl)
      walk_at "ss"
      refine i_mat ht4 ?_
      walk_at "ss"
      refine i_row hj ?_
      refine truthy_bool' ⟨rfl, rfl, fun _ => ?_⟩
      refine cE_tuple ?_
      walk_at "ss"
      refine i_ABCD hj ?_
      walk_at "ss"
      exact ⟨_, rfl, by simp, rfl, rfl⟩
    refine v_tups_ne ?_
    walk_at "ss"
    refine (both_f ?_)
    walk_at "ss"
    refine for_is (it_rng (by decide) (by decide) (by decide) (by decide)) ?_
    refine fr000 (at_rng (n := 4)) (fun u ε' μ' => ε' = ([("head", W.v (nonT (nm t))), ("i", W.v (.int t)), ("grammar", W.v (cfgV cats lc lw)), ("letters", W.v (rowV lt)), ("whole", W.v (matV whole))] : List (Str × W)) ∧ μ' = (hd, hand ns c4) :: μ) (fun _ _ _ => rfl) (⟨rfl, rfl⟩) (fun J hJ u _ hu4 => ?_) ?_
    · walk_at "ss"
      refine m_Gv (f := 213) h hg (by kernel_rfl) (by kernel_rfl) (by kernel_rfl) (by decide) ?_
      walk_at "ss"
      refine i_ABCD hu4 ?_
      walk_at "ss"
      refine (mk_N h ?_).deep (by decide)
      walk_at "ss"
      refine (ilc_N h hg hc4' ht4 (fun i hi x hx => (hlc i hi).kind (fun _ => rfl) x hx) fun S h1 h2 => ?_).deep (by decide)
      have hS := lcS t ht4 S h1 h2
      have eS : decide (tK u ∈ S) = whole t u := by rw [Bool.eq_iff_iff, decide_eq_true_iff]; exact hS.has naming_t hu4
      rw [eS]
      walk_at "ss"
      refine i_mat ht4 ?_
      walk_at "ss"
      refine i_row hu4 ?_
      walk_at "ss"
      rw [beq_self_eq_true]
      refine (both_f ?_)
      walk_at "ss"
      refine m_Gv (f := 213) h hg (by kernel_rfl) (by kernel_rfl) (by kernel_rfl) (by decide) ?_
      walk_at "ss"
      refine i_abcd hu4 ?_
      walk_at "ss"
      refine (ilc_T h hg hc4' hcne hcl ht4 (fun i hi x hx => (hlw i hi).kind (fun _ => rfl) x hx) fun S2 h3 h4 => ?_).deep (by decide)
      rw [lwS t ht4 S2 h3 h4 u hu4]
      walk_at "ss"
      refine i_mat ht4 ?_
      walk_at "ss"
      refine i_row hu4 ?_
      walk_at "ss"
      refine ⟨fun ew => ?_, fun ew => ?_⟩
      · walk_at "ss"
        refine i_row hu4 ?_
        walk_at "ss"
        rw [ew, Bool.true_and, beq_self_eq_true]
        refine (both_f ?_)
        walk_at "ss"
        exact forK_next hJ (ε' := [("head", W.v (nonT (nm t))), ("i", W.v (.int t)), ("grammar", W.v (cfgV cats lc lw)), ("letters", W.v (rowV lt)), ("whole", W.v (matV whole))]) ⟨rfl, rfl, rfl, rfl, rfl, trivial⟩ (List.Sublist.refl _) ⟨rfl, rfl⟩
      · walk_at "ss"
        rw [ew, Bool.false_and, beq_self_eq_true]
        refine (both_f ?_)
        walk_at "ss"
        exact forK_next hJ (ε' := [("head", W.v (nonT (nm t))), ("i", W.v (.int t)), ("grammar", W.v (cfgV cats lc lw)), ("letters", W.v (rowV lt)), ("whole", W.v (matV whole))]) ⟨rfl, rfl, rfl, rfl, rfl, trivial⟩ (List.Sublist.refl _) ⟨rfl, rfl⟩
    · walk_at "ss"
      exact forK_next hJ (ε' := [("grammar", W.v (cfgV cats lc lw)), ("letters", W.v (rowV lt)), ("whole", W.v (matV whole))]) ⟨rfl, rfl, rfl, trivial⟩ (List.Sublist.refl _) ⟨rfl, rfl⟩
  walk_at "ss"
  exact hk _ fun P hP => .tail _ (hT P hP)
end
end
section
open PySem PySem.Calls PySem.W PyProof.Rows
noncomputable def codesIn (K : Frag) : List (Addr × Addr) := K.filterMap fun p => (codeP K (.ref p.1)).map fun P => (p.1, P)
theorem codesIn_mem {K : Frag} {c P : Addr} (h : codeP K (.ref c) = some P) : (c, P) ∈ codesIn K := by
  unfold codesIn
  rw [List.mem_filterMap]
  have : ∃ o, K.lookup c = some o := by
    have h : codePo (K.lookup c) = some P := h
    cases e : K.lookup c with
    | none => rw [e] at h; exact nomatch (show none = some P from h)
    | some o => exact ⟨o, rfl⟩
  obtain ⟨o, ho⟩ := this
  exact ⟨(c, o), mem_of_lookupK ho, by rw [h]; rfl⟩
section
variable {h₁ : Heap} {tabs : List (Addr × Addr)} {K : Frag} {p : Program} {loose : List Str} {mean : ExcName → Option Value} {mg mb : Str → Option Value}
theorem ghost_codeAt (hT : TabsAt tabs h₁) {c P : Addr} (hm : (c, P) ∈ tabs) : CodeAt (ghostOf h₁ tabs) c P := fun h' ps hk hP ht => by
  obtain ⟨o, vs, file, tf, flags, tg, inF, text, tt, e, r1, r2, r3, r4, r5, r6, r7, r8, r9⟩ := (hT (c, P) hm).1
  have e' := hk _ _ (ghost_get hT e fun q => by rw [q] at r1; cases r1)
  have hc : CodeHd h' c P := ⟨o, vs, file, tf, flags, tg, inF, text, tt, e', r1, r2, r3, r4, r5, r6, r7, r8, r9⟩
  exact ⟨hc.code hP ht, hc.tab hP⟩
theorem vals_ints {P : Params} {F : PMap} {vs : List Value} {ns : List Int} (h : IntsAre vs ns) : Vals P F (ns.map .int) vs := by
  induction h with
  | nil => exact .nil
  | cons n t _ ih => exact .cons (.int n t) ih
end
theorem top_call {prog : Program} {w : World} {s₁ : Shared} {a f : Addr} {vs : List Value} {ns : List Int} {tabs : List (Addr × Addr)} {K : Params → Frag} {p : Program} {loose : List Str} {mean : ExcName → Option Value} {mg mb : Str → Option Value} {E : Value → Shared → Prop}
    (hT : TabsAt tabs s₁.heap) (KX : (K w.params).In s₁.heap) (hK : noTabs (K w.params) = true) (T : Top p loose mean mg mb s₁.heap)
    (hall : ∀ q ∈ codesIn (K w.params), q ∈ tabs) (hn : (tabs.map (·.2)).Nodup) (h3 : ∀ q ∈ tabs, mainGlobals < q.2)
    (hL : s₁.heap.IsList a vs.toArray) (hI : IntsAre vs ns) (hz : ns.length ≤ 63) (hg : s₁.gens = #[])
    (law : ∀ (C : Cx) (items : Array Value) (μ : Mem) (k : PostW), C.K = K C.P → C.gen = false → C.B.IsList a items → Vals C.P (fun _ => none) (ns.map .int) items.toList → (∀ P ∈ C.tabs, (P, O.tab) ∈ μ) →
      (∀ μ', (∀ P ∈ C.tabs, (P, O.tab) ∈ μ') → k (.v (.bool true)) μ') → cCall C 18 μ (.ref f) [.v (.glob (.ref a))] [] k) :
    wpAny (model prog w) callerA (call (.ref f) [.ref a]) (fun v s' => v = .bool true ∧ OldK s₁.heap s'.heap ∧ s'.os = s₁.os ∧ AllBare s'.gens) E s₁ := by
  have gT := ghost_top hT T
  have bm := bmod_of_top gT
  let C : Cx := {
    prog := prog, w := w, B := ghostOf s₁.heap tabs, os := s₁.os, K := K w.params, kin := ghost_K hT KX hK, lim := gT.nolimit, mg := mg, mb := mb, gg := gT.g, gb := gT.b, bb := gT.builtins,
    bmod := bm, tabs := tabs.map (·.2), code := fun c P e => ⟨ghost_codeAt hT (hall _ (codesIn_mem e)), List.mem_map_of_mem (f := (·.2)) (hall _ (codesIn_mem e))⟩, gen := false, gs := [] }
  have S : Sim C (fun b => (ghostOf s₁.heap tabs).get? b) (fun _ => none) (tabs.map fun q => (q.2, O.tab)) s₁ := by
    refine ⟨fun _ _ e => e, fun b o e => of_hideAll _ e, fun b o e => (by cases e), fun b o e => (by cases e), fun b o hm => ?_, ⟨?_, fun b hb => ?_⟩, rfl, ⟨hg ▸ AllBare.empty, fun q hq => (by cases hq)⟩⟩
    · obtain ⟨q, hq, e⟩ := List.mem_map.mp hm
      cases e
      exact ⟨hideAll_none _ (List.mem_map_of_mem (f := (·.2)) hq), rfl, _, (hT q hq).2, #[], rfl, trivial⟩
    · rw [List.map_map]; exact hn
    · rw [List.map_map] at hb
      obtain ⟨q, hq, e⟩ := List.mem_map.mp hb
      exact e ▸ h3 q hq
  have hlaw := law C vs.toArray (tabs.map fun q => (q.2, O.tab)) (fun x μ' => x = .v (.bool true) ∧ ∀ P ∈ C.tabs, (P, O.tab) ∈ μ') rfl rfl (ghost_list hT hL) (vals_ints hI) (fun P hP => by
    obtain ⟨q, hq, e⟩ := List.mem_map.mp hP
    exact e ▸ List.mem_map_of_mem (f := fun q : Addr × Addr => (q.2, O.tab)) hq) (fun μ' hm => ⟨rfl, hm⟩)
  have hA : Rm callerA 18 := ⟨rfl, by decide +kernel, by decide +kernel⟩
  refine wpBot (hlaw callerA _ _ s₁ [.ref a] [] hA S (.cons (.glob _ rfl) .nil) .nil) fun v s' ⟨x, F', μ', ⟨hx, hm⟩, le, S', hv⟩ => ?_
  subst hx
  cases hv
  have old : ∀ b o, s₁.heap.get? b = some o → (s'.heap.get? b = some o) ∨ (isCodeTable s₁.heap b ∧ o = tabObj #[] ∧ ∃ ps, s'.heap.get? b = some (tabObj ps)) := fun b o e => by
    by_cases hb : b ∈ tabs.map (·.2)
    · obtain ⟨q, hq, rfl⟩ := List.mem_map.mp hb
      have e2 := (hT q hq).2
      rw [e] at e2
      obtain ⟨_, _, ob, g, ps, e3, _⟩ := S'.own _ _ (hm q.2 hb)
      exact .inr ⟨((hT q hq).1.tab (hT q hq).2).isCodeTable, Option.some.inj e2, ps, by rw [g, e3]⟩
    · exact .inl (S'.fz b o (le b o (ghost_ne e hb)))
  refine ⟨rfl, ⟨fun b o e => ?_, fun b o e => ?_⟩, S'.os, S'.gens.1⟩
  · rcases old b o e with q | ⟨q1, rfl, ps, q2⟩
    · exact .inl q
    · exact .inr (.inl ⟨q1, rfl, #[], ps, rfl, by rw [Array.empty_append]; exact q2⟩)
  · rcases old b o e with q | ⟨q1, rfl, ps, q2⟩
    · exact ⟨_, q⟩
    · exact ⟨_, q2⟩
end
section
open PySem PySem.W PyProof.Rows
theorem codes_hd (P : Params) : ((codesIn (Mine.hk.heap_1 P)).all fun q => codeHdIn (Mine.hk.heap_1 P) q.1 q.2) = true := by kernel_rfl
theorem codes_in (P : Params) : ((codesIn (Mine.hk.heap_1 P)).all fun q => tabsL.contains q.2) = true := by kernel_rfl
theorem codes_gt (P : Params) : ((codesIn (Mine.hk.heap_1 P)).all fun q => decide (mainGlobals < q.2)) = true := by kernel_rfl
theorem codes_nd (P : Params) : decide (((codesIn (Mine.hk.heap_1 P)).map (·.2)).Nodup) = true := by kernel_rfl
theorem no_tabs (P : Params) : noTabs (Mine.hk.heap_1 P) = true := by kernel_rfl
theorem tabs_at {P : Params} {h : Heap} (KX : (Mine.hk.heap_1 P).In h) (KT : ∀ P ∈ tabsL, h.get? P = some (tabObj #[])) : TabsAt (codesIn (Mine.hk.heap_1 P)) h := fun q hq =>
  ⟨codeHd_of_K KX (List.all_eq_true.mp (codes_hd P) q hq), KT _ (by simpa using List.all_eq_true.mp (codes_in P) q hq)⟩
end
end Mine
section
open PySem PySem.W PyProof.Rows
theorem PySem.Challenge.cw_be0028_02_holds : PySem.Challenge.rw_be0028_02.Holds :=
  Mine.hk (by
  refine holds_open (q := Mine.qL) (loose := Mine.looseL) (Xt := fun _ => true) (XP := fun _ _ => True) (Yf := Mine.hookL.obs) (Ya := Mine.hookL.val) (YP := Mine.hookL.says) (N := 5164) Mine.leftL (Hook.of _) (Hook.keeps _) (fun _ _ => trivial) (fun _ _ _ _ _ => trivial) (by rfl) (by rfl) (by rfl) (fun s _ => recFacts_nil (by rfl)) (by rfl) (row_said Mine.saidL) (by decide +kernel) ⟨rfl, rfl, rfl, rfl, rfl, by decide +kernel⟩ ?hw ?hc
  case hw => w_witness2
  intro w s₀ s₁ mg mb G Y fa o pm cd doc dV kV ho hd hcd hD hmg hg args vals as hpre hlay hrd hwl hlo
  have KX := km_in_of Y
  have KT := km_tabs_of Y
  clear hd hD hcd
  refine Ground.open G ?_
  intro T B D TE TW
  clear TE TW B Y D
  have e369 : mg "law" = some (.ref 369) := mg_of KX T.g (by kernel_rfl)
  have efa : fa = 369 := by
    have q := hmg.symm.trans e369
    injection q with q
    injection q
  subst efa
  clear hmg e369 ho
  wrow_args hpre hlay hrd hwl hlo
  rename Heap.IsList _ _ _ => hL
  rename IntsAre _ _ => hI
  rename ¬ (63 : Int) < _ => hz
  refine wpAny_mono (Mine.top_call (E := fun _ _ => False) (K := Mine.hk.heap_1) (Mine.tabs_at KX KT) KX (Mine.no_tabs _) T (fun q h => h) (of_decide_eq_true (Mine.codes_nd _)) (fun q hq => of_decide_eq_true (List.all_eq_true.mp (Mine.codes_gt _) q hq)) hL hI (by omega) hg ?_) ?_ ?_
  · exact fun C items μ k hK hg hl hv hT hk => Mine.law_spec hK hg hl hv (by omega) hT hk
  · rintro v s' ⟨rfl, h1, h2, h3⟩
    refine ⟨.inl ⟨.bool true, .bool true, [], rfl, fun _ => rfl, .bool _, ?_, fun _ => ⟨.nil, fun _ q => by cases q⟩⟩, h1, h2, h3⟩
    kernel_rfl
  · exact fun _ _ e => e.elim)
end

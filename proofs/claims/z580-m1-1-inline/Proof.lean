import JvmDerived
import JvmDerived.Pilot.@@N@@Statement
import JvmDerived.Pilot.@@N@@Code
set_option linter.unusedVariables false
set_option linter.unusedSimpArgs false
namespace Jvm.Pilot.@@N@@
open Jvm Jvm.ClassFile Sem Op Lib Jvm.Free Jvm.Stand Jvm.LawKit Jvm.RoadKit Bundle Jvm.Pilot.@@N@@.Jvm.D
/-! own frame: 'Go': from here the run ends as Q says -/
def GoX (p : Program) (e : Env) (below : List Frame) (F : Outcome → State → List Loc → Prop) (Q : Option Value → Heap → List Loc → Prop) (u : State) : Prop :=
  ∃ s₂ o, Steps p.tables e below u s₂ ∧ s₂.status = .running ∧ Ended s₂ below o ∧ ∃ v L, o = .returned v ∧ Q v s₂.heap L ∧ F o s₂ L
abbrev Go (p : Program) (e : Env) (below : List Frame) (s : State) (nc ns : Nat) (Q : Option Value → Heap → List Loc → Prop) (u : State) : Prop := GoX p e below (fun o t L => FrameEnd s o t L nc ns) Q u
/-- what a body's walk stands on -/
def Bdy (p : Program) (s : State) (m : MethodId) (meth : Method) (c : Code) (Z : State) (a0 : Array Value) (own nm : String) (bytes : ByteArray) (maxL : Nat) (rt : Option FieldType) (tabs : List Jvm.Cond) : Prop :=
  p.tables.exec = Jvm.exec ∧ Z.Warmed39 s.vm ∧ (∀ d ∈ tabs, d.before a0 Z = true) ∧ c.code = bytes ∧ c.maxLocals = maxL ∧ s.vm.findClass own = some m.cls ∧ meth.sig.returnType = rt ∧ meth.locks = false ∧ meth.name = nm
def PQ (w : Option Value) (h : Heap) (locs : List Loc) : Option Value → Heap → List Loc → Prop := fun v h' L => v = w ∧ h' = h ∧ L = locs
section GoKit
variable {p : Program} {l : Launch} {e : Env} {R : Room} {s : State} {m : MethodId} {args : Array Value} {below : List Frame} {meth : Method} {c : Code} {T : State} {locs : List Loc} {cells slots : Nat} {Z : State} {a0 : Array Value} {h : Heap} {nc ns : Nat} {Q Q' : Option Value → Heap → List Loc → Prop} {pc pc' : Nat} {Ls Ls' : Array Slot} {St : List Value} {own nm : String} {bytes : ByteArray} {maxL : Nat} {rt : Option FieldType} {tabs : List Jvm.Cond} {FX : Outcome → State → List Loc → Prop}
theorem Go.step {u u' : State} (st : ∀ t, Steps p.tables e below u' t → Steps p.tables e below u t) (k : GoX p e below FX Q u') : GoX p e below FX Q u := by
  obtain ⟨s₂, o, h1, h2⟩ := k
  exact ⟨s₂, o, st _ h1, h2⟩
theorem Go.mono {u : State} (q : ∀ v h L, Q v h L → Q' v h L) (k : GoX p e below FX Q u) : GoX p e below FX Q' u := by
  obtain ⟨s₂, o, h1, h2, h3, v, L, h4, h5, h6⟩ := k
  exact ⟨s₂, o, h1, h2, h3, v, L, h4, q _ _ _ h5, h6⟩
theorem Go.wid {u : State} {nc' ns' : Nat} (q1 : nc ≤ nc') (q2 : ns ≤ ns') (k : Go p e below s nc ns Q u) : Go p e below s nc' ns' Q u := by
  obtain ⟨s₂, o, h1, h2, h3, v, L, h4, h5, h6, h7, h8⟩ := k
  exact ⟨s₂, o, h1, h2, h3, v, L, h4, h5, h6, h7, h8.mono q1 q2⟩
theorem Go.cw {u : State} {w w' : Option Value} (q : w = w') (k : Go p e below s nc ns (PQ w h locs) u) : Go p e below s nc ns (PQ w' h locs) u := q ▸ k
theorem Go.top {g g' : JFrame} (q : g = g') (k : GoX p e below FX Q (T.setTop g')) : GoX p e below FX Q (T.setTop g) := q ▸ k
theorem Bdy.w (B : Bdy p s m meth c Z a0 own nm bytes maxL rt tabs) {d : Jvm.Cond} (i : Nat) (q : tabs[i]? = some d) : d.before a0 Z = true := B.2.2.1 _ (List.mem_of_getElem? q)
theorem Bdy.d (B : Bdy p s m meth c Z a0 own nm bytes maxL rt tabs) {r : Except ClassFile.DecodeError (ClassFile.Instr × Nat)} (q : decode bytes pc = r) : decode c.code pc = r := hb B.2.2.2.1 q
theorem Bdy.x (B : Bdy p s m meth c Z a0 own nm bytes maxL rt tabs) : p.tables.exec = Jvm.exec := B.1
theorem Bdy.z (B : Bdy p s m meth c Z a0 own nm bytes maxL rt tabs) : Z.Warmed39 s.vm := B.2.1
theorem Bdy.ml (B : Bdy p s m meth c Z a0 own nm bytes maxL rt tabs) : c.maxLocals = maxL := B.2.2.2.2.1
theorem Bdy.o (B : Bdy p s m meth c Z a0 own nm bytes maxL rt tabs) : s.vm.findClass own = some m.cls := B.2.2.2.2.2.1
theorem Bdy.r (B : Bdy p s m meth c Z a0 own nm bytes maxL rt tabs) : meth.sig.returnType = rt := B.2.2.2.2.2.2.1
theorem Bdy.lk (B : Bdy p s m meth c Z a0 own nm bytes maxL rt tabs) : meth.locks = false := B.2.2.2.2.2.2.2.1
theorem Bdy.n (B : Bdy p s m meth c Z a0 own nm bytes maxL rt tabs) : meth.name = nm := B.2.2.2.2.2.2.2.2
theorem g_iloadN (X : Stand p l e R s m args below meth c T locs cells slots) (B : Bdy p s m meth c Z a0 own nm bytes maxL rt tabs) {k : Fin 4} {v : Int32} (hd : decode bytes pc = .ok (.iload_n k, 1)) (hp : pc + 1 = pc') (hl : Ls[k.val]? = some (.val (.int v))) (K : GoX p e below FX Q (T.setTop (mkF m pc' Ls (.int v :: St)))) : GoX p e below FX Q (T.setTop (mkF m pc Ls St)) := by
  subst hp; exact Go.step (fun t q => XS.iloadN X.here B.x (g := mkF m pc Ls St) rfl (B.d hd) hl q) K
theorem g_iload (X : Stand p l e R s m args below meth c T locs cells slots) (B : Bdy p s m meth c Z a0 own nm bytes maxL rt tabs) {k : Nat} {v : Int32} (hd : decode bytes pc = .ok (.iload k, 2)) (hp : pc + 2 = pc') (hl : Ls[k]? = some (.val (.int v))) (K : GoX p e below FX Q (T.setTop (mkF m pc' Ls (.int v :: St)))) : GoX p e below FX Q (T.setTop (mkF m pc Ls St)) := by
  subst hp; exact Go.step (fun t q => XS.iload X.here B.x (g := mkF m pc Ls St) rfl (B.d hd) hl q) K
theorem g_lloadN (X : Stand p l e R s m args below meth c T locs cells slots) (B : Bdy p s m meth c Z a0 own nm bytes maxL rt tabs) {k : Fin 4} {v : Int64} (hd : decode bytes pc = .ok (.lload_n k, 1)) (hp : pc + 1 = pc') (hl : Ls[k.val]? = some (.val (.long v))) (K : GoX p e below FX Q (T.setTop (mkF m pc' Ls (.long v :: St)))) : GoX p e below FX Q (T.setTop (mkF m pc Ls St)) := by
  subst hp; exact Go.step (fun t q => XS.lloadN X.here B.x (g := mkF m pc Ls St) rfl (B.d hd) hl q) K
theorem g_lload (X : Stand p l e R s m args below meth c T locs cells slots) (B : Bdy p s m meth c Z a0 own nm bytes maxL rt tabs) {k : Nat} {v : Int64} (hd : decode bytes pc = .ok (.lload k, 2)) (hp : pc + 2 = pc') (hl : Ls[k]? = some (.val (.long v))) (K : GoX p e below FX Q (T.setTop (mkF m pc' Ls (.long v :: St)))) : GoX p e below FX Q (T.setTop (mkF m pc Ls St)) := by
  subst hp; exact Go.step (fun t q => XS.lload X.here B.x (g := mkF m pc Ls St) rfl (B.d hd) hl q) K
theorem g_aloadN (X : Stand p l e R s m args below meth c T locs cells slots) (B : Bdy p s m meth c Z a0 own nm bytes maxL rt tabs) {k : Fin 4} {v : Value} (hd : decode bytes pc = .ok (.aload_n k, 1)) (hp : pc + 1 = pc') (hl : Ls[k.val]? = some (.val v)) (hv : v.isRef = true) (K : GoX p e below FX Q (T.setTop (mkF m pc' Ls (v :: St)))) : GoX p e below FX Q (T.setTop (mkF m pc Ls St)) := by
  subst hp; exact Go.step (fun t q => XS.aloadN X.here B.x (g := mkF m pc Ls St) rfl (B.d hd) hl hv q) K
theorem g_aload (X : Stand p l e R s m args below meth c T locs cells slots) (B : Bdy p s m meth c Z a0 own nm bytes maxL rt tabs) {k : Nat} {v : Value} (hd : decode bytes pc = .ok (.aload k, 2)) (hp : pc + 2 = pc') (hl : Ls[k]? = some (.val v)) (hv : v.isRef = true) (K : GoX p e below FX Q (T.setTop (mkF m pc' Ls (v :: St)))) : GoX p e below FX Q (T.setTop (mkF m pc Ls St)) := by
  subst hp; exact Go.step (fun t q => XS.aload X.here B.x (g := mkF m pc Ls St) rfl (B.d hd) hl hv q) K
theorem g_istoreN (X : Stand p l e R s m args below meth c T locs cells slots) (B : Bdy p s m meth c Z a0 own nm bytes maxL rt tabs) {k : Fin 4} {v : Int32} (hd : decode bytes pc = .ok (.istore_n k, 1)) (hp : pc + 1 = pc') (hl : storeLocals Ls k.val (.int v) = some Ls') (K : GoX p e below FX Q (T.setTop (mkF m pc' Ls' St))) : GoX p e below FX Q (T.setTop (mkF m pc Ls (.int v :: St))) := by
  subst hp; exact Go.step (fun t q => XS.istoreN X.here B.x (g := mkF m pc Ls (.int v :: St)) rfl (B.d hd) rfl hl q) K
theorem g_istore (X : Stand p l e R s m args below meth c T locs cells slots) (B : Bdy p s m meth c Z a0 own nm bytes maxL rt tabs) {k : Nat} {v : Int32} (hd : decode bytes pc = .ok (.istore k, 2)) (hp : pc + 2 = pc') (hl : storeLocals Ls k (.int v) = some Ls') (K : GoX p e below FX Q (T.setTop (mkF m pc' Ls' St))) : GoX p e below FX Q (T.setTop (mkF m pc Ls (.int v :: St))) := by
  subst hp; exact Go.step (fun t q => XS.istore X.here B.x (g := mkF m pc Ls (.int v :: St)) rfl (B.d hd) rfl hl q) K
theorem g_lstoreN (X : Stand p l e R s m args below meth c T locs cells slots) (B : Bdy p s m meth c Z a0 own nm bytes maxL rt tabs) {k : Fin 4} {v : Int64} (hd : decode bytes pc = .ok (.lstore_n k, 1)) (hp : pc + 1 = pc') (hl : storeLocals Ls k.val (.long v) = some Ls') (K : GoX p e below FX Q (T.setTop (mkF m pc' Ls' St))) : GoX p e below FX Q (T.setTop (mkF m pc Ls (.long v :: St))) := by
  subst hp; exact Go.step (fun t q => XS.lstoreN X.here B.x (g := mkF m pc Ls (.long v :: St)) rfl (B.d hd) rfl hl q) K
theorem g_lstore (X : Stand p l e R s m args below meth c T locs cells slots) (B : Bdy p s m meth c Z a0 own nm bytes maxL rt tabs) {k : Nat} {v : Int64} (hd : decode bytes pc = .ok (.lstore k, 2)) (hp : pc + 2 = pc') (hl : storeLocals Ls k (.long v) = some Ls') (K : GoX p e below FX Q (T.setTop (mkF m pc' Ls' St))) : GoX p e below FX Q (T.setTop (mkF m pc Ls (.long v :: St))) := by
  subst hp; exact Go.step (fun t q => XS.lstore X.here B.x (g := mkF m pc Ls (.long v :: St)) rfl (B.d hd) rfl hl q) K
theorem g_astoreN (X : Stand p l e R s m args below meth c T locs cells slots) (B : Bdy p s m meth c Z a0 own nm bytes maxL rt tabs) {k : Fin 4} {v : Value} (hd : decode bytes pc = .ok (.astore_n k, 1)) (hp : pc + 1 = pc') (hv : v.isRef = true) (hl : storeLocals Ls k.val v = some Ls') (K : GoX p e below FX Q (T.setTop (mkF m pc' Ls' St))) : GoX p e below FX Q (T.setTop (mkF m pc Ls (v :: St))) := by
  subst hp; exact Go.step (fun t q => XS.astoreN X.here B.x (g := mkF m pc Ls (v :: St)) rfl (B.d hd) rfl hv hl q) K
theorem g_astore (X : Stand p l e R s m args below meth c T locs cells slots) (B : Bdy p s m meth c Z a0 own nm bytes maxL rt tabs) {k : Nat} {v : Value} (hd : decode bytes pc = .ok (.astore k, 2)) (hp : pc + 2 = pc') (hv : v.isRef = true) (hl : storeLocals Ls k v = some Ls') (K : GoX p e below FX Q (T.setTop (mkF m pc' Ls' St))) : GoX p e below FX Q (T.setTop (mkF m pc Ls (v :: St))) := by
  subst hp; exact Go.step (fun t q => XS.astore X.here B.x (g := mkF m pc Ls (v :: St)) rfl (B.d hd) rfl hv hl q) K
theorem g_iinc (X : Stand p l e R s m args below meth c T locs cells slots) (B : Bdy p s m meth c Z a0 own nm bytes maxL rt tabs) {k : Nat} {i : Int} {v : Int32} (hd : decode bytes pc = .ok (.iinc k i, 3)) (hp : pc + 3 = pc') (hl : Ls[k]? = some (.val (.int v))) (hs : storeLocals Ls k (.int (v + Int32.ofInt i)) = some Ls') (K : GoX p e below FX Q (T.setTop (mkF m pc' Ls' St))) : GoX p e below FX Q (T.setTop (mkF m pc Ls St)) := by
  subst hp; exact Go.step (fun t q => XS.iinc X.here B.x (g := mkF m pc Ls St) rfl (B.d hd) hl hs q) K
theorem g_iconst (X : Stand p l e R s m args below meth c T locs cells slots) (B : Bdy p s m meth c Z a0 own nm bytes maxL rt tabs) {i : Int} {v : Int32} (hd : decode bytes pc = .ok (.iconst i, 1)) (hp : pc + 1 = pc') (hv : Int32.ofInt i = v) (K : GoX p e below FX Q (T.setTop (mkF m pc' Ls (.int v :: St)))) : GoX p e below FX Q (T.setTop (mkF m pc Ls St)) := by
  subst hp hv; exact Go.step (fun t q => XS.iconst X.here B.x (g := mkF m pc Ls St) rfl (B.d hd) q) K
theorem g_bipush (X : Stand p l e R s m args below meth c T locs cells slots) (B : Bdy p s m meth c Z a0 own nm bytes maxL rt tabs) {i : Int} {v : Int32} (hd : decode bytes pc = .ok (.bipush i, 2)) (hp : pc + 2 = pc') (hv : (Int8.ofInt i).toInt32 = v) (K : GoX p e below FX Q (T.setTop (mkF m pc' Ls (.int v :: St)))) : GoX p e below FX Q (T.setTop (mkF m pc Ls St)) := by
  subst hp hv; exact Go.step (fun t q => XS.bipush X.here B.x (g := mkF m pc Ls St) rfl (B.d hd) q) K
theorem g_sipush (X : Stand p l e R s m args below meth c T locs cells slots) (B : Bdy p s m meth c Z a0 own nm bytes maxL rt tabs) {i : Int} {v : Int32} (hd : decode bytes pc = .ok (.sipush i, 3)) (hp : pc + 3 = pc') (hv : (Int16.ofInt i).toInt32 = v) (K : GoX p e below FX Q (T.setTop (mkF m pc' Ls (.int v :: St)))) : GoX p e below FX Q (T.setTop (mkF m pc Ls St)) := by
  subst hp hv; exact Go.step (fun t q => XS.sipush X.here B.x (g := mkF m pc Ls St) rfl (B.d hd) q) K
theorem g_lconst (X : Stand p l e R s m args below meth c T locs cells slots) (B : Bdy p s m meth c Z a0 own nm bytes maxL rt tabs) {k : Fin 2} {v : Int64} (hd : decode bytes pc = .ok (.lconst k, 1)) (hp : pc + 1 = pc') (hv : Int64.ofNat k = v) (K : GoX p e below FX Q (T.setTop (mkF m pc' Ls (.long v :: St)))) : GoX p e below FX Q (T.setTop (mkF m pc Ls St)) := by
  subst hp hv; exact Go.step (fun t q => XS.lconst X.here B.x (g := mkF m pc Ls St) rfl (B.d hd) q) K
theorem g_null (X : Stand p l e R s m args below meth c T locs cells slots) (B : Bdy p s m meth c Z a0 own nm bytes maxL rt tabs) (hd : decode bytes pc = .ok (.aconst_null, 1)) (hp : pc + 1 = pc') (K : GoX p e below FX Q (T.setTop (mkF m pc' Ls (.null :: St)))) : GoX p e below FX Q (T.setTop (mkF m pc Ls St)) := by
  subst hp; exact Go.step (fun t q => XS.aconstNull X.here B.x (g := mkF m pc Ls St) rfl (B.d hd) q) K
theorem g_ldc (X : Stand p l e R s m args below meth c T locs cells slots) (B : Bdy p s m meth c Z a0 own nm bytes maxL rt tabs) {i : Nat} {v : Int32} (w : (Jvm.Cond.constant own i v).before a0 Z = true) (hd : decode bytes pc = .ok (.ldc i, 2)) (hp : pc + 2 = pc') (K : GoX p e below FX Q (T.setTop (mkF m pc' Ls (.int v :: St)))) : GoX p e below FX Q (T.setTop (mkF m pc Ls St)) := by
  subst hp; exact Go.step (fun t q => X.ldcInt B.x B.o (mvT B.z w) (g := mkF m pc Ls St) rfl (B.d hd) t q) K
theorem g_ldcw (X : Stand p l e R s m args below meth c T locs cells slots) (B : Bdy p s m meth c Z a0 own nm bytes maxL rt tabs) {i : Nat} {v : Int32} (w : (Jvm.Cond.constant own i v).before a0 Z = true) (hd : decode bytes pc = .ok (.ldc_w i, 3)) (hp : pc + 3 = pc') (K : GoX p e below FX Q (T.setTop (mkF m pc' Ls (.int v :: St)))) : GoX p e below FX Q (T.setTop (mkF m pc Ls St)) := by
  subst hp; exact Go.step (fun t q => X.ldcwInt B.x B.o (mvT B.z w) (g := mkF m pc Ls St) rfl (B.d hd) t q) K
theorem g_ldc2 (X : Stand p l e R s m args below meth c T locs cells slots) (B : Bdy p s m meth c Z a0 own nm bytes maxL rt tabs) {i : Nat} {v : Int64} (w : (Jvm.Cond.constantLong own i v).before a0 Z = true) (hd : decode bytes pc = .ok (.ldc2_w i, 3)) (hp : pc + 3 = pc') (K : GoX p e below FX Q (T.setTop (mkF m pc' Ls (.long v :: St)))) : GoX p e below FX Q (T.setTop (mkF m pc Ls St)) := by
  subst hp; exact Go.step (fun t q => X.ldc2Long B.x B.o (mvT B.z w) (g := mkF m pc Ls St) rfl (B.d hd) t q) K
theorem g_iadd (X : Stand p l e R s m args below meth c T locs cells slots) (B : Bdy p s m meth c Z a0 own nm bytes maxL rt tabs) {x y : Int32} (hd : decode bytes pc = .ok (.iadd, 1)) (hp : pc + 1 = pc') (K : GoX p e below FX Q (T.setTop (mkF m pc' Ls (.int (x + y) :: St)))) : GoX p e below FX Q (T.setTop (mkF m pc Ls (.int y :: .int x :: St))) := by
  subst hp; exact Go.step (fun t q => XS.iadd X.here B.x (g := mkF m pc Ls (.int y :: .int x :: St)) rfl (B.d hd) rfl q) K
theorem g_isub (X : Stand p l e R s m args below meth c T locs cells slots) (B : Bdy p s m meth c Z a0 own nm bytes maxL rt tabs) {x y : Int32} (hd : decode bytes pc = .ok (.isub, 1)) (hp : pc + 1 = pc') (K : GoX p e below FX Q (T.setTop (mkF m pc' Ls (.int (x - y) :: St)))) : GoX p e below FX Q (T.setTop (mkF m pc Ls (.int y :: .int x :: St))) := by
  subst hp; exact Go.step (fun t q => XS.isub X.here B.x (g := mkF m pc Ls (.int y :: .int x :: St)) rfl (B.d hd) rfl q) K
theorem g_imul (X : Stand p l e R s m args below meth c T locs cells slots) (B : Bdy p s m meth c Z a0 own nm bytes maxL rt tabs) {x y : Int32} (hd : decode bytes pc = .ok (.imul, 1)) (hp : pc + 1 = pc') (K : GoX p e below FX Q (T.setTop (mkF m pc' Ls (.int (x * y) :: St)))) : GoX p e below FX Q (T.setTop (mkF m pc Ls (.int y :: .int x :: St))) := by
  subst hp; exact Go.step (fun t q => XS.imul X.here B.x (g := mkF m pc Ls (.int y :: .int x :: St)) rfl (B.d hd) rfl q) K
theorem g_iand (X : Stand p l e R s m args below meth c T locs cells slots) (B : Bdy p s m meth c Z a0 own nm bytes maxL rt tabs) {x y : Int32} (hd : decode bytes pc = .ok (.iand, 1)) (hp : pc + 1 = pc') (K : GoX p e below FX Q (T.setTop (mkF m pc' Ls (.int (x &&& y) :: St)))) : GoX p e below FX Q (T.setTop (mkF m pc Ls (.int y :: .int x :: St))) := by
  subst hp; exact Go.step (fun t q => XS.iand X.here B.x (g := mkF m pc Ls (.int y :: .int x :: St)) rfl (B.d hd) rfl q) K
theorem g_ior (X : Stand p l e R s m args below meth c T locs cells slots) (B : Bdy p s m meth c Z a0 own nm bytes maxL rt tabs) {x y : Int32} (hd : decode bytes pc = .ok (.ior, 1)) (hp : pc + 1 = pc') (K : GoX p e below FX Q (T.setTop (mkF m pc' Ls (.int (x ||| y) :: St)))) : GoX p e below FX Q (T.setTop (mkF m pc Ls (.int y :: .int x :: St))) := by
  subst hp; exact Go.step (fun t q => XS.ior X.here B.x (g := mkF m pc Ls (.int y :: .int x :: St)) rfl (B.d hd) rfl q) K
theorem g_ixor (X : Stand p l e R s m args below meth c T locs cells slots) (B : Bdy p s m meth c Z a0 own nm bytes maxL rt tabs) {x y : Int32} (hd : decode bytes pc = .ok (.ixor, 1)) (hp : pc + 1 = pc') (K : GoX p e below FX Q (T.setTop (mkF m pc' Ls (.int (x ^^^ y) :: St)))) : GoX p e below FX Q (T.setTop (mkF m pc Ls (.int y :: .int x :: St))) := by
  subst hp; exact Go.step (fun t q => XS.ixor X.here B.x (g := mkF m pc Ls (.int y :: .int x :: St)) rfl (B.d hd) rfl q) K
theorem g_ishl (X : Stand p l e R s m args below meth c T locs cells slots) (B : Bdy p s m meth c Z a0 own nm bytes maxL rt tabs) {x z : Int32} {y : Int32} (hd : decode bytes pc = .ok (.ishl, 1)) (hp : pc + 1 = pc') (hz : x <<< (y &&& 31) = z) (K : GoX p e below FX Q (T.setTop (mkF m pc' Ls (.int z :: St)))) : GoX p e below FX Q (T.setTop (mkF m pc Ls (.int y :: .int x :: St))) := by
  subst hp hz; exact Go.step (fun t q => XS.ishl X.here B.x (g := mkF m pc Ls (.int y :: .int x :: St)) rfl (B.d hd) rfl q) K
theorem g_ishr (X : Stand p l e R s m args below meth c T locs cells slots) (B : Bdy p s m meth c Z a0 own nm bytes maxL rt tabs) {x z : Int32} {y : Int32} (hd : decode bytes pc = .ok (.ishr, 1)) (hp : pc + 1 = pc') (hz : x >>> (y &&& 31) = z) (K : GoX p e below FX Q (T.setTop (mkF m pc' Ls (.int z :: St)))) : GoX p e below FX Q (T.setTop (mkF m pc Ls (.int y :: .int x :: St))) := by
  subst hp hz; exact Go.step (fun t q => XS.ishr X.here B.x (g := mkF m pc Ls (.int y :: .int x :: St)) rfl (B.d hd) rfl q) K
theorem g_iushr (X : Stand p l e R s m args below meth c T locs cells slots) (B : Bdy p s m meth c Z a0 own nm bytes maxL rt tabs) {x z : Int32} {y : Int32} (hd : decode bytes pc = .ok (.iushr, 1)) (hp : pc + 1 = pc') (hz : (x.toUInt32 >>> (y &&& 31).toUInt32).toInt32 = z) (K : GoX p e below FX Q (T.setTop (mkF m pc' Ls (.int z :: St)))) : GoX p e below FX Q (T.setTop (mkF m pc Ls (.int y :: .int x :: St))) := by
  subst hp hz; exact Go.step (fun t q => XS.iushr X.here B.x (g := mkF m pc Ls (.int y :: .int x :: St)) rfl (B.d hd) rfl q) K
theorem g_ladd (X : Stand p l e R s m args below meth c T locs cells slots) (B : Bdy p s m meth c Z a0 own nm bytes maxL rt tabs) {x y : Int64} (hd : decode bytes pc = .ok (.ladd, 1)) (hp : pc + 1 = pc') (K : GoX p e below FX Q (T.setTop (mkF m pc' Ls (.long (x + y) :: St)))) : GoX p e below FX Q (T.setTop (mkF m pc Ls (.long y :: .long x :: St))) := by
  subst hp; exact Go.step (fun t q => XS.ladd X.here B.x (g := mkF m pc Ls (.long y :: .long x :: St)) rfl (B.d hd) rfl q) K
theorem g_lsub (X : Stand p l e R s m args below meth c T locs cells slots) (B : Bdy p s m meth c Z a0 own nm bytes maxL rt tabs) {x y : Int64} (hd : decode bytes pc = .ok (.lsub, 1)) (hp : pc + 1 = pc') (K : GoX p e below FX Q (T.setTop (mkF m pc' Ls (.long (x - y) :: St)))) : GoX p e below FX Q (T.setTop (mkF m pc Ls (.long y :: .long x :: St))) := by
  subst hp; exact Go.step (fun t q => XS.lsub X.here B.x (g := mkF m pc Ls (.long y :: .long x :: St)) rfl (B.d hd) rfl q) K
theorem g_lmul (X : Stand p l e R s m args below meth c T locs cells slots) (B : Bdy p s m meth c Z a0 own nm bytes maxL rt tabs) {x y : Int64} (hd : decode bytes pc = .ok (.lmul, 1)) (hp : pc + 1 = pc') (K : GoX p e below FX Q (T.setTop (mkF m pc' Ls (.long (x * y) :: St)))) : GoX p e below FX Q (T.setTop (mkF m pc Ls (.long y :: .long x :: St))) := by
  subst hp; exact Go.step (fun t q => XS.lmul X.here B.x (g := mkF m pc Ls (.long y :: .long x :: St)) rfl (B.d hd) rfl q) K
theorem g_land (X : Stand p l e R s m args below meth c T locs cells slots) (B : Bdy p s m meth c Z a0 own nm bytes maxL rt tabs) {x y : Int64} (hd : decode bytes pc = .ok (.land, 1)) (hp : pc + 1 = pc') (K : GoX p e below FX Q (T.setTop (mkF m pc' Ls (.long (x &&& y) :: St)))) : GoX p e below FX Q (T.setTop (mkF m pc Ls (.long y :: .long x :: St))) := by
  subst hp; exact Go.step (fun t q => XS.land X.here B.x (g := mkF m pc Ls (.long y :: .long x :: St)) rfl (B.d hd) rfl q) K
theorem g_lor (X : Stand p l e R s m args below meth c T locs cells slots) (B : Bdy p s m meth c Z a0 own nm bytes maxL rt tabs) {x y : Int64} (hd : decode bytes pc = .ok (.lor, 1)) (hp : pc + 1 = pc') (K : GoX p e below FX Q (T.setTop (mkF m pc' Ls (.long (x ||| y) :: St)))) : GoX p e below FX Q (T.setTop (mkF m pc Ls (.long y :: .long x :: St))) := by
  subst hp; exact Go.step (fun t q => XS.lor X.here B.x (g := mkF m pc Ls (.long y :: .long x :: St)) rfl (B.d hd) rfl q) K
theorem g_lxor (X : Stand p l e R s m args below meth c T locs cells slots) (B : Bdy p s m meth c Z a0 own nm bytes maxL rt tabs) {x y : Int64} (hd : decode bytes pc = .ok (.lxor, 1)) (hp : pc + 1 = pc') (K : GoX p e below FX Q (T.setTop (mkF m pc' Ls (.long (x ^^^ y) :: St)))) : GoX p e below FX Q (T.setTop (mkF m pc Ls (.long y :: .long x :: St))) := by
  subst hp; exact Go.step (fun t q => XS.lxor X.here B.x (g := mkF m pc Ls (.long y :: .long x :: St)) rfl (B.d hd) rfl q) K
theorem g_lshl (X : Stand p l e R s m args below meth c T locs cells slots) (B : Bdy p s m meth c Z a0 own nm bytes maxL rt tabs) {x z : Int64} {y : Int32} (hd : decode bytes pc = .ok (.lshl, 1)) (hp : pc + 1 = pc') (hz : x <<< (y &&& 63).toInt64 = z) (K : GoX p e below FX Q (T.setTop (mkF m pc' Ls (.long z :: St)))) : GoX p e below FX Q (T.setTop (mkF m pc Ls (.int y :: .long x :: St))) := by
  subst hp hz; exact Go.step (fun t q => XS.lshl X.here B.x (g := mkF m pc Ls (.int y :: .long x :: St)) rfl (B.d hd) rfl q) K
theorem g_lshr (X : Stand p l e R s m args below meth c T locs cells slots) (B : Bdy p s m meth c Z a0 own nm bytes maxL rt tabs) {x z : Int64} {y : Int32} (hd : decode bytes pc = .ok (.lshr, 1)) (hp : pc + 1 = pc') (hz : x >>> (y &&& 63).toInt64 = z) (K : GoX p e below FX Q (T.setTop (mkF m pc' Ls (.long z :: St)))) : GoX p e below FX Q (T.setTop (mkF m pc Ls (.int y :: .long x :: St))) := by
  subst hp hz; exact Go.step (fun t q => XS.lshr X.here B.x (g := mkF m pc Ls (.int y :: .long x :: St)) rfl (B.d hd) rfl q) K
theorem g_lushr (X : Stand p l e R s m args below meth c T locs cells slots) (B : Bdy p s m meth c Z a0 own nm bytes maxL rt tabs) {x z : Int64} {y : Int32} (hd : decode bytes pc = .ok (.lushr, 1)) (hp : pc + 1 = pc') (hz : (x.toUInt64 >>> (y &&& 63).toInt64.toUInt64).toInt64 = z) (K : GoX p e below FX Q (T.setTop (mkF m pc' Ls (.long z :: St)))) : GoX p e below FX Q (T.setTop (mkF m pc Ls (.int y :: .long x :: St))) := by
  subst hp hz; exact Go.step (fun t q => XS.lushr X.here B.x (g := mkF m pc Ls (.int y :: .long x :: St)) rfl (B.d hd) rfl q) K
theorem g_ineg (X : Stand p l e R s m args below meth c T locs cells slots) (B : Bdy p s m meth c Z a0 own nm bytes maxL rt tabs) {x : Int32} (hd : decode bytes pc = .ok (.ineg, 1)) (hp : pc + 1 = pc') (K : GoX p e below FX Q (T.setTop (mkF m pc' Ls (.int ((-x)) :: St)))) : GoX p e below FX Q (T.setTop (mkF m pc Ls (.int x :: St))) := by
  subst hp; exact Go.step (fun t q => XS.ineg X.here B.x (g := mkF m pc Ls (.int x :: St)) rfl (B.d hd) rfl q) K
theorem g_lneg (X : Stand p l e R s m args below meth c T locs cells slots) (B : Bdy p s m meth c Z a0 own nm bytes maxL rt tabs) {x : Int64} (hd : decode bytes pc = .ok (.lneg, 1)) (hp : pc + 1 = pc') (K : GoX p e below FX Q (T.setTop (mkF m pc' Ls (.long ((-x)) :: St)))) : GoX p e below FX Q (T.setTop (mkF m pc Ls (.long x :: St))) := by
  subst hp; exact Go.step (fun t q => XS.lneg X.here B.x (g := mkF m pc Ls (.long x :: St)) rfl (B.d hd) rfl q) K
theorem g_i2l (X : Stand p l e R s m args below meth c T locs cells slots) (B : Bdy p s m meth c Z a0 own nm bytes maxL rt tabs) {x : Int32} (hd : decode bytes pc = .ok (.i2l, 1)) (hp : pc + 1 = pc') (K : GoX p e below FX Q (T.setTop (mkF m pc' Ls (.long (x.toInt64) :: St)))) : GoX p e below FX Q (T.setTop (mkF m pc Ls (.int x :: St))) := by
  subst hp; exact Go.step (fun t q => XS.i2l X.here B.x (g := mkF m pc Ls (.int x :: St)) rfl (B.d hd) rfl q) K
theorem g_l2i (X : Stand p l e R s m args below meth c T locs cells slots) (B : Bdy p s m meth c Z a0 own nm bytes maxL rt tabs) {x : Int64} (hd : decode bytes pc = .ok (.l2i, 1)) (hp : pc + 1 = pc') (K : GoX p e below FX Q (T.setTop (mkF m pc' Ls (.int (x.toInt32) :: St)))) : GoX p e below FX Q (T.setTop (mkF m pc Ls (.long x :: St))) := by
  subst hp; exact Go.step (fun t q => XS.l2i X.here B.x (g := mkF m pc Ls (.long x :: St)) rfl (B.d hd) rfl q) K
theorem g_i2b (X : Stand p l e R s m args below meth c T locs cells slots) (B : Bdy p s m meth c Z a0 own nm bytes maxL rt tabs) {x : Int32} (hd : decode bytes pc = .ok (.i2b, 1)) (hp : pc + 1 = pc') (K : GoX p e below FX Q (T.setTop (mkF m pc' Ls (.int (x.toInt8.toInt32) :: St)))) : GoX p e below FX Q (T.setTop (mkF m pc Ls (.int x :: St))) := by
  subst hp; exact Go.step (fun t q => XS.i2b X.here B.x (g := mkF m pc Ls (.int x :: St)) rfl (B.d hd) rfl q) K
theorem g_i2s (X : Stand p l e R s m args below meth c T locs cells slots) (B : Bdy p s m meth c Z a0 own nm bytes maxL rt tabs) {x : Int32} (hd : decode bytes pc = .ok (.i2s, 1)) (hp : pc + 1 = pc') (K : GoX p e below FX Q (T.setTop (mkF m pc' Ls (.int (x.toInt16.toInt32) :: St)))) : GoX p e below FX Q (T.setTop (mkF m pc Ls (.int x :: St))) := by
  subst hp; exact Go.step (fun t q => XS.i2s X.here B.x (g := mkF m pc Ls (.int x :: St)) rfl (B.d hd) rfl q) K
theorem g_i2c (X : Stand p l e R s m args below meth c T locs cells slots) (B : Bdy p s m meth c Z a0 own nm bytes maxL rt tabs) {x : Int32} (hd : decode bytes pc = .ok (.i2c, 1)) (hp : pc + 1 = pc') (K : GoX p e below FX Q (T.setTop (mkF m pc' Ls (.int (x.toUInt32.toUInt16.toUInt32.toInt32) :: St)))) : GoX p e below FX Q (T.setTop (mkF m pc Ls (.int x :: St))) := by
  subst hp; exact Go.step (fun t q => XS.i2c X.here B.x (g := mkF m pc Ls (.int x :: St)) rfl (B.d hd) rfl q) K
theorem g_irem (X : Stand p l e R s m args below meth c T locs cells slots) (B : Bdy p s m meth c Z a0 own nm bytes maxL rt tabs) {x y : Int32} (hy : y ≠ 0) (hd : decode bytes pc = .ok (.irem, 1)) (hp : pc + 1 = pc') (K : GoX p e below FX Q (T.setTop (mkF m pc' Ls (.int (x % y) :: St)))) : GoX p e below FX Q (T.setTop (mkF m pc Ls (.int y :: .int x :: St))) := by
  subst hp; exact Go.step (fun t q => Jvm.RoadKit.iremM X B.x (g := mkF m pc Ls (.int y :: .int x :: St)) rfl (B.d hd) rfl hy q) K
theorem g_idiv (X : Stand p l e R s m args below meth c T locs cells slots) (B : Bdy p s m meth c Z a0 own nm bytes maxL rt tabs) {x y : Int32} (hy : y ≠ 0) (hd : decode bytes pc = .ok (.idiv, 1)) (hp : pc + 1 = pc') (K : GoX p e below FX Q (T.setTop (mkF m pc' Ls (.int (x / y) :: St)))) : GoX p e below FX Q (T.setTop (mkF m pc Ls (.int y :: .int x :: St))) := by
  subst hp; exact Go.step (fun t q => XS.idiv X.here B.x (g := mkF m pc Ls (.int y :: .int x :: St)) rfl (B.d hd) rfl hy q) K
theorem g_ldiv (X : Stand p l e R s m args below meth c T locs cells slots) (B : Bdy p s m meth c Z a0 own nm bytes maxL rt tabs) {x y : Int64} (hy : y ≠ 0) (hd : decode bytes pc = .ok (.ldiv, 1)) (hp : pc + 1 = pc') (K : GoX p e below FX Q (T.setTop (mkF m pc' Ls (.long (x / y) :: St)))) : GoX p e below FX Q (T.setTop (mkF m pc Ls (.long y :: .long x :: St))) := by
  subst hp; exact Go.step (fun t q => XS.ldiv X.here B.x (g := mkF m pc Ls (.long y :: .long x :: St)) rfl (B.d hd) rfl hy q) K
theorem g_lrem (X : Stand p l e R s m args below meth c T locs cells slots) (B : Bdy p s m meth c Z a0 own nm bytes maxL rt tabs) {x y : Int64} (hy : y ≠ 0) (hd : decode bytes pc = .ok (.lrem, 1)) (hp : pc + 1 = pc') (K : GoX p e below FX Q (T.setTop (mkF m pc' Ls (.long (x % y) :: St)))) : GoX p e below FX Q (T.setTop (mkF m pc Ls (.long y :: .long x :: St))) := by
  subst hp; rw [← lrem_mod] at K; exact Go.step (fun t q => XS.lrem X.here B.x (g := mkF m pc Ls (.long y :: .long x :: St)) rfl (B.d hd) rfl hy q) K
theorem g_dup (X : Stand p l e R s m args below meth c T locs cells slots) (B : Bdy p s m meth c Z a0 own nm bytes maxL rt tabs) {v : Value} (hd : decode bytes pc = .ok (.dup, 1)) (hp : pc + 1 = pc') (hv : v.category = 1) (K : GoX p e below FX Q (T.setTop (mkF m pc' Ls (v :: v :: St)))) : GoX p e below FX Q (T.setTop (mkF m pc Ls (v :: St))) := by
  subst hp; exact Go.step (fun t q => XS.dup X.here B.x (g := mkF m pc Ls (v :: St)) rfl (B.d hd) rfl hv q) K
theorem g_dupX1 (X : Stand p l e R s m args below meth c T locs cells slots) (B : Bdy p s m meth c Z a0 own nm bytes maxL rt tabs) {v w : Value} (hd : decode bytes pc = .ok (.dup_x1, 1)) (hp : pc + 1 = pc') (hv : v.category = 1) (hw : w.category = 1) (K : GoX p e below FX Q (T.setTop (mkF m pc' Ls (v :: w :: v :: St)))) : GoX p e below FX Q (T.setTop (mkF m pc Ls (v :: w :: St))) := by
  subst hp; exact Go.step (fun t q => XS.dupX1 X.here B.x (g := mkF m pc Ls (v :: w :: St)) rfl (B.d hd) rfl hv hw q) K
theorem g_dup2 (X : Stand p l e R s m args below meth c T locs cells slots) (B : Bdy p s m meth c Z a0 own nm bytes maxL rt tabs) {v w : Value} (hd : decode bytes pc = .ok (.dup2, 1)) (hp : pc + 1 = pc') (hv : v.category = 1) (hw : w.category = 1) (K : GoX p e below FX Q (T.setTop (mkF m pc' Ls (v :: w :: v :: w :: St)))) : GoX p e below FX Q (T.setTop (mkF m pc Ls (v :: w :: St))) := by
  subst hp; have hd' := B.d hd; have hx := B.x
  refine Go.step (fun t q => ?_) K
  jvm_step X.here [X.here.top, hx, hd', hv, hw]
  exact q
theorem g_dup2L (X : Stand p l e R s m args below meth c T locs cells slots) (B : Bdy p s m meth c Z a0 own nm bytes maxL rt tabs) {v : Int64} (hd : decode bytes pc = .ok (.dup2, 1)) (hp : pc + 1 = pc') (K : GoX p e below FX Q (T.setTop (mkF m pc' Ls (.long v :: .long v :: St)))) : GoX p e below FX Q (T.setTop (mkF m pc Ls (.long v :: St))) := by
  subst hp; have hd' := B.d hd; have hx := B.x
  refine Go.step (fun t q => ?_) K
  jvm_step X.here [X.here.top, hx, hd', Value.category]
  exact q
theorem g_pop (X : Stand p l e R s m args below meth c T locs cells slots) (B : Bdy p s m meth c Z a0 own nm bytes maxL rt tabs) {v : Value} (hd : decode bytes pc = .ok (.pop, 1)) (hp : pc + 1 = pc') (hv : v.category = 1) (K : GoX p e below FX Q (T.setTop (mkF m pc' Ls St))) : GoX p e below FX Q (T.setTop (mkF m pc Ls (v :: St))) := by
  subst hp; exact Go.step (fun t q => XS.pop X.here B.x (g := mkF m pc Ls (v :: St)) rfl (B.d hd) rfl hv q) K
theorem g_goto (X : Stand p l e R s m args below meth c T locs cells slots) (B : Bdy p s m meth c Z a0 own nm bytes maxL rt tabs) {o : Int} (hd : decode bytes pc = .ok (.goto o, 3)) (ho : 0 ≤ (pc : Int) + o) (hp : ((pc : Int) + o).toNat = pc') (K : GoX p e below FX Q (T.setTop (mkF m pc' Ls St))) : GoX p e below FX Q (T.setTop (mkF m pc Ls St)) :=
  Go.step (fun t q => XS.goto X.here B.x (g := mkF m pc Ls St) rfl rfl (B.d hd) ho hp q) K
/-! branches: K1 where the comparison holds, K2 where it doesn't -/
theorem g_icmp_lt (X : Stand p l e R s m args below meth c T locs cells slots) (B : Bdy p s m meth c Z a0 own nm bytes maxL rt tabs) {x y : Int32} {o : Int} {pcT pcF : Nat} (hd : decode bytes pc = .ok (.if_icmp .lt o, 3)) (ho : 0 ≤ (pc : Int) + o) (hT : ((pc : Int) + o).toNat = pcT) (hF : pc + 3 = pcF) (K1 : x < y → GoX p e below FX Q (T.setTop (mkF m pcT Ls St))) (K2 : ¬ x < y → GoX p e below FX Q (T.setTop (mkF m pcF Ls St))) : GoX p e below FX Q (T.setTop (mkF m pc Ls (.int y :: .int x :: St))) := by
  by_cases q : x < y
  · exact Go.step (fun t k => XS.icmpYes X.here B.x (g := mkF m pc Ls (.int y :: .int x :: St)) rfl rfl (B.d hd) rfl (tlt q).1 ho hT k) (K1 q)
  · subst hF; exact Go.step (fun t k => XS.icmpNo X.here B.x (g := mkF m pc Ls (.int y :: .int x :: St)) rfl (B.d hd) rfl (flt q).1 k) (K2 q)
theorem g_if_lt (X : Stand p l e R s m args below meth c T locs cells slots) (B : Bdy p s m meth c Z a0 own nm bytes maxL rt tabs) {x : Int32} {o : Int} {pcT pcF : Nat} (hd : decode bytes pc = .ok (.ifCond .lt o, 3)) (ho : 0 ≤ (pc : Int) + o) (hT : ((pc : Int) + o).toNat = pcT) (hF : pc + 3 = pcF) (K1 : x < (0 : Int32) → GoX p e below FX Q (T.setTop (mkF m pcT Ls St))) (K2 : ¬ x < (0 : Int32) → GoX p e below FX Q (T.setTop (mkF m pcF Ls St))) : GoX p e below FX Q (T.setTop (mkF m pc Ls (.int x :: St))) := by
  by_cases q : x < (0 : Int32)
  · exact Go.step (fun t k => XS.ifYes X.here B.x (g := mkF m pc Ls (.int x :: St)) rfl rfl (B.d hd) rfl ((if0 _ _).trans (tlt q).1) ho hT k) (K1 q)
  · subst hF; exact Go.step (fun t k => XS.ifNo X.here B.x (g := mkF m pc Ls (.int x :: St)) rfl (B.d hd) rfl ((if0 _ _).trans (flt q).1) k) (K2 q)
theorem g_lcmp_lt (X : Stand p l e R s m args below meth c T locs cells slots) (B : Bdy p s m meth c Z a0 own nm bytes maxL rt tabs) {x y : Int64} {o : Int} {pcT pcF : Nat} (hd1 : decode bytes pc = .ok (.lcmp, 1)) (hd : decode bytes (pc + 1) = .ok (.ifCond .lt o, 3)) (ho : 0 ≤ ((pc + 1 : Nat) : Int) + o) (hT : (((pc + 1 : Nat) : Int) + o).toNat = pcT) (hF : pc + 4 = pcF) (K1 : x < y → GoX p e below FX Q (T.setTop (mkF m pcT Ls St))) (K2 : ¬ x < y → GoX p e below FX Q (T.setTop (mkF m pcF Ls St))) : GoX p e below FX Q (T.setTop (mkF m pc Ls (.long y :: .long x :: St))) :=
  Go.step (fun t q => XS.lcmp X.here B.x (g := mkF m pc Ls (.long y :: .long x :: St)) rfl (B.d hd1) rfl q) (g_if_lt X B hd ho hT hF (fun q => K1 ((lw_lt x y).mp q)) (fun q => K2 fun z => q ((lw_lt x y).mpr z)))
theorem g_icmp_ge (X : Stand p l e R s m args below meth c T locs cells slots) (B : Bdy p s m meth c Z a0 own nm bytes maxL rt tabs) {x y : Int32} {o : Int} {pcT pcF : Nat} (hd : decode bytes pc = .ok (.if_icmp .ge o, 3)) (ho : 0 ≤ (pc : Int) + o) (hT : ((pc : Int) + o).toNat = pcT) (hF : pc + 3 = pcF) (K1 : x < y → GoX p e below FX Q (T.setTop (mkF m pcF Ls St))) (K2 : ¬ x < y → GoX p e below FX Q (T.setTop (mkF m pcT Ls St))) : GoX p e below FX Q (T.setTop (mkF m pc Ls (.int y :: .int x :: St))) := by
  by_cases q : x < y
  · subst hF; exact Go.step (fun t k => XS.icmpNo X.here B.x (g := mkF m pc Ls (.int y :: .int x :: St)) rfl (B.d hd) rfl (tlt q).2.1 k) (K1 q)
  · exact Go.step (fun t k => XS.icmpYes X.here B.x (g := mkF m pc Ls (.int y :: .int x :: St)) rfl rfl (B.d hd) rfl (flt q).2.1 ho hT k) (K2 q)
theorem g_if_ge (X : Stand p l e R s m args below meth c T locs cells slots) (B : Bdy p s m meth c Z a0 own nm bytes maxL rt tabs) {x : Int32} {o : Int} {pcT pcF : Nat} (hd : decode bytes pc = .ok (.ifCond .ge o, 3)) (ho : 0 ≤ (pc : Int) + o) (hT : ((pc : Int) + o).toNat = pcT) (hF : pc + 3 = pcF) (K1 : x < (0 : Int32) → GoX p e below FX Q (T.setTop (mkF m pcF Ls St))) (K2 : ¬ x < (0 : Int32) → GoX p e below FX Q (T.setTop (mkF m pcT Ls St))) : GoX p e below FX Q (T.setTop (mkF m pc Ls (.int x :: St))) := by
  by_cases q : x < (0 : Int32)
  · subst hF; exact Go.step (fun t k => XS.ifNo X.here B.x (g := mkF m pc Ls (.int x :: St)) rfl (B.d hd) rfl ((if0 _ _).trans (tlt q).2.1) k) (K1 q)
  · exact Go.step (fun t k => XS.ifYes X.here B.x (g := mkF m pc Ls (.int x :: St)) rfl rfl (B.d hd) rfl ((if0 _ _).trans (flt q).2.1) ho hT k) (K2 q)
theorem g_lcmp_ge (X : Stand p l e R s m args below meth c T locs cells slots) (B : Bdy p s m meth c Z a0 own nm bytes maxL rt tabs) {x y : Int64} {o : Int} {pcT pcF : Nat} (hd1 : decode bytes pc = .ok (.lcmp, 1)) (hd : decode bytes (pc + 1) = .ok (.ifCond .ge o, 3)) (ho : 0 ≤ ((pc + 1 : Nat) : Int) + o) (hT : (((pc + 1 : Nat) : Int) + o).toNat = pcT) (hF : pc + 4 = pcF) (K1 : x < y → GoX p e below FX Q (T.setTop (mkF m pcF Ls St))) (K2 : ¬ x < y → GoX p e below FX Q (T.setTop (mkF m pcT Ls St))) : GoX p e below FX Q (T.setTop (mkF m pc Ls (.long y :: .long x :: St))) :=
  Go.step (fun t q => XS.lcmp X.here B.x (g := mkF m pc Ls (.long y :: .long x :: St)) rfl (B.d hd1) rfl q) (g_if_ge X B hd ho hT hF (fun q => K1 ((lw_lt x y).mp q)) (fun q => K2 fun z => q ((lw_lt x y).mpr z)))
theorem g_icmp_gt (X : Stand p l e R s m args below meth c T locs cells slots) (B : Bdy p s m meth c Z a0 own nm bytes maxL rt tabs) {x y : Int32} {o : Int} {pcT pcF : Nat} (hd : decode bytes pc = .ok (.if_icmp .gt o, 3)) (ho : 0 ≤ (pc : Int) + o) (hT : ((pc : Int) + o).toNat = pcT) (hF : pc + 3 = pcF) (K1 : y < x → GoX p e below FX Q (T.setTop (mkF m pcT Ls St))) (K2 : ¬ y < x → GoX p e below FX Q (T.setTop (mkF m pcF Ls St))) : GoX p e below FX Q (T.setTop (mkF m pc Ls (.int y :: .int x :: St))) := by
  by_cases q : y < x
  · exact Go.step (fun t k => XS.icmpYes X.here B.x (g := mkF m pc Ls (.int y :: .int x :: St)) rfl rfl (B.d hd) rfl (tlt q).2.2.1 ho hT k) (K1 q)
  · subst hF; exact Go.step (fun t k => XS.icmpNo X.here B.x (g := mkF m pc Ls (.int y :: .int x :: St)) rfl (B.d hd) rfl (flt q).2.2.1 k) (K2 q)
theorem g_if_gt (X : Stand p l e R s m args below meth c T locs cells slots) (B : Bdy p s m meth c Z a0 own nm bytes maxL rt tabs) {x : Int32} {o : Int} {pcT pcF : Nat} (hd : decode bytes pc = .ok (.ifCond .gt o, 3)) (ho : 0 ≤ (pc : Int) + o) (hT : ((pc : Int) + o).toNat = pcT) (hF : pc + 3 = pcF) (K1 : (0 : Int32) < x → GoX p e below FX Q (T.setTop (mkF m pcT Ls St))) (K2 : ¬ (0 : Int32) < x → GoX p e below FX Q (T.setTop (mkF m pcF Ls St))) : GoX p e below FX Q (T.setTop (mkF m pc Ls (.int x :: St))) := by
  by_cases q : (0 : Int32) < x
  · exact Go.step (fun t k => XS.ifYes X.here B.x (g := mkF m pc Ls (.int x :: St)) rfl rfl (B.d hd) rfl ((if0 _ _).trans (tlt q).2.2.1) ho hT k) (K1 q)
  · subst hF; exact Go.step (fun t k => XS.ifNo X.here B.x (g := mkF m pc Ls (.int x :: St)) rfl (B.d hd) rfl ((if0 _ _).trans (flt q).2.2.1) k) (K2 q)
theorem g_lcmp_gt (X : Stand p l e R s m args below meth c T locs cells slots) (B : Bdy p s m meth c Z a0 own nm bytes maxL rt tabs) {x y : Int64} {o : Int} {pcT pcF : Nat} (hd1 : decode bytes pc = .ok (.lcmp, 1)) (hd : decode bytes (pc + 1) = .ok (.ifCond .gt o, 3)) (ho : 0 ≤ ((pc + 1 : Nat) : Int) + o) (hT : (((pc + 1 : Nat) : Int) + o).toNat = pcT) (hF : pc + 4 = pcF) (K1 : y < x → GoX p e below FX Q (T.setTop (mkF m pcT Ls St))) (K2 : ¬ y < x → GoX p e below FX Q (T.setTop (mkF m pcF Ls St))) : GoX p e below FX Q (T.setTop (mkF m pc Ls (.long y :: .long x :: St))) :=
  Go.step (fun t q => XS.lcmp X.here B.x (g := mkF m pc Ls (.long y :: .long x :: St)) rfl (B.d hd1) rfl q) (g_if_gt X B hd ho hT hF (fun q => K1 ((lw_gt x y).mp q)) (fun q => K2 fun z => q ((lw_gt x y).mpr z)))
theorem g_icmp_le (X : Stand p l e R s m args below meth c T locs cells slots) (B : Bdy p s m meth c Z a0 own nm bytes maxL rt tabs) {x y : Int32} {o : Int} {pcT pcF : Nat} (hd : decode bytes pc = .ok (.if_icmp .le o, 3)) (ho : 0 ≤ (pc : Int) + o) (hT : ((pc : Int) + o).toNat = pcT) (hF : pc + 3 = pcF) (K1 : y < x → GoX p e below FX Q (T.setTop (mkF m pcF Ls St))) (K2 : ¬ y < x → GoX p e below FX Q (T.setTop (mkF m pcT Ls St))) : GoX p e below FX Q (T.setTop (mkF m pc Ls (.int y :: .int x :: St))) := by
  by_cases q : y < x
  · subst hF; exact Go.step (fun t k => XS.icmpNo X.here B.x (g := mkF m pc Ls (.int y :: .int x :: St)) rfl (B.d hd) rfl (tlt q).2.2.2 k) (K1 q)
  · exact Go.step (fun t k => XS.icmpYes X.here B.x (g := mkF m pc Ls (.int y :: .int x :: St)) rfl rfl (B.d hd) rfl (flt q).2.2.2 ho hT k) (K2 q)
theorem g_if_le (X : Stand p l e R s m args below meth c T locs cells slots) (B : Bdy p s m meth c Z a0 own nm bytes maxL rt tabs) {x : Int32} {o : Int} {pcT pcF : Nat} (hd : decode bytes pc = .ok (.ifCond .le o, 3)) (ho : 0 ≤ (pc : Int) + o) (hT : ((pc : Int) + o).toNat = pcT) (hF : pc + 3 = pcF) (K1 : (0 : Int32) < x → GoX p e below FX Q (T.setTop (mkF m pcF Ls St))) (K2 : ¬ (0 : Int32) < x → GoX p e below FX Q (T.setTop (mkF m pcT Ls St))) : GoX p e below FX Q (T.setTop (mkF m pc Ls (.int x :: St))) := by
  by_cases q : (0 : Int32) < x
  · subst hF; exact Go.step (fun t k => XS.ifNo X.here B.x (g := mkF m pc Ls (.int x :: St)) rfl (B.d hd) rfl ((if0 _ _).trans (tlt q).2.2.2) k) (K1 q)
  · exact Go.step (fun t k => XS.ifYes X.here B.x (g := mkF m pc Ls (.int x :: St)) rfl rfl (B.d hd) rfl ((if0 _ _).trans (flt q).2.2.2) ho hT k) (K2 q)
theorem g_lcmp_le (X : Stand p l e R s m args below meth c T locs cells slots) (B : Bdy p s m meth c Z a0 own nm bytes maxL rt tabs) {x y : Int64} {o : Int} {pcT pcF : Nat} (hd1 : decode bytes pc = .ok (.lcmp, 1)) (hd : decode bytes (pc + 1) = .ok (.ifCond .le o, 3)) (ho : 0 ≤ ((pc + 1 : Nat) : Int) + o) (hT : (((pc + 1 : Nat) : Int) + o).toNat = pcT) (hF : pc + 4 = pcF) (K1 : y < x → GoX p e below FX Q (T.setTop (mkF m pcF Ls St))) (K2 : ¬ y < x → GoX p e below FX Q (T.setTop (mkF m pcT Ls St))) : GoX p e below FX Q (T.setTop (mkF m pc Ls (.long y :: .long x :: St))) :=
  Go.step (fun t q => XS.lcmp X.here B.x (g := mkF m pc Ls (.long y :: .long x :: St)) rfl (B.d hd1) rfl q) (g_if_le X B hd ho hT hF (fun q => K1 ((lw_gt x y).mp q)) (fun q => K2 fun z => q ((lw_gt x y).mpr z)))
theorem g_icmp_eq (X : Stand p l e R s m args below meth c T locs cells slots) (B : Bdy p s m meth c Z a0 own nm bytes maxL rt tabs) {x y : Int32} {o : Int} {pcT pcF : Nat} (hd : decode bytes pc = .ok (.if_icmp .eq o, 3)) (ho : 0 ≤ (pc : Int) + o) (hT : ((pc : Int) + o).toNat = pcT) (hF : pc + 3 = pcF) (K1 : x = y → GoX p e below FX Q (T.setTop (mkF m pcT Ls St))) (K2 : ¬ x = y → GoX p e below FX Q (T.setTop (mkF m pcF Ls St))) : GoX p e below FX Q (T.setTop (mkF m pc Ls (.int y :: .int x :: St))) := by
  by_cases q : x = y
  · exact Go.step (fun t k => XS.icmpYes X.here B.x (g := mkF m pc Ls (.int y :: .int x :: St)) rfl rfl (B.d hd) rfl (teq q).1 ho hT k) (K1 q)
  · subst hF; exact Go.step (fun t k => XS.icmpNo X.here B.x (g := mkF m pc Ls (.int y :: .int x :: St)) rfl (B.d hd) rfl (feq q).1 k) (K2 q)
theorem g_if_eq (X : Stand p l e R s m args below meth c T locs cells slots) (B : Bdy p s m meth c Z a0 own nm bytes maxL rt tabs) {x : Int32} {o : Int} {pcT pcF : Nat} (hd : decode bytes pc = .ok (.ifCond .eq o, 3)) (ho : 0 ≤ (pc : Int) + o) (hT : ((pc : Int) + o).toNat = pcT) (hF : pc + 3 = pcF) (K1 : x = (0 : Int32) → GoX p e below FX Q (T.setTop (mkF m pcT Ls St))) (K2 : ¬ x = (0 : Int32) → GoX p e below FX Q (T.setTop (mkF m pcF Ls St))) : GoX p e below FX Q (T.setTop (mkF m pc Ls (.int x :: St))) := by
  by_cases q : x = (0 : Int32)
  · exact Go.step (fun t k => XS.ifYes X.here B.x (g := mkF m pc Ls (.int x :: St)) rfl rfl (B.d hd) rfl ((if0 _ _).trans (teq q).1) ho hT k) (K1 q)
  · subst hF; exact Go.step (fun t k => XS.ifNo X.here B.x (g := mkF m pc Ls (.int x :: St)) rfl (B.d hd) rfl ((if0 _ _).trans (feq q).1) k) (K2 q)
theorem g_lcmp_eq (X : Stand p l e R s m args below meth c T locs cells slots) (B : Bdy p s m meth c Z a0 own nm bytes maxL rt tabs) {x y : Int64} {o : Int} {pcT pcF : Nat} (hd1 : decode bytes pc = .ok (.lcmp, 1)) (hd : decode bytes (pc + 1) = .ok (.ifCond .eq o, 3)) (ho : 0 ≤ ((pc + 1 : Nat) : Int) + o) (hT : (((pc + 1 : Nat) : Int) + o).toNat = pcT) (hF : pc + 4 = pcF) (K1 : x = y → GoX p e below FX Q (T.setTop (mkF m pcT Ls St))) (K2 : ¬ x = y → GoX p e below FX Q (T.setTop (mkF m pcF Ls St))) : GoX p e below FX Q (T.setTop (mkF m pc Ls (.long y :: .long x :: St))) :=
  Go.step (fun t q => XS.lcmp X.here B.x (g := mkF m pc Ls (.long y :: .long x :: St)) rfl (B.d hd1) rfl q) (g_if_eq X B hd ho hT hF (fun q => K1 ((lw_eq x y).mp q)) (fun q => K2 fun z => q ((lw_eq x y).mpr z)))
theorem g_icmp_ne (X : Stand p l e R s m args below meth c T locs cells slots) (B : Bdy p s m meth c Z a0 own nm bytes maxL rt tabs) {x y : Int32} {o : Int} {pcT pcF : Nat} (hd : decode bytes pc = .ok (.if_icmp .ne o, 3)) (ho : 0 ≤ (pc : Int) + o) (hT : ((pc : Int) + o).toNat = pcT) (hF : pc + 3 = pcF) (K1 : x = y → GoX p e below FX Q (T.setTop (mkF m pcF Ls St))) (K2 : ¬ x = y → GoX p e below FX Q (T.setTop (mkF m pcT Ls St))) : GoX p e below FX Q (T.setTop (mkF m pc Ls (.int y :: .int x :: St))) := by
  by_cases q : x = y
  · subst hF; exact Go.step (fun t k => XS.icmpNo X.here B.x (g := mkF m pc Ls (.int y :: .int x :: St)) rfl (B.d hd) rfl (teq q).2 k) (K1 q)
  · exact Go.step (fun t k => XS.icmpYes X.here B.x (g := mkF m pc Ls (.int y :: .int x :: St)) rfl rfl (B.d hd) rfl (feq q).2 ho hT k) (K2 q)
theorem g_if_ne (X : Stand p l e R s m args below meth c T locs cells slots) (B : Bdy p s m meth c Z a0 own nm bytes maxL rt tabs) {x : Int32} {o : Int} {pcT pcF : Nat} (hd : decode bytes pc = .ok (.ifCond .ne o, 3)) (ho : 0 ≤ (pc : Int) + o) (hT : ((pc : Int) + o).toNat = pcT) (hF : pc + 3 = pcF) (K1 : x = (0 : Int32) → GoX p e below FX Q (T.setTop (mkF m pcF Ls St))) (K2 : ¬ x = (0 : Int32) → GoX p e below FX Q (T.setTop (mkF m pcT Ls St))) : GoX p e below FX Q (T.setTop (mkF m pc Ls (.int x :: St))) := by
  by_cases q : x = (0 : Int32)
  · subst hF; exact Go.step (fun t k => XS.ifNo X.here B.x (g := mkF m pc Ls (.int x :: St)) rfl (B.d hd) rfl ((if0 _ _).trans (teq q).2) k) (K1 q)
  · exact Go.step (fun t k => XS.ifYes X.here B.x (g := mkF m pc Ls (.int x :: St)) rfl rfl (B.d hd) rfl ((if0 _ _).trans (feq q).2) ho hT k) (K2 q)
theorem g_lcmp_ne (X : Stand p l e R s m args below meth c T locs cells slots) (B : Bdy p s m meth c Z a0 own nm bytes maxL rt tabs) {x y : Int64} {o : Int} {pcT pcF : Nat} (hd1 : decode bytes pc = .ok (.lcmp, 1)) (hd : decode bytes (pc + 1) = .ok (.ifCond .ne o, 3)) (ho : 0 ≤ ((pc + 1 : Nat) : Int) + o) (hT : (((pc + 1 : Nat) : Int) + o).toNat = pcT) (hF : pc + 4 = pcF) (K1 : x = y → GoX p e below FX Q (T.setTop (mkF m pcF Ls St))) (K2 : ¬ x = y → GoX p e below FX Q (T.setTop (mkF m pcT Ls St))) : GoX p e below FX Q (T.setTop (mkF m pc Ls (.long y :: .long x :: St))) :=
  Go.step (fun t q => XS.lcmp X.here B.x (g := mkF m pc Ls (.long y :: .long x :: St)) rfl (B.d hd1) rfl q) (g_if_ne X B hd ho hT hF (fun q => K1 ((lw_eq x y).mp q)) (fun q => K2 fun z => q ((lw_eq x y).mpr z)))
/-! ends -/
theorem g_ret0 (X : Stand p l e R s m args below meth c T locs cells slots) (B : Bdy p s m meth c Z a0 own nm bytes maxL rt tabs) (hr : rt = none) (hd : decode bytes pc = .ok (.return_, 1)) (hc : cells ≤ nc) (hs : slots ≤ ns) (q : Q none T.heap locs) : Go p e below s nc ns Q (T.setTop (mkF m pc Ls [])) := by
  subst hr
  obtain ⟨fs, hr, hrun, hended, hW, hsame⟩ := X.leave (v := none) (fun _ => rfl) B.lk
  exact ⟨_, _, X.returnOut B.x B.r (B.d hd) hr, hrun, hended, _, _, rfl, q, ⟨_, rfl⟩, hW, hsame.mono hc hs⟩
theorem g_retV (X : Stand p l e R s m args below meth c T locs cells slots) (B : Bdy p s m meth c Z a0 own nm bytes maxL rt tabs) {w : Value} {t : FieldType} {i : Instr} (hr : rt = some t) (hn : narrow t w = w)
    (hi : (i = .ireturn ∧ (t = .int ∨ t = .boolean ∨ t = .byte ∨ t = .char ∨ t = .short) ∧ ∃ z, w = .int z) ∨ (i = .lreturn ∧ t = .long ∧ ∃ z, w = .long z) ∨ (i = .dreturn ∧ t = .double ∧ ∃ z, w = .double z) ∨ (i = .freturn ∧ t = .float ∧ ∃ z, w = .float z) ∨ (i = .areturn ∧ t.isReference = true ∧ w.isRef = true))
    (hd : decode bytes pc = .ok (i, 1)) (hc : cells ≤ nc) (hs : slots ≤ ns) (q : Q (some w) T.heap locs) : Go p e below s nc ns Q (T.setTop (mkF m pc Ls (w :: St))) := by
  subst hr
  obtain ⟨fs, hr, hrun, hended, hW, hsame⟩ := X.leave (v := some w) (fun h => by rw [B.r] at h; cases h) B.lk
  exact ⟨_, _, retOut X B.x B.r hn hi (B.d hd) hr, hrun, hended, _, _, rfl, q, ⟨_, rfl⟩, hW, hsame.mono hc hs⟩
theorem g_retI (X : Stand p l e R s m args below meth c T locs cells slots) (B : Bdy p s m meth c Z a0 own nm bytes maxL rt tabs) {z : Int32} (hr : rt = some .int) (hd : decode bytes pc = .ok (.ireturn, 1)) (hc : cells ≤ nc) (hs : slots ≤ ns) (q : Q (some (.int z)) T.heap locs) : Go p e below s nc ns Q (T.setTop (mkF m pc Ls (.int z :: St))) :=
  g_retV X B hr rfl (Or.inl ⟨rfl, Or.inl rfl, z, rfl⟩) hd hc hs q
theorem g_retL (X : Stand p l e R s m args below meth c T locs cells slots) (B : Bdy p s m meth c Z a0 own nm bytes maxL rt tabs) {z : Int64} (hr : rt = some .long) (hd : decode bytes pc = .ok (.lreturn, 1)) (hc : cells ≤ nc) (hs : slots ≤ ns) (q : Q (some (.long z)) T.heap locs) : Go p e below s nc ns Q (T.setTop (mkF m pc Ls (.long z :: St))) :=
  g_retV X B hr rfl (Or.inr (Or.inl ⟨rfl, rfl, z, rfl⟩)) hd hc hs q
theorem g_retA (X : Stand p l e R s m args below meth c T locs cells slots) (B : Bdy p s m meth c Z a0 own nm bytes maxL rt tabs) {w : Value} {t : FieldType} (hr : rt = some t) (ht : t.isReference = true) (hw : w.isRef = true) (hn : narrow t w = w) (hd : decode bytes pc = .ok (.areturn, 1)) (hc : cells ≤ nc) (hs : slots ≤ ns) (q : Q (some w) T.heap locs) : Go p e below s nc ns Q (T.setTop (mkF m pc Ls (w :: St))) :=
  g_retV X B hr hn (Or.inr (Or.inr (Or.inr (Or.inr ⟨rfl, ht, hw⟩)))) hd hc hs q
theorem g_retN (X : Stand p l e R s m args below meth c T locs cells slots) (B : Bdy p s m meth c Z a0 own nm bytes maxL rt tabs) {z : Int32} {t : FieldType} (hr : rt = some t) (ht : t = .boolean ∨ t = .byte ∨ t = .char ∨ t = .short) (hd : decode bytes pc = .ok (.ireturn, 1)) (hc : cells ≤ nc) (hs : slots ≤ ns) (q : Q (some (.int (nar t z))) T.heap locs) : Go p e below s nc ns Q (T.setTop (mkF m pc Ls (.int z :: St))) := by
  subst hr
  obtain ⟨fs, hr, hrun, hended, hW, hsame⟩ := X.leave (v := some (.int (nar t z))) (fun h => by rw [B.r] at h; cases h) B.lk
  exact ⟨_, _, retN X B.x B.r ht (B.d hd) hr, hrun, hended, _, _, rfl, q, ⟨_, rfl⟩, hW, hsame.mono hc hs⟩
/-! calls -/
abbrev Met (l : Launch) (Z : State) (y : MethodName) (yb : ByteArray) (ym : Nat) (yr : Option FieldType) (ws : List Jvm.Cond) (rm : Room) (as : Array Value) (h : Heap) (Qc : Option Value → Heap → List Loc → Prop) : Prop :=
  MetFree l y (head1 (Jvm.Cond.code y yb ym yr :: ws) rm) (fun a U => a = as ∧ Z.Warmed39 U.vm ∧ U.heap = h) (fun _ _ _ _ _ => True) (fun _ U o U' => ∃ v L, o = .returned v ∧ Qc v U'.heap L ∧ FrameEnd U o U' L rm.cells rm.slots)
theorem met_of {y : MethodName} {rm : Room} {as : Array Value} {ws : List Jvm.Cond} (hpl : plainFor y = true) (hw : ∀ d ∈ tabs, d.before a0 Z = true)
    (body : ∀ (p : Program) (e : Env) (s : State) (m : MethodId) (below : List Frame) (meth : Method) (c : Code) (T : State), Stand p l e rm s m as below meth c T [] 0 0 → Bdy p s m meth c Z a0 y.cls y.name bytes maxL rt tabs → T.heap = h → Go p e below s rm.cells rm.slots Q (T.setTop (entryFrame m as maxL))) :
    Met l Z y bytes maxL rt ws rm as h Q := by
  refine MetFree.of_bodySF hpl hisR ?_
  intro p e s m args below meth c s₁ Bd hml0 hP hK
  obtain ⟨rfl, hZ, hh⟩ := hP
  exact body p e s m below meth c s₁ (Stand.of_body Bd) ⟨Bd.exec, hZ, hw, Bd.bytes, hml0, findClass_of_methodNamed Bd.named, Bd.returns, BodyLoose.notSynchronized Bd, (name_of_methodNamed Bd.named Bd.method).1⟩ (by rw [← hh, Bd.state]; rfl)
theorem g_callS (X : Stand p l e R s m args below meth c T locs cells slots) (B : Bdy p s m meth c Z a0 own nm bytes maxL rt tabs) {y : MethodName} {i : Nat} {yb : ByteArray} {ym : Nat} {yr : Option FieldType} {rm : Room} {argsL rest : List Value} {Qc : Option Value → Heap → List Loc → Prop} (eT : T.heap = h) (W : Nat)
    (w1 : (Jvm.Cond.methodLink own i y).before a0 Z = true) (w2 : (Jvm.Cond.static y).before a0 Z = true) (w3 : (Jvm.Cond.initialized y.cls).before a0 Z = true) (w4 : (Jvm.Cond.code y yb ym yr).before a0 Z = true) (hy : y.cls ≠ "java/lang/invoke/MethodHandle" ∧ y.cls ≠ "java/lang/invoke/VarHandle")
    (M : Met l Z y yb ym yr [] rm argsL.toArray h Qc) (hf : rm.frames + 1 ≤ R.frames) (hl : W + (ym + 11) + rm.locals ≤ R.locals) (hc : cells + rm.cells ≤ R.cells) (hs : slots + rm.slots ≤ R.slots)
    (hsz : Ls.size = maxL) (hlen : ∀ sig, parseMethodDescriptor y.desc = some sig → argsL.length = sig.parameters.length) (hst : St = argsL.reverse ++ rest) (hW : (rest.map fun v => v.category).sum ≤ W) (hd : decode bytes pc = .ok (.invokestatic i, 3)) (hp : pc + 3 = pc')
    (K : ∀ (T' : State) (v : Option Value) (L : List Loc), Stand p l e R s m args below meth c T' (locs ++ L) (cells + rm.cells) (slots + rm.slots) → Qc v T'.heap L → GoX p e below FX Q (T'.setTop (mkF m pc' Ls (v.toList ++ rest)))) : GoX p e below FX Q (T.setTop (mkF m pc Ls St)) := by
  subst hp
  obtain ⟨v, _, ⟨T', L', k', n'⟩, -, X', ⟨Lc, hQ, l', y', z'⟩, st⟩ := Jvm.LawKit.callS X B.x (y := y) B.o (mvT B.z w1) (mvT B.z w2) (mvT B.z w3) (mvT B.z w4) hy (backOf (W := W) M B.z w4 w3 hf hl) (g := mkF m pc Ls St) rfl (by rw [B.ml]; exact hsz) (argsL := argsL) (rest := rest) hlen hst (by show 2 * 0 + _ ≤ _; omega) (B.d hd) (fun _ _ => ⟨rfl, eT, hc, hs⟩)
  dsimp only [Pt.U, Pt.locs, Pt.cells, Pt.slots] at X' l' y' z' st hQ
  subst l' y' z'
  exact Go.step st (K T' v Lc X' hQ)
theorem g_callP (X : Stand p l e R s m args below meth c T locs cells slots) (B : Bdy p s m meth c Z a0 own nm bytes maxL rt tabs) {y : MethodName} {i : Nat} {yb : ByteArray} {ym : Nat} {yr : Option FieldType} {fr lo : Nat} {argsL rest : List Value} {w : Value} (eT : T.heap = h) (W : Nat)
    (w1 : (Jvm.Cond.methodLink own i y).before a0 Z = true) (w2 : (Jvm.Cond.static y).before a0 Z = true) (w3 : (Jvm.Cond.initialized y.cls).before a0 Z = true) (w4 : (Jvm.Cond.code y yb ym yr).before a0 Z = true) (hy : y.cls ≠ "java/lang/invoke/MethodHandle" ∧ y.cls ≠ "java/lang/invoke/VarHandle")
    (M : Met l Z y yb ym yr [] ⟨fr, 0, 0, lo⟩ argsL.toArray h (PQ (some w) h [])) (hf : fr + 1 ≤ R.frames) (hl : W + (ym + 11) + lo ≤ R.locals) (hc : cells ≤ R.cells) (hs : slots ≤ R.slots)
    (hsz : Ls.size = maxL) (hlen : ∀ sig, parseMethodDescriptor y.desc = some sig → argsL.length = sig.parameters.length) (hst : St = argsL.reverse ++ rest) (hW : (rest.map fun v => v.category).sum ≤ W) (hd : decode bytes pc = .ok (.invokestatic i, 3)) (hp : pc + 3 = pc')
    (K : ∀ (T' : State), Stand p l e R s m args below meth c T' locs cells slots → T'.heap = h → GoX p e below FX Q (T'.setTop (mkF m pc' Ls (w :: rest)))) : GoX p e below FX Q (T.setTop (mkF m pc Ls St)) := by
  refine g_callS X B eT W w1 w2 w3 w4 hy M hf hl hc hs hsz hlen hst hW hd hp fun T' v L X' q => ?_
  obtain ⟨rfl, q2, rfl⟩ := q
  rw [List.append_nil] at X'
  exact K T' X' q2
end GoKit
/-! own frame, the heap's steps -/
def Ax (Z : State) (h : Heap) (a : Addr) (ty : FieldType) (n : Nat) (w : Nat → Value) : Prop := n < 2147483648 ∧ ∃ c : Cell, Arr Z h a c ty ∧ c.slots.size = n ∧ ∀ j, j < n → c.slots[j]? = some (w j)
section HeapKit
variable {p : Program} {l : Launch} {e : Env} {R : Room} {s : State} {m : MethodId} {args : Array Value} {below : List Frame} {meth : Method} {c : Code} {T : State} {locs : List Loc} {cells slots : Nat} {Z : State} {a0 : Array Value} {h h' : Heap} {nc ns : Nat} {Q Q' : Option Value → Heap → List Loc → Prop} {pc pc' : Nat} {Ls Ls' : Array Slot} {St : List Value} {own nm : String} {bytes : ByteArray} {maxL : Nat} {rt : Option FieldType} {tabs : List Jvm.Cond} {FX : Outcome → State → List Loc → Prop}
theorem Ax.lt {a : Addr} {ty : FieldType} {n : Nat} {w : Nat → Value} (F : Ax Z h a ty n w) : a < h.size := by obtain ⟨-, c, A, -⟩ := F; exact A.lt
theorem Ax.ext {a : Addr} {ty : FieldType} {n : Nat} {w : Nat → Value} (F : Ax Z h a ty n w) (E : Ext h h') : Ax Z h' a ty n w := by obtain ⟨h0, c, A, r⟩ := F; exact ⟨h0, c, A.ext E, r⟩
theorem Ax.other {a b : Addr} {ty : FieldType} {n sl : Nat} {v : Value} {w : Nat → Value} (F : Ax Z h b ty n w) (W : Wr h h' a sl v) (q : b ≠ a) : Ax Z h' b ty n w := by obtain ⟨h0, c, A, r⟩ := F; exact ⟨h0, c, A.other W q, r⟩
theorem Ax.keep {a : Addr} {ty : FieldType} {n : Nat} {w : Nat → Value} {ws : List Addr} (F : Ax Z h a ty n w) (K : Keep h h' ws) (q : a ∉ ws) : Ax Z h' a ty n w := by obtain ⟨h0, c, A, r⟩ := F; exact ⟨h0, c, ⟨K.2.1 a c A.1 q, A.2⟩, r⟩
theorem Ax.set {a : Addr} {ty : FieldType} {n k : Nat} {v : Value} {w : Nat → Value} (F : Ax Z h a ty n w) (W : Wr h h' a k v) : Ax Z h' a ty n (fun j => if j = k then v else w j) := by
  obtain ⟨h0, c, A, r1, r2⟩ := F
  refine ⟨h0, _, A.same W, by rw [sz_set]; exact r1, fun j hj => ?_⟩
  by_cases q : j = k
  · subst q; simp [Cell.setSlot, r1, hj]
  · simp only [Cell.setSlot, if_neg q]; rw [Array.getElem?_setIfInBounds_ne (Ne.symm q)]; exact r2 j hj
theorem Ax.eqw {a : Addr} {ty : FieldType} {n : Nat} {w w' : Nat → Value} (F : Ax Z h a ty n w) (q : ∀ j, j < n → w j = w' j) : Ax Z h a ty n w' := by
  obtain ⟨h0, c, A, r1, r2⟩ := F
  exact ⟨h0, c, A, r1, fun j hj => by rw [← q j hj]; exact r2 j hj⟩
theorem own_idx {j : Int32} {k n : Nat} (hk : j.toInt = (k : Int)) (hn : k < n) : ¬ (j < 0 ∨ n ≤ j.toNatClampNeg) ∧ j.toNatClampNeg = k := by
  have e0 : (0 : Int32).toInt = 0 := rfl
  have e1 : j.toNatClampNeg = j.toInt.toNat := rfl
  rw [Int32.lt_iff_toInt_lt, e0, e1, hk]; omega
theorem g_getF (X : Stand p l e R s m args below meth c T locs cells slots) (B : Bdy p s m meth c Z a0 own nm bytes maxL rt tabs) {i : Nat} {R0 O n d : String} {a : Addr} {v : Value} (w : (Jvm.Cond.fieldLink own i R0 n d).before a0 Z = true) (via : Via Z R0 O n d) (eT : T.heap = h) (F : Fld Z h a O n d v) (hd : decode bytes pc = .ok (.getfield i, 3)) (hp : pc + 3 = pc')
    (K : ∀ T' : State, Stand p l e R s m args below meth c T' locs cells slots → T'.heap = h → GoX p e below FX Q (T'.setTop (mkF m pc' Ls (v :: St)))) : GoX p e below FX Q (T.setTop (mkF m pc Ls (.ref a :: St))) := by
  subst hp
  obtain ⟨T', X', e', st⟩ := getF X B.x B.z B.o (host := "") (Or.inl w) via eT F (g := mkF m pc Ls (.ref a :: St)) rfl rfl (B.d hd)
  exact Go.step st (K T' X' e')
theorem g_putF (X : Stand p l e R s m args below meth c T locs cells slots) (B : Bdy p s m meth c Z a0 own nm bytes maxL rt tabs) {i kk : Nat} {R0 O n d C : String} {a : Addr} {v old : Value} {ty : FieldType} (w : (Jvm.Cond.fieldLink own i R0 n d).before a0 Z = true) (via : Via Z R0 O n d) (eT : T.heap = h) (F : Fld Z h a O n d old) (E : Exa Z h a C)
    (L : (Jvm.Cond.lays C O n d).before a0 Z = true ∨ ((Jvm.Cond.laysFinal C O n d).before a0 Z = true ∧ own = O ∧ nm = "<init>")) (wi : (Jvm.Cond.instantiable C kk).before a0 Z = true) (hty : parseFieldDescriptor d = some ty) (hn : narrow ty v = v) (hf : fits ty v = true)
    (hd : decode bytes pc = .ok (.putfield i, 3)) (hp : pc + 3 = pc')
    (K : ∀ (T' : State) (h' : Heap), Stand p l e R s m args below meth c T' (locs ++ [⟨a, Jvm.RoadKit.slotOf Z O n d⟩]) cells slots → T'.heap = h' → Wr h h' a (Jvm.RoadKit.slotOf Z O n d) v → GoX p e below FX Q (T'.setTop (mkF m pc' Ls St))) : GoX p e below FX Q (T.setTop (mkF m pc Ls (v :: .ref a :: St))) := by
  subst hp
  obtain ⟨T', h', X', e', W, st⟩ := putF X B.x B.z B.o (host := "") (Or.inl w) via eT F E (L.imp id fun q => ⟨q.1, q.2.1, B.n.trans q.2.2⟩) wi hty hn hf (g := mkF m pc Ls (v :: .ref a :: St)) rfl rfl (B.d hd)
  exact Go.step st (K T' h' X' e' W)
theorem g_getS (X : Stand p l e R s m args below meth c T locs cells slots) (B : Bdy p s m meth c Z a0 own nm bytes maxL rt tabs) {i : Nat} {R0 O n d : String} {v : Value} (w : (Jvm.Cond.fieldLink own i R0 n d).before a0 Z = true) (via : Via Z R0 O n d) (eT : T.heap = h) (F : Sta Z h O n d v) (hd : decode bytes pc = .ok (.getstatic i, 3)) (hp : pc + 3 = pc')
    (K : ∀ T' : State, Stand p l e R s m args below meth c T' locs cells slots → T'.heap = h → GoX p e below FX Q (T'.setTop (mkF m pc' Ls (v :: St)))) : GoX p e below FX Q (T.setTop (mkF m pc Ls St)) := by
  subst hp
  obtain ⟨T', X', e', st⟩ := getS X B.x B.z B.o (host := "") w via eT F (g := mkF m pc Ls St) rfl (B.d hd)
  exact Go.step st (K T' X' e')
theorem g_new (X : Stand p l e R s m args below meth c T locs cells slots) (B : Bdy p s m meth c Z a0 own nm bytes maxL rt tabs) {i n : Nat} {C : String} (w : (Jvm.Cond.classLink own i C).before a0 Z = true) (wi : (Jvm.Cond.instantiable C n).before a0 Z = true) (wz : (Jvm.Cond.initialized C).before a0 Z = true) (eT : T.heap = h) (hd : decode bytes pc = .ok (.new i, 3)) (hp : pc + 3 = pc') (hc : cells + 1 ≤ R.cells) (hl : slots + n ≤ R.slots)
    (K : ∀ (T' : State) (h' : Heap) (a : Addr), a = h.size → Stand p l e R s m args below meth c T' locs (cells + 1) (slots + n) → T'.heap = h' → Ext h h' → Exa Z h' a C → (∀ {O nm d : String} {ty : FieldType}, Laid Z a0 C O nm d → parseFieldDescriptor d = some ty → Fld Z h' a O nm d (defaultValue ty)) → GoX p e below FX Q (T'.setTop (mkF m pc' Ls (.ref a :: St)))) : GoX p e below FX Q (T.setTop (mkF m pc Ls St)) := by
  subst hp
  obtain ⟨T', h', X', e', E, A, D, -, st⟩ := newO X B.x B.z B.o w wi wz eT (g := mkF m pc Ls St) rfl (B.d hd) hc hl
  exact Go.step st (K T' h' _ rfl X' e' E A D)
theorem g_newA (X : Stand p l e R s m args below meth c T locs cells slots) (B : Bdy p s m meth c Z a0 own nm bytes maxL rt tabs) {aty : ArrayType} {z : Int32} (k cap : Nat) (w : (Jvm.Cond.arrayClass (newarray.typeOf aty)).before a0 Z = true) (eT : T.heap = h) (hz : z.toInt = (k : Int)) (hcap : k ≤ cap) (hb : cap * 8 ≤ 536870912) (hd : decode bytes pc = .ok (.newarray aty, 2)) (hp : pc + 2 = pc') (hc : cells + 1 ≤ R.cells) (hl : slots + cap ≤ R.slots)
    (K : ∀ (T' : State) (h' : Heap) (a : Addr), a = h.size → Stand p l e R s m args below meth c T' locs (cells + 1) (slots + cap) → T'.heap = h' → Ext h h' → Ax Z h' a (newarray.typeOf aty) k (fun _ => defaultValue (newarray.typeOf aty)) → GoX p e below FX Q (T'.setTop (mkF m pc' Ls (.ref a :: St)))) : GoX p e below FX Q (T.setTop (mkF m pc Ls (.int z :: St))) := by
  subst hp
  have e1 : z.toNatClampNeg = k := by show z.toInt.toNat = k; omega
  have e0 : (0 : Int32).toInt = 0 := rfl
  have hlt := z.toInt_lt
  obtain ⟨T', h', cA, X', e', E, A, st⟩ := newP X B.x B.z w eT (g := mkF m pc Ls (.int z :: St)) rfl (B.d hd) rfl (by rw [Int32.lt_iff_toInt_lt, e0]; omega) (cap := cap) (by omega) hb hc hl
  refine Go.step st (K T' h' _ rfl X' e' E ⟨by omega, _, A, (sz_new _ _ _).trans e1, fun j hj => ?_⟩)
  simp [newA, e1, hj]
theorem g_arrlen (X : Stand p l e R s m args below meth c T locs cells slots) (B : Bdy p s m meth c Z a0 own nm bytes maxL rt tabs) {a : Addr} {ty : FieldType} {n : Nat} {w : Nat → Value} (z : Int32) (eT : T.heap = h) (F : Ax Z h a ty n w) (hz : z.toInt = (n : Int)) (hd : decode bytes pc = .ok (.arraylength, 1)) (hp : pc + 1 = pc') (K : GoX p e below FX Q (T.setTop (mkF m pc' Ls (.int z :: St)))) : GoX p e below FX Q (T.setTop (mkF m pc Ls (.ref a :: St))) := by
  subst hp
  obtain ⟨h0, c, A, r1, -⟩ := F
  have ez : c.slots.size.toInt32 = z := by
    apply Int32.toInt_inj.mp; rw [hz, r1]; exact Int32.toInt_ofNat_small (by omega)
  refine Go.step (fun t q => X.arraylength B.x (by rw [eT]; exact A.1) (State.isArrayOf_alike B.z.alike A.2.1) (g := mkF m pc Ls (.ref a :: St)) rfl rfl (B.d hd) t (by rw [ez]; exact q)) K
theorem g_iaload (X : Stand p l e R s m args below meth c T locs cells slots) (B : Bdy p s m meth c Z a0 own nm bytes maxL rt tabs) {a : Addr} {n : Nat} {w : Nat → Value} {j : Int32} {v : Value} (k : Nat) (eT : T.heap = h) (F : Ax Z h a .int n w) (hk : j.toInt = (k : Int)) (hn : k < n) (hv : w k = v) (hd : decode bytes pc = .ok (.iaload, 1)) (hp : pc + 1 = pc') (K : GoX p e below FX Q (T.setTop (mkF m pc' Ls (v :: St)))) : GoX p e below FX Q (T.setTop (mkF m pc Ls (.int j :: .ref a :: St))) := by
  subst hp
  obtain ⟨h0, c, A, r1, r2⟩ := F
  obtain ⟨q1, q2⟩ := own_idx hk hn
  exact Go.step (fun t q => X.iaload B.x (v := v) (by rw [eT]; exact A.1) (State.isArrayOf_alike B.z.alike A.2.1) A.2.2 (by rw [r1]; exact q1) (by rw [q2, ← hv]; exact r2 k hn) (g := mkF m pc Ls (.int j :: .ref a :: St)) rfl rfl (B.d hd) t q) K
theorem g_laload (X : Stand p l e R s m args below meth c T locs cells slots) (B : Bdy p s m meth c Z a0 own nm bytes maxL rt tabs) {a : Addr} {n : Nat} {w : Nat → Value} {j : Int32} {v : Value} (k : Nat) (eT : T.heap = h) (F : Ax Z h a .long n w) (hk : j.toInt = (k : Int)) (hn : k < n) (hv : w k = v) (hd : decode bytes pc = .ok (.laload, 1)) (hp : pc + 1 = pc') (K : GoX p e below FX Q (T.setTop (mkF m pc' Ls (v :: St)))) : GoX p e below FX Q (T.setTop (mkF m pc Ls (.int j :: .ref a :: St))) := by
  subst hp
  obtain ⟨h0, c, A, r1, r2⟩ := F
  obtain ⟨q1, q2⟩ := own_idx hk hn
  exact Go.step (fun t q => X.laload B.x (v := v) (by rw [eT]; exact A.1) (State.isArrayOf_alike B.z.alike A.2.1) A.2.2 (by rw [r1]; exact q1) (by rw [q2, ← hv]; exact r2 k hn) (g := mkF m pc Ls (.int j :: .ref a :: St)) rfl rfl (B.d hd) t q) K
theorem g_baloadB (X : Stand p l e R s m args below meth c T locs cells slots) (B : Bdy p s m meth c Z a0 own nm bytes maxL rt tabs) {a : Addr} {n : Nat} {w : Nat → Value} {j : Int32} {v : Value} (k : Nat) (eT : T.heap = h) (F : Ax Z h a .byte n w) (hk : j.toInt = (k : Int)) (hn : k < n) (hv : w k = v) (hd : decode bytes pc = .ok (.baload, 1)) (hp : pc + 1 = pc') (K : GoX p e below FX Q (T.setTop (mkF m pc' Ls (v :: St)))) : GoX p e below FX Q (T.setTop (mkF m pc Ls (.int j :: .ref a :: St))) := by
  subst hp
  obtain ⟨h0, c, A, r1, r2⟩ := F
  obtain ⟨q1, q2⟩ := own_idx hk hn
  exact Go.step (fun t q => X.baloadBytes B.x (v := v) (by rw [eT]; exact A.1) (State.isArrayOf_alike B.z.alike A.2.1) A.2.2 (by rw [r1]; exact q1) (by rw [q2, ← hv]; exact r2 k hn) (g := mkF m pc Ls (.int j :: .ref a :: St)) rfl rfl (B.d hd) t q) K
theorem g_baloadZ (X : Stand p l e R s m args below meth c T locs cells slots) (B : Bdy p s m meth c Z a0 own nm bytes maxL rt tabs) {a : Addr} {n : Nat} {w : Nat → Value} {j : Int32} {v : Value} (k : Nat) (eT : T.heap = h) (F : Ax Z h a .boolean n w) (hk : j.toInt = (k : Int)) (hn : k < n) (hv : w k = v) (hd : decode bytes pc = .ok (.baload, 1)) (hp : pc + 1 = pc') (K : GoX p e below FX Q (T.setTop (mkF m pc' Ls (v :: St)))) : GoX p e below FX Q (T.setTop (mkF m pc Ls (.int j :: .ref a :: St))) := by
  subst hp
  obtain ⟨h0, c, A, r1, r2⟩ := F
  obtain ⟨q1, q2⟩ := own_idx hk hn
  exact Go.step (fun t q => X.baloadBooleans B.x (v := v) (by rw [eT]; exact A.1) (State.isArrayOf_alike B.z.alike A.2.1) A.2.2 (by rw [r1]; exact q1) (by rw [q2, ← hv]; exact r2 k hn) (g := mkF m pc Ls (.int j :: .ref a :: St)) rfl rfl (B.d hd) t q) K
theorem g_iastore (X : Stand p l e R s m args below meth c T locs cells slots) (B : Bdy p s m meth c Z a0 own nm bytes maxL rt tabs) {a : Addr} {n : Nat} {w : Nat → Value} {j x : Int32} (k : Nat) (eT : T.heap = h) (F : Ax Z h a .int n w) (hk : j.toInt = (k : Int)) (hn : k < n) (hd : decode bytes pc = .ok (.iastore, 1)) (hp : pc + 1 = pc')
    (K : ∀ (T' : State) (h' : Heap), Stand p l e R s m args below meth c T' (locs ++ [⟨a, k⟩]) cells slots → T'.heap = h' → Wr h h' a k (.int x) → GoX p e below FX Q (T'.setTop (mkF m pc' Ls St))) : GoX p e below FX Q (T.setTop (mkF m pc Ls (.int x :: .int j :: .ref a :: St))) := by
  subst hp
  obtain ⟨h0, c, A, r1, r2⟩ := F
  obtain ⟨q1, q2⟩ := own_idx hk hn
  obtain ⟨T', h', X', e', W, st⟩ := stI X B.x B.z eT A (j := j) (x := x) (by rw [r1]; exact q1) (g := mkF m pc Ls (.int x :: .int j :: .ref a :: St)) rfl rfl (B.d hd)
  rw [q2] at X' W
  exact Go.step st (K T' h' X' e' W)
theorem g_lastore (X : Stand p l e R s m args below meth c T locs cells slots) (B : Bdy p s m meth c Z a0 own nm bytes maxL rt tabs) {a : Addr} {n : Nat} {w : Nat → Value} {j : Int32} {x : Int64} (k : Nat) (eT : T.heap = h) (F : Ax Z h a .long n w) (hk : j.toInt = (k : Int)) (hn : k < n) (hd : decode bytes pc = .ok (.lastore, 1)) (hp : pc + 1 = pc')
    (K : ∀ (T' : State) (h' : Heap), Stand p l e R s m args below meth c T' (locs ++ [⟨a, k⟩]) cells slots → T'.heap = h' → Wr h h' a k (.long x) → GoX p e below FX Q (T'.setTop (mkF m pc' Ls St))) : GoX p e below FX Q (T.setTop (mkF m pc Ls (.long x :: .int j :: .ref a :: St))) := by
  subst hp
  obtain ⟨h0, c, A, r1, r2⟩ := F
  obtain ⟨q1, q2⟩ := own_idx hk hn
  obtain ⟨T', h', X', e', W, st⟩ := stJ X B.x B.z eT A (j := j) (x := x) (by rw [r1]; exact q1) (g := mkF m pc Ls (.long x :: .int j :: .ref a :: St)) rfl rfl (B.d hd)
  rw [q2] at X' W
  exact Go.step st (K T' h' X' e' W)
theorem g_bastoreB (X : Stand p l e R s m args below meth c T locs cells slots) (B : Bdy p s m meth c Z a0 own nm bytes maxL rt tabs) {a : Addr} {n : Nat} {w : Nat → Value} {j x : Int32} (k : Nat) (eT : T.heap = h) (F : Ax Z h a .byte n w) (hk : j.toInt = (k : Int)) (hn : k < n) (hd : decode bytes pc = .ok (.bastore, 1)) (hp : pc + 1 = pc')
    (K : ∀ (T' : State) (h' : Heap), Stand p l e R s m args below meth c T' (locs ++ [⟨a, k⟩]) cells slots → T'.heap = h' → Wr h h' a k (.int (nar .byte x)) → GoX p e below FX Q (T'.setTop (mkF m pc' Ls St))) : GoX p e below FX Q (T.setTop (mkF m pc Ls (.int x :: .int j :: .ref a :: St))) := by
  subst hp
  obtain ⟨h0, c, A, r1, r2⟩ := F
  obtain ⟨q1, q2⟩ := own_idx hk hn
  obtain ⟨T', h', X', e', W, st⟩ := stB X B.x B.z eT A (j := j) (x := x) (by rw [r1]; exact q1) (g := mkF m pc Ls (.int x :: .int j :: .ref a :: St)) rfl rfl (B.d hd)
  rw [q2] at X' W
  exact Go.step st (K T' h' X' e' W)
theorem g_bastoreZ (X : Stand p l e R s m args below meth c T locs cells slots) (B : Bdy p s m meth c Z a0 own nm bytes maxL rt tabs) {a : Addr} {n : Nat} {w : Nat → Value} {j x : Int32} (k : Nat) (eT : T.heap = h) (F : Ax Z h a .boolean n w) (hk : j.toInt = (k : Int)) (hn : k < n) (hd : decode bytes pc = .ok (.bastore, 1)) (hp : pc + 1 = pc')
    (K : ∀ (T' : State) (h' : Heap), Stand p l e R s m args below meth c T' (locs ++ [⟨a, k⟩]) cells slots → T'.heap = h' → Wr h h' a k (.int (nar .boolean x)) → GoX p e below FX Q (T'.setTop (mkF m pc' Ls St))) : GoX p e below FX Q (T.setTop (mkF m pc Ls (.int x :: .int j :: .ref a :: St))) := by
  subst hp
  obtain ⟨h0, c, A, r1, r2⟩ := F
  obtain ⟨q1, q2⟩ := own_idx hk hn
  obtain ⟨T', h', X', e', W, st⟩ := stZ X B.x B.z eT A (j := j) (x := x) (by rw [r1]; exact q1) (g := mkF m pc Ls (.int x :: .int j :: .ref a :: St)) rfl rfl (B.d hd)
  rw [q2] at X' W
  exact Go.step st (K T' h' X' e' W)
theorem g_castore (X : Stand p l e R s m args below meth c T locs cells slots) (B : Bdy p s m meth c Z a0 own nm bytes maxL rt tabs) {a : Addr} {n : Nat} {w : Nat → Value} {j x : Int32} (k : Nat) (eT : T.heap = h) (F : Ax Z h a .char n w) (hk : j.toInt = (k : Int)) (hn : k < n) (hd : decode bytes pc = .ok (.castore, 1)) (hp : pc + 1 = pc')
    (K : ∀ (T' : State) (h' : Heap), Stand p l e R s m args below meth c T' (locs ++ [⟨a, k⟩]) cells slots → T'.heap = h' → Wr h h' a k (.int (nar .char x)) → GoX p e below FX Q (T'.setTop (mkF m pc' Ls St))) : GoX p e below FX Q (T.setTop (mkF m pc Ls (.int x :: .int j :: .ref a :: St))) := by
  subst hp
  obtain ⟨h0, c, A, r1, r2⟩ := F
  obtain ⟨q1, q2⟩ := own_idx hk hn
  obtain ⟨T', h', X', e', W, st⟩ := stC X B.x B.z eT A (j := j) (x := x) (by rw [r1]; exact q1) (g := mkF m pc Ls (.int x :: .int j :: .ref a :: St)) rfl rfl (B.d hd)
  rw [q2] at X' W
  exact Go.step st (K T' h' X' e' W)
theorem g_sastore (X : Stand p l e R s m args below meth c T locs cells slots) (B : Bdy p s m meth c Z a0 own nm bytes maxL rt tabs) {a : Addr} {n : Nat} {w : Nat → Value} {j x : Int32} (k : Nat) (eT : T.heap = h) (F : Ax Z h a .short n w) (hk : j.toInt = (k : Int)) (hn : k < n) (hd : decode bytes pc = .ok (.sastore, 1)) (hp : pc + 1 = pc')
    (K : ∀ (T' : State) (h' : Heap), Stand p l e R s m args below meth c T' (locs ++ [⟨a, k⟩]) cells slots → T'.heap = h' → Wr h h' a k (.int (nar .short x)) → GoX p e below FX Q (T'.setTop (mkF m pc' Ls St))) : GoX p e below FX Q (T.setTop (mkF m pc Ls (.int x :: .int j :: .ref a :: St))) := by
  subst hp
  obtain ⟨h0, c, A, r1, r2⟩ := F
  obtain ⟨q1, q2⟩ := own_idx hk hn
  obtain ⟨T', h', X', e', W, st⟩ := stS X B.x B.z eT A (j := j) (x := x) (by rw [r1]; exact q1) (g := mkF m pc Ls (.int x :: .int j :: .ref a :: St)) rfl rfl (B.d hd)
  rw [q2] at X' W
  exact Go.step st (K T' h' X' e' W)
theorem g_initO (X : Stand p l e R s m args below meth c T locs cells slots) (B : Bdy p s m meth c Z a0 own nm bytes maxL rt tabs) {i : Nat} {a : Addr} (W : Nat) (w1 : (Jvm.Cond.methodLink own i Lib.objectInit).before a0 Z = true) (w2 : (Jvm.Cond.instanceMethod Lib.objectInit).before a0 Z = true) (w3 : (Jvm.Cond.code Lib.objectInit ⟨#[0xb1]⟩ 1 none).before a0 Z = true) (eT : T.heap = h) (hsz : Ls.size = maxL) (hd : decode bytes pc = .ok (.invokespecial i, 3)) (hp : pc + 3 = pc')
    (hf : 1 ≤ R.frames) (hW : (St.map fun v => v.category).sum ≤ W) (hl : W + 12 ≤ R.locals) (K : ∀ T' : State, Stand p l e R s m args below meth c T' locs cells slots → T'.heap = h → GoX p e below FX Q (T'.setTop (mkF m pc' Ls St))) : GoX p e below FX Q (T.setTop (mkF m pc Ls (.ref a :: St))) := by
  subst hp
  obtain ⟨T', X', e', st⟩ := initO X B.x B.z B.o w1 w2 w3 eT (g := mkF m pc Ls (.ref a :: St)) rfl (by rw [B.ml]; exact hsz) rfl (B.d hd) hf (W := W) (by show 2 * 0 + _ ≤ _; omega) hl
  exact Go.step st (K T' X' e')
theorem g_special (X : Stand p l e R s m args below meth c T locs cells slots) (B : Bdy p s m meth c Z a0 own nm bytes maxL rt tabs) {y : MethodName} {i : Nat} {yb : ByteArray} {ym : Nat} {rm : Room} {a : Addr} {argsL rest : List Value} {Qc : Option Value → Heap → List Loc → Prop} (eT : T.heap = h) (W : Nat) (hy1 : y.name = "<init>")
    (w1 : (Jvm.Cond.methodLink own i y).before a0 Z = true) (w2 : (Jvm.Cond.instanceMethod y).before a0 Z = true) (w3 : (Jvm.Cond.initialized y.cls).before a0 Z = true) (w4 : (Jvm.Cond.code y yb ym none).before a0 Z = true) (hy : y.cls ≠ "java/lang/invoke/MethodHandle" ∧ y.cls ≠ "java/lang/invoke/VarHandle")
    (M : Met l Z y yb ym none [] rm (.ref a :: argsL).toArray h Qc) (hf : rm.frames + 1 ≤ R.frames) (hl : W + (ym + 11) + rm.locals ≤ R.locals) (hc : cells + rm.cells ≤ R.cells) (hs : slots + rm.slots ≤ R.slots)
    (hsz : Ls.size = maxL) (hlen : ∀ sig, parseMethodDescriptor y.desc = some sig → argsL.length = sig.parameters.length) (hst : St = argsL.reverse ++ .ref a :: rest) (hW : (rest.map fun v => v.category).sum ≤ W) (hd : decode bytes pc = .ok (.invokespecial i, 3)) (hp : pc + 3 = pc')
    (K : ∀ (T' : State) (v : Option Value) (L : List Loc), Stand p l e R s m args below meth c T' (locs ++ L) (cells + rm.cells) (slots + rm.slots) → Qc v T'.heap L → GoX p e below FX Q (T'.setTop (mkF m pc' Ls (v.toList ++ rest)))) : GoX p e below FX Q (T.setTop (mkF m pc Ls St)) := by
  subst hp
  obtain ⟨v, _, ⟨T', L', k', n'⟩, -, X', ⟨Lc, hQ, l', y', z'⟩, st⟩ := X.specialBack B.x (y := y) hy1 B.o (mvT B.z w1) (mvT B.z w2) (mvT B.z w4) hy (backOf (W := W) M B.z w4 w3 hf hl) (g := mkF m pc Ls St) rfl (by rw [B.ml]; exact hsz) (Steps.refl _) (a := a) (argsL := argsL) (rest := rest) hlen hst (by show 2 * 0 + _ ≤ _; omega) (B.d hd) (fun _ _ => ⟨rfl, eT, hc, hs⟩)
  dsimp only [Pt.U, Pt.locs, Pt.cells, Pt.slots] at X' l' y' z' st hQ
  subst l' y' z'
  exact Go.step (fun t q => st.trans q) (K T' v Lc X' hQ)
theorem g_virtual (X : Stand p l e R s m args below meth c T locs cells slots) (B : Bdy p s m meth c Z a0 own nm bytes maxL rt tabs) {y : MethodName} {C : String} {i : Nat} {yb : ByteArray} {ym : Nat} {yr : Option FieldType} {rm : Room} {a : Addr} {argsL rest : List Value} {Qc : Option Value → Heap → List Loc → Prop} (eT : T.heap = h) (W : Nat) (E : Exa Z h a C)
    (w1 : (Jvm.Cond.methodLink own i y).before a0 Z = true) (wd : (Jvm.Cond.declares y).before a0 Z = true) (wsel : (Jvm.Cond.selects C y y).before a0 Z = true) (w2 : (Jvm.Cond.instanceMethod y).before a0 Z = true) (w3 : (Jvm.Cond.initialized y.cls).before a0 Z = true) (w4 : (Jvm.Cond.code y yb ym yr).before a0 Z = true) (hy : y.cls ≠ "java/lang/invoke/MethodHandle" ∧ y.cls ≠ "java/lang/invoke/VarHandle")
    (M : Met l Z y yb ym yr [] rm (.ref a :: argsL).toArray h Qc) (hf : rm.frames + 1 ≤ R.frames) (hl : W + (ym + 11) + rm.locals ≤ R.locals) (hc : cells + rm.cells ≤ R.cells) (hs : slots + rm.slots ≤ R.slots)
    (hsz : Ls.size = maxL) (hlen : ∀ sig, parseMethodDescriptor y.desc = some sig → argsL.length = sig.parameters.length) (hst : St = argsL.reverse ++ .ref a :: rest) (hW : (rest.map fun v => v.category).sum ≤ W) (hd : decode bytes pc = .ok (.invokevirtual i, 3)) (hp : pc + 3 = pc')
    (K : ∀ (T' : State) (v : Option Value) (L : List Loc), Stand p l e R s m args below meth c T' (locs ++ L) (cells + rm.cells) (slots + rm.slots) → Qc v T'.heap L → GoX p e below FX Q (T'.setTop (mkF m pc' Ls (v.toList ++ rest)))) : GoX p e below FX Q (T.setTop (mkF m pc Ls St)) := by
  subst hp
  obtain ⟨cq, kq, q1, q2, q3⟩ := isOf B.z eT E
  obtain ⟨v, _, ⟨T', L', k', n'⟩, -, X', ⟨Lc, hQ, l', y', z'⟩, st⟩ := X.virtualBack B.x (y := y) (z := y) B.o (mvT B.z w1) (mvT B.z wd) (notFace_of_selects (args := #[]) (mvT B.z wsel)) (mvT B.z wsel) (mvT B.z w2) hy (backOf (W := W) M B.z w4 w3 hf hl) q1 q3 (g := mkF m pc Ls St) rfl (by rw [B.ml]; exact hsz) (Steps.refl _) (argsL := argsL) (rest := rest) hlen hst (by show 2 * 0 + _ ≤ _; omega) (B.d hd) (fun _ _ => ⟨rfl, eT, hc, hs⟩)
  dsimp only [Pt.U, Pt.locs, Pt.cells, Pt.slots] at X' l' y' z' st hQ
  subst l' y' z'
  exact Go.step (fun t q => st.trans q) (K T' v Lc X' hQ)
theorem g_ifnullR (X : Stand p l e R s m args below meth c T locs cells slots) (B : Bdy p s m meth c Z a0 own nm bytes maxL rt tabs) {a : Addr} {o : Int} (hd : decode bytes pc = .ok (.ifnull o, 3)) (hp : pc + 3 = pc') (K : GoX p e below FX Q (T.setTop (mkF m pc' Ls St))) : GoX p e below FX Q (T.setTop (mkF m pc Ls (.ref a :: St))) := by
  subst hp; exact Go.step (fun t q => XS.ifnullNo X.here B.x (g := mkF m pc Ls (.ref a :: St)) rfl (B.d hd) rfl q) K
theorem g_ifnullN (X : Stand p l e R s m args below meth c T locs cells slots) (B : Bdy p s m meth c Z a0 own nm bytes maxL rt tabs) {o : Int} (hd : decode bytes pc = .ok (.ifnull o, 3)) (ho : 0 ≤ (pc : Int) + o) (hp : ((pc : Int) + o).toNat = pc') (K : GoX p e below FX Q (T.setTop (mkF m pc' Ls St))) : GoX p e below FX Q (T.setTop (mkF m pc Ls (.null :: St))) :=
  Go.step (fun t q => XS.ifnullYes X.here B.x (g := mkF m pc Ls (.null :: St)) rfl rfl (B.d hd) rfl ho hp q) K
theorem g_ifnonnullR (X : Stand p l e R s m args below meth c T locs cells slots) (B : Bdy p s m meth c Z a0 own nm bytes maxL rt tabs) {a : Addr} {o : Int} (hd : decode bytes pc = .ok (.ifnonnull o, 3)) (ho : 0 ≤ (pc : Int) + o) (hp : ((pc : Int) + o).toNat = pc') (K : GoX p e below FX Q (T.setTop (mkF m pc' Ls St))) : GoX p e below FX Q (T.setTop (mkF m pc Ls (.ref a :: St))) :=
  Go.step (fun t q => XS.ifnonnullYes X.here B.x (g := mkF m pc Ls (.ref a :: St)) rfl rfl (B.d hd) rfl ho hp q) K
theorem g_ifnonnullN (X : Stand p l e R s m args below meth c T locs cells slots) (B : Bdy p s m meth c Z a0 own nm bytes maxL rt tabs) {o : Int} (hd : decode bytes pc = .ok (.ifnonnull o, 3)) (hp : pc + 3 = pc') (K : GoX p e below FX Q (T.setTop (mkF m pc' Ls St))) : GoX p e below FX Q (T.setTop (mkF m pc Ls (.null :: St))) := by
  subst hp; exact Go.step (fun t q => XS.ifnonnullNo X.here B.x (g := mkF m pc Ls (.null :: St)) rfl (B.d hd) rfl q) K
theorem g_acmp_eq (X : Stand p l e R s m args below meth c T locs cells slots) (B : Bdy p s m meth c Z a0 own nm bytes maxL rt tabs) {a b : Addr} {o : Int} {pcT pcF : Nat} (hd : decode bytes pc = .ok (.if_acmp .eq o, 3)) (ho : 0 ≤ (pc : Int) + o) (hT : ((pc : Int) + o).toNat = pcT) (hF : pc + 3 = pcF) (K1 : a = b → GoX p e below FX Q (T.setTop (mkF m pcT Ls St))) (K2 : ¬ a = b → GoX p e below FX Q (T.setTop (mkF m pcF Ls St))) : GoX p e below FX Q (T.setTop (mkF m pc Ls (.ref b :: .ref a :: St))) := by
  by_cases q : a = b
  · exact Go.step (fun t k => XS.acmpYes X.here B.x (g := mkF m pc Ls (.ref b :: .ref a :: St)) rfl rfl (B.d hd) rfl (by simp [if_acmp.holds, q]) ho hT k) (K1 q)
  · subst hF; exact Go.step (fun t k => XS.acmpNo X.here B.x (g := mkF m pc Ls (.ref b :: .ref a :: St)) rfl (B.d hd) rfl (by simp [if_acmp.holds, q]) k) (K2 q)
theorem g_acmp_ne (X : Stand p l e R s m args below meth c T locs cells slots) (B : Bdy p s m meth c Z a0 own nm bytes maxL rt tabs) {a b : Addr} {o : Int} {pcT pcF : Nat} (hd : decode bytes pc = .ok (.if_acmp .ne o, 3)) (ho : 0 ≤ (pc : Int) + o) (hT : ((pc : Int) + o).toNat = pcT) (hF : pc + 3 = pcF) (K1 : a = b → GoX p e below FX Q (T.setTop (mkF m pcF Ls St))) (K2 : ¬ a = b → GoX p e below FX Q (T.setTop (mkF m pcT Ls St))) : GoX p e below FX Q (T.setTop (mkF m pc Ls (.ref b :: .ref a :: St))) := by
  by_cases q : a = b
  · subst hF; exact Go.step (fun t k => XS.acmpNo X.here B.x (g := mkF m pc Ls (.ref b :: .ref a :: St)) rfl (B.d hd) rfl (by simp [if_acmp.holds, q]) k) (K1 q)
  · exact Go.step (fun t k => XS.acmpYes X.here B.x (g := mkF m pc Ls (.ref b :: .ref a :: St)) rfl rfl (B.d hd) rfl (by simp [if_acmp.holds, q]) ho hT k) (K2 q)
theorem own_fuq {a : Addr} {C n d : String} {v w : Value} (F : Fld Z h a C n d v) (G : Fld Z h a C n d w) : v = w := by
  obtain ⟨c1, _, _, _, _, h1, h2, -, -, -, -, h3⟩ := F
  obtain ⟨c2, _, _, _, _, g1, g2, -, -, -, -, g3⟩ := G
  cases h1.symm.trans g1
  cases h2.symm.trans g2
  exact Option.some.inj (h3.symm.trans g3)
theorem own_fl {x : Addr} {t : Term} {C n d : String} {k : Int32} {as : Array Value} (ht : t.eval as s none [] s = some (.ref x)) (q : (Jvm.Cond.eq (.field t C n d) (.int k)).value as s none s [] = some true) : s.fieldOf? x C n d = some (.int k) := by
  obtain ⟨x', y', e1, e2, k1, k2⟩ := cmp_v (Or.inl q)
  have e3 : y' = .int k := (Option.some.inj ((Term.int_eval k).symm.trans e2)).symm
  subst e3
  obtain ⟨z, rfl⟩ := k2
  have e4 := gotT (Cond.eq_ints e1 e2) q
  subst e4
  rw [← fld_at (C := C) (n := n) (dd := d) ht]; exact e1
end HeapKit
theorem own_ints_nil (x : Int32) : ∀ j : Nat, ∃ v : Int32, (fun _ : Nat => Value.int x) j = .int v := fun _ => ⟨x, rfl⟩
theorem own_ints_set {w : Nat → Value} (H : ∀ j : Nat, ∃ v : Int32, w j = .int v) (k : Nat) (x : Int32) : ∀ j : Nat, ∃ v : Int32, (fun j => if j = k then Value.int x else w j) j = .int v := fun j => by
  by_cases q : j = k
  · exact ⟨x, by simp [q]⟩
  · obtain ⟨v, hv⟩ := H j; exact ⟨v, by simp [q, hv]⟩
section HeapKit2
variable {p : Program} {l : Launch} {e : Env} {R : Room} {s : State} {m : MethodId} {args : Array Value} {below : List Frame} {meth : Method} {c : Code} {T : State} {locs : List Loc} {cells slots : Nat} {Z : State} {a0 : Array Value} {h h' : Heap} {nc ns : Nat} {Q Q' : Option Value → Heap → List Loc → Prop} {pc pc' : Nat} {Ls Ls' : Array Slot} {St : List Value} {own nm : String} {bytes : ByteArray} {maxL : Nat} {rt : Option FieldType} {tabs : List Jvm.Cond} {FX : Outcome → State → List Loc → Prop}
theorem g_iaload_any (X : Stand p l e R s m args below meth c T locs cells slots) (B : Bdy p s m meth c Z a0 own nm bytes maxL rt tabs) {a : Addr} {n : Nat} {w : Nat → Value} {j : Int32} (k : Nat) (eT : T.heap = h) (F : Ax Z h a .int n w) (hk : j.toInt = (k : Int)) (hn : k < n) (hall : ∀ j : Nat, ∃ v : Int32, w j = .int v) (hd : decode bytes pc = .ok (.iaload, 1)) (hp : pc + 1 = pc') (K : ∀ v : Int32, GoX p e below FX Q (T.setTop (mkF m pc' Ls (.int v :: St)))) : GoX p e below FX Q (T.setTop (mkF m pc Ls (.int j :: .ref a :: St))) := by
  obtain ⟨v, hv⟩ := hall k
  exact g_iaload X B k eT F hk hn hv hd hp (K v)
end HeapKit2
section HeapKit3
variable {p : Program} {l : Launch} {e : Env} {R : Room} {s : State} {m : MethodId} {args : Array Value} {below : List Frame} {meth : Method} {c : Code} {T : State} {locs : List Loc} {cells slots : Nat} {Z : State} {a0 : Array Value} {h h' : Heap} {nc ns : Nat} {Q Q' : Option Value → Heap → List Loc → Prop} {pc pc' : Nat} {Ls Ls' : Array Slot} {St : List Value} {own nm : String} {bytes : ByteArray} {maxL : Nat} {rt : Option FieldType} {tabs : List Jvm.Cond} {FX : Outcome → State → List Loc → Prop}
theorem g_private (X : Stand p l e R s m args below meth c T locs cells slots) (B : Bdy p s m meth c Z a0 own nm bytes maxL rt tabs) {y : MethodName} {C : String} {i kk : Nat} {yb : ByteArray} {ym : Nat} {yr : Option FieldType} {rm : Room} {a : Addr} {argsL rest : List Value} {Qc : Option Value → Heap → List Loc → Prop} (eT : T.heap = h) (W : Nat) (E : Exa Z h a C)
    (w1 : (Jvm.Cond.methodLink own i y).before a0 Z = true) (wi : (Jvm.Cond.instantiable y.cls kk).before a0 Z = true) (wp : (Jvm.Cond.privateMethod y).before a0 Z = true) (w2 : (Jvm.Cond.instanceMethod y).before a0 Z = true) (w3 : (Jvm.Cond.initialized y.cls).before a0 Z = true) (w4 : (Jvm.Cond.code y yb ym yr).before a0 Z = true) (hy : y.cls ≠ "java/lang/invoke/MethodHandle" ∧ y.cls ≠ "java/lang/invoke/VarHandle")
    (M : Met l Z y yb ym yr [] rm (.ref a :: argsL).toArray h Qc) (hf : rm.frames + 1 ≤ R.frames) (hl : W + (ym + 11) + rm.locals ≤ R.locals) (hc : cells + rm.cells ≤ R.cells) (hs : slots + rm.slots ≤ R.slots)
    (hsz : Ls.size = maxL) (hlen : ∀ sig, parseMethodDescriptor y.desc = some sig → argsL.length = sig.parameters.length) (hst : St = argsL.reverse ++ .ref a :: rest) (hW : (rest.map fun v => v.category).sum ≤ W) (hd : decode bytes pc = .ok (.invokevirtual i, 3)) (hp : pc + 3 = pc')
    (K : ∀ (T' : State) (v : Option Value) (L : List Loc), Stand p l e R s m args below meth c T' (locs ++ L) (cells + rm.cells) (slots + rm.slots) → Qc v T'.heap L → GoX p e below FX Q (T'.setTop (mkF m pc' Ls (v.toList ++ rest)))) : GoX p e below FX Q (T.setTop (mkF m pc Ls St)) := by
  subst hp
  obtain ⟨cq, q1, q2⟩ := E.cell
  have wi' : (Jvm.Cond.instantiable y.cls kk).before args s = true := mvT B.z wi
  have w2' : (Jvm.Cond.instanceMethod y).before args s = true := mvT B.z w2
  obtain ⟨c2, k2, i1, i2, i3, i4, -⟩ := Cond.instantiable_spec wi'
  have i5 : k2.isInterface = false := by
    cases hq : k2.isInterface with
    | false => rfl
    | true => rw [hq] at i4; cases i4
  have hpv := Cond.privateMethod_at (mvP B.z wp (args := #[]))
  obtain ⟨v, _, ⟨T', L', k', n'⟩, -, X', ⟨Lc, hQ, l', y', z'⟩, st⟩ := X.privateBack B.x (y := y) B.o (mvT B.z w1) w2' (selects_self_of_private i1 i2 i5 hpv w2' hy) hpv (mvT B.z w4) hy (backOf (W := W) M B.z w4 w3 hf hl) (g := mkF m pc Ls St) rfl (by rw [B.ml]; exact hsz) (Steps.refl _) (a := a) (by rw [eT]; exact q1) q2 (argsL := argsL) (rest := rest) hlen hst (by show 2 * 0 + _ ≤ _; omega) (B.d hd) (fun _ _ => ⟨rfl, eT, hc, hs⟩)
  dsimp only [Pt.U, Pt.locs, Pt.cells, Pt.slots] at X' l' y' z' st hQ
  subst l' y' z'
  exact Go.step (fun t q => st.trans q) (K T' v Lc X' hQ)
theorem g_pop2L (X : Stand p l e R s m args below meth c T locs cells slots) (B : Bdy p s m meth c Z a0 own nm bytes maxL rt tabs) {x : Int64} (hd : decode bytes pc = .ok (.pop2, 1)) (hp : pc + 1 = pc') (K : GoX p e below FX Q (T.setTop (mkF m pc' Ls St))) : GoX p e below FX Q (T.setTop (mkF m pc Ls (.long x :: St))) := by
  subst hp
  have hd' := B.d hd
  have hx := B.x
  refine Go.step (fun t q => ?_) K
  jvm_step X.here [X.here.top, hx, hd', Value.category]
  exact q
theorem g_instY (X : Stand p l e R s m args below meth c T locs cells slots) (B : Bdy p s m meth c Z a0 own nm bytes maxL rt tabs) {i : Nat} {C : String} {a : Addr} (w : (Jvm.Cond.classLink own i C).before a0 Z = true) (eT : T.heap = h) (F : Ins Z h a C true) (hd : decode bytes pc = .ok (.instanceof i, 3)) (hp : pc + 3 = pc')
    (K : ∀ T' : State, Stand p l e R s m args below meth c T' locs cells slots → T'.heap = h → GoX p e below FX Q (T'.setTop (mkF m pc' Ls (.int (1 : Int32) :: St)))) : GoX p e below FX Q (T.setTop (mkF m pc Ls (.ref a :: St))) := by
  subst hp
  obtain ⟨T', X', e', st⟩ := instY X B.x B.z B.o w eT F (g := mkF m pc Ls (.ref a :: St)) rfl rfl (B.d hd)
  exact Go.step st (K T' X' e')
theorem g_instN (X : Stand p l e R s m args below meth c T locs cells slots) (B : Bdy p s m meth c Z a0 own nm bytes maxL rt tabs) {i : Nat} {K' C : String} {a : Addr} (w : (Jvm.Cond.classLink own i K').before a0 Z = true) (eT : T.heap = h) (E : Exa Z h a C) (F : ∃ c t, Z.vm.findClass C = some c ∧ Z.vm.findClass K' = some t ∧ Z.vm.assignable c t = false) (hd : decode bytes pc = .ok (.instanceof i, 3)) (hp : pc + 3 = pc')
    (K : ∀ T' : State, Stand p l e R s m args below meth c T' locs cells slots → T'.heap = h → GoX p e below FX Q (T'.setTop (mkF m pc' Ls (.int (0 : Int32) :: St)))) : GoX p e below FX Q (T.setTop (mkF m pc Ls (.ref a :: St))) := by
  subst hp
  obtain ⟨T', X', e', st⟩ := instNo X B.x B.z B.o w eT E F (g := mkF m pc Ls (.ref a :: St)) rfl rfl (B.d hd)
  exact Go.step st (K T' X' e')
theorem g_castY (X : Stand p l e R s m args below meth c T locs cells slots) (B : Bdy p s m meth c Z a0 own nm bytes maxL rt tabs) {i : Nat} {C : String} {a : Addr} (w : (Jvm.Cond.classLink own i C).before a0 Z = true) (eT : T.heap = h) (F : Ins Z h a C true) (hd : decode bytes pc = .ok (.checkcast i, 3)) (hp : pc + 3 = pc')
    (K : ∀ T' : State, Stand p l e R s m args below meth c T' locs cells slots → T'.heap = h → GoX p e below FX Q (T'.setTop (mkF m pc' Ls (.ref a :: St)))) : GoX p e below FX Q (T.setTop (mkF m pc Ls (.ref a :: St))) := by
  subst hp
  obtain ⟨T', X', e', st⟩ := castY X B.x B.z B.o w eT F (g := mkF m pc Ls (.ref a :: St)) rfl rfl (B.d hd)
  exact Go.step st (K T' X' e')
theorem g_newAE (X : Stand p l e R s m args below meth c T locs cells slots) (B : Bdy p s m meth c Z a0 own nm bytes maxL rt tabs) {aty : ArrayType} {z : Int32} (ad : String) (k cap : Nat) (w : (Jvm.Cond.arrayClass (newarray.typeOf aty)).before a0 Z = true) (eT : T.heap = h) (hz : z.toInt = (k : Int)) (hcap : k ≤ cap) (hb : cap * 8 ≤ 536870912) (had : "[" ++ (newarray.typeOf aty).toString = ad) (hd : decode bytes pc = .ok (.newarray aty, 2)) (hp : pc + 2 = pc') (hc : cells + 1 ≤ R.cells) (hl : slots + cap ≤ R.slots)
    (K : ∀ (T' : State) (h' : Heap) (a : Addr), a = h.size → Stand p l e R s m args below meth c T' locs (cells + 1) (slots + cap) → T'.heap = h' → Ext h h' → Ax Z h' a (newarray.typeOf aty) k (fun _ => defaultValue (newarray.typeOf aty)) → Exa Z h' a ad → GoX p e below FX Q (T'.setTop (mkF m pc' Ls (.ref a :: St)))) : GoX p e below FX Q (T.setTop (mkF m pc Ls (.int z :: St))) := by
  subst hp
  have e1 : z.toNatClampNeg = k := by show z.toInt.toNat = k; omega
  have e0 : (0 : Int32).toInt = 0 := rfl
  have hlt := z.toInt_lt
  obtain ⟨T', h', cA, X', e', E, A, Ea, st⟩ := newPE X B.x B.z w eT (g := mkF m pc Ls (.int z :: St)) rfl (B.d hd) rfl (by rw [Int32.lt_iff_toInt_lt, e0]; omega) (cap := cap) (by omega) hb hc hl had
  refine Go.step st (K T' h' _ rfl X' e' E ⟨by omega, _, A, (sz_new _ _ _).trans e1, fun j hj => ?_⟩ Ea)
  simp [newA, e1, hj]
theorem own_arv {a : Addr} {n : Nat} {w : Nat → Value} {ty : FieldType} (d : Value) (F : Ax Z h a ty n w) (hf : ∀ j, j < n → fits ty (w j) = true) : ∃ k, Arv Z h a k ty (Int32.ofNat n) ((List.range n).map w) d := by
  obtain ⟨h0, c, A, r1, r2⟩ := F
  have e0 : (0 : Int32).toInt = 0 := rfl
  have e1 : (Int32.ofNat n).toInt = (n : Int) := Int32.toInt_ofNat_small (by omega)
  have e2 : (Int32.ofNat n).toNatClampNeg = n := by show (Int32.ofNat n).toInt.toNat = n; omega
  have q : ∀ k, k < n → ((List.range n).map w).getD k d = w k := fun k hk => by
    rw [List.getD_eq_getElem?_getD, List.getElem?_map, List.getElem?_range hk]; rfl
  refine ⟨c.cls, c, A, rfl, by rw [r1, e2], by rw [Int32.lt_iff_toInt_lt, e0, e1]; omega, fun k hk => ?_, fun k hk => ?_⟩
  · rw [r1] at hk; rw [q k hk]; exact r2 k hk
  · rw [r1] at hk; rw [q k hk]; exact hf k hk
theorem g_clone (X : Stand p l e R s m args below meth c T locs cells slots) (B : Bdy p s m meth c Z a0 own nm bytes maxL rt tabs) {i : Nat} {ad : String} {a : Addr} {ty : FieldType} {n : Nat} {w : Nat → Value} (W cap : Nat)
    (w1 : (Jvm.Cond.methodLink own i ⟨ad, "clone", "()Ljava/lang/Object;"⟩).before a0 Z = true) (w2 : (Jvm.Cond.sameMethod ad "java/lang/Object" "clone" "()Ljava/lang/Object;").before a0 Z = true) (w3 : (Jvm.Cond.native ⟨"java/lang/Object", "clone", "()Ljava/lang/Object;"⟩).before a0 Z = true)
    (w4 : (Jvm.Cond.instanceMethod ⟨"java/lang/Object", "clone", "()Ljava/lang/Object;"⟩).before a0 Z = true) (w5 : (Jvm.Cond.selects ad ⟨ad, "clone", "()Ljava/lang/Object;"⟩ ⟨"java/lang/Object", "clone", "()Ljava/lang/Object;"⟩).before a0 Z = true) (w6 : (Jvm.Cond.castable ad "java/lang/Cloneable").before a0 Z = true)
    (eT : T.heap = h) (F : Ax Z h a ty n w) (hfit : ∀ j, j < n → fits ty (w j) = true) (E : Exa Z h a ad) (hsz : Ls.size = maxL) (hd : decode bytes pc = .ok (.invokevirtual i, 3)) (hp : pc + 3 = pc') (hf : 1 ≤ R.frames) (hW : (St.map fun v => v.category).sum ≤ W) (hl : W + 14 ≤ R.locals) (hcap : n ≤ cap) (hc : cells + 1 ≤ R.cells) (hsl : slots + cap ≤ R.slots)
    (K : ∀ (T' : State) (h' : Heap) (b : Addr), b = h.size → Stand p l e R s m args below meth c T' locs (cells + 1) (slots + cap) → T'.heap = h' → Ext h h' → Exa Z h' b ad → GoX p e below FX Q (T'.setTop (mkF m pc' Ls (.ref b :: St)))) : GoX p e below FX Q (T.setTop (mkF m pc Ls (.ref a :: St))) := by
  subst hp
  obtain ⟨k, V⟩ := own_arv (.int 0) F hfit
  have e1 : (Int32.ofNat n).toInt = (n : Int) := Int32.toInt_ofNat_small (by have := F.1; omega)
  obtain ⟨T', h', X', e', Ex, -, Ea, st⟩ := cloneH X B.x B.z B.o w1 w2 w3 w4 w5 w6 eT V.arh E (g := mkF m pc Ls (.ref a :: St)) rfl (by rw [B.ml]; exact hsz) rfl (B.d hd) hf (W := W) (cap := cap) (by show 2 * 0 + _ ≤ _; omega) hl (by show (Int32.ofNat n).toInt.toNat ≤ cap; omega) hc hsl
  exact Go.step st (K T' h' _ rfl X' e' Ex Ea)
theorem g_copy (X : Stand p l e R s m args below meth c T locs cells slots) (B : Bdy p s m meth c Z a0 own nm bytes maxL rt tabs) {i : Nat} {a b : Addr} {ty : FieldType} {n n' : Nat} {w w' : Nat → Value} {sp dp nn : Int32} {n0 : Nat} (ks kd kn W : Nat)
    (w1 : (Jvm.Cond.methodLink own i Jvm.Stand.acN).before a0 Z = true) (w2 : (Jvm.Cond.native Jvm.Stand.acN).before a0 Z = true) (w3 : (Jvm.Cond.static Jvm.Stand.acN).before a0 Z = true) (w4 : (Jvm.Cond.initialized "java/lang/System").before a0 Z = true) (eT : T.heap = h)
    (F : Ax Z h a ty n w) (F' : Ax Z h b ty n' w') (hty : refKind ty = false) (hfit : ∀ j, j < n → fits ty (w j) = true) (hfit' : ∀ j, j < n' → fits ty (w' j) = true) (hs : sp.toInt = (ks : Int)) (hdp : dp.toInt = (kd : Int)) (hnn : nn.toInt = (kn : Int)) (h4 : ks + kn ≤ n) (h5 : kd + kn ≤ n') (N : Fr n0 locs) (ge : n0 ≤ b)
    (hsz : Ls.size = maxL) (hd : decode bytes pc = .ok (.invokestatic i, 3)) (hp : pc + 3 = pc') (hf : 1 ≤ R.frames) (hW : (St.map fun v => v.category).sum ≤ W) (hl : W + 18 ≤ R.locals)
    (K : ∀ (T' : State) (h' : Heap) (L : List Loc), Stand p l e R s m args below meth c T' L cells slots → T'.heap = h' → Fr n0 L → Keep h h' [b] → GoX p e below FX Q (T'.setTop (mkF m pc' Ls St))) : GoX p e below FX Q (T.setTop (mkF m pc Ls (.int nn :: .int dp :: .ref b :: .int sp :: .ref a :: St))) := by
  subst hp
  obtain ⟨k, V⟩ := own_arv (.int 0) F hfit
  obtain ⟨k', V'⟩ := own_arv (.int 0) F' hfit'
  have e0 : (0 : Int32).toInt = 0 := rfl
  have e1 : (Int32.ofNat n).toInt = (n : Int) := Int32.toInt_ofNat_small (by have := F.1; omega)
  have e2 : (Int32.ofNat n').toInt = (n' : Int) := Int32.toInt_ofNat_small (by have := F'.1; omega)
  obtain ⟨T', h', L, X', e', NL, Kp, -, st⟩ := cpA X B.x B.z B.o w1 w2 w3 w4 eT V V' (Or.inl ⟨rfl, hty⟩) (by rw [Int32.lt_iff_toInt_lt, e0]; omega) (by rw [Int32.lt_iff_toInt_lt, e0]; omega) (by rw [Int32.lt_iff_toInt_lt, e0]; omega) (by show sp.toInt.toNat + nn.toInt.toNat ≤ (Int32.ofNat n).toInt.toNat; omega) (by show dp.toInt.toNat + nn.toInt.toNat ≤ (Int32.ofNat n').toInt.toNat; omega) rfl (by rw [List.length_map, List.length_range]; show dp.toInt.toNat + nn.toInt.toNat ≤ n'; omega) N ge (g := mkF m pc Ls (.int nn :: .int dp :: .ref b :: .int sp :: .ref a :: St)) rfl (by rw [B.ml]; exact hsz) rfl (B.d hd) hf (W := W) (by show 2 * 0 + _ ≤ _; omega) (by show W + (5 + 2 + 11) ≤ _; exact hl)
  exact Go.step st (K T' h' L X' e' NL Kp)
theorem own_root {O K : String} {kk : Nat} (w : (Jvm.Cond.noSuperclass O).before a0 Z = true) (wk : (Jvm.Cond.instantiable K kk).before a0 Z = true) (hn : O ≠ K) : NS Z O K := by
  obtain ⟨c, k, h1, h2, h3, -, -⟩ := Cond.noSuperclass_spec w
  obtain ⟨t, k', g1, -⟩ := Cond.instantiable_spec wk
  have ne := ids_ne h1 g1 hn
  refine ⟨c, t, h1, g1, fun fuel => ?_⟩
  cases fuel with
  | zero => rfl
  | succ f => simp [Vm.isSubclassAux, ne, h2, h3]
theorem own_no {C S K : String} {kk : Nat} (w : (Jvm.Cond.superclass C S).before a0 Z = true) (wk : (Jvm.Cond.instantiable K kk).before a0 Z = true) (n : NS Z C K) (hn : C ≠ K) : ∃ c t, Z.vm.findClass C = some c ∧ Z.vm.findClass K = some t ∧ Z.vm.assignable c t = false := by
  obtain ⟨c, t, h0, g0, n3⟩ := n
  obtain ⟨p, k, kp, h1, h2, h3, h4, h5, -, h7⟩ := Cond.superclass_spec h0 w
  obtain ⟨t', k', g1, g2, g5, g6, -⟩ := Cond.instantiable_spec wk
  cases g0.symm.trans g1
  have g7 : k'.isInterface = false := by
    cases hq : k'.isInterface with
    | false => rfl
    | true => rw [hq] at g6; cases g6
  have ne := ids_ne h0 g0 hn
  refine ⟨c, t, h0, g0, ?_⟩
  show Z.vm.assignableAux (255 + 1) c t = false
  simp [Vm.assignableAux, ne, h2, g2, h5, g5, g7, Vm.isSubclass, n3]
theorem own_old_ext (O : Ext Z.heap h) (E : Ext h h') : Ext Z.heap h' := ⟨Nat.le_trans O.1 E.1, fun a c q => E.2 a c (O.2 a c q)⟩
theorem own_old_keep {ws : List Addr} (O : Ext Z.heap h) (K : Keep h h' ws) (q : ∀ x ∈ ws, Z.heap.size ≤ x) : Ext Z.heap h' := ⟨Nat.le_trans O.1 K.1, fun a c hc => K.2.1 a c (O.2 a c hc) fun hm => absurd (Array.getElem?_eq_some_iff.mp hc).1 (Nat.not_lt.mpr (q a hm))⟩
theorem own_old_wr {a : Addr} {sl : Nat} {v : Value} (O : Ext Z.heap h) (W : Wr h h' a sl v) (q : Z.heap.size ≤ a) : Ext Z.heap h' := own_old_keep O (Keep.of_wr W) fun x hx => by cases List.mem_singleton.mp hx; exact q
theorem g_aaload (X : Stand p l e R s m args below meth c T locs cells slots) (B : Bdy p s m meth c Z a0 own nm bytes maxL rt tabs) {a : Addr} {cl : Cell} {C : String} {j : Int32} {v : Value} (eT : T.heap = h) (A : Arr Z h a cl (.object C)) (hj : ¬ (j < 0 ∨ cl.slots.size ≤ j.toNatClampNeg)) (hv : cl.slots[j.toNatClampNeg]? = some v) (hd : decode bytes pc = .ok (.aaload, 1)) (hp : pc + 1 = pc') (K : GoX p e below FX Q (T.setTop (mkF m pc' Ls (v :: St)))) : GoX p e below FX Q (T.setTop (mkF m pc Ls (.int j :: .ref a :: St))) := by
  subst hp
  exact Go.step (fun t q => X.aaload B.x (v := v) (by rw [eT]; exact A.1) (State.isArrayOf_alike B.z.alike A.2.1) rfl A.2.2 hj hv (g := mkF m pc Ls (.int j :: .ref a :: St)) rfl rfl (B.d hd) t q) K
theorem g_instNull (X : Stand p l e R s m args below meth c T locs cells slots) (B : Bdy p s m meth c Z a0 own nm bytes maxL rt tabs) {i : Nat} (hd : decode bytes pc = .ok (.instanceof i, 3)) (hp : pc + 3 = pc') (K : GoX p e below FX Q (T.setTop (mkF m pc' Ls (.int (0 : Int32) :: St)))) : GoX p e below FX Q (T.setTop (mkF m pc Ls (.null :: St))) := by
  subst hp
  have hd' := B.d hd
  have hx := B.x
  refine Go.step (fun t q => ?_) K
  jvm_step X.here [X.here.top, hx, hd', instanceof.sem]
  exact q
end HeapKit3
theorem own_pd0 : parseMethodDescriptor "([JII)V" = some ⟨[(.array .long), .int, .int], none⟩ := by decide +kernel
theorem own_pd1 : parseMethodDescriptor "(Ljava/util/DualPivotQuicksort$Sorter;[JIII)V" = some ⟨[(.object "java/util/DualPivotQuicksort$Sorter"), (.array .long), .int, .int, .int], none⟩ := by decide +kernel
theorem own_pd2 : parseMethodDescriptor "(III)V" = some ⟨[.int, .int, .int], none⟩ := by decide +kernel
theorem own_pd3 : parseMethodDescriptor "([JIII)V" = some ⟨[(.array .long), .int, .int, .int], none⟩ := by decide +kernel
theorem own_pd4 : parseMethodDescriptor "(I)V" = some ⟨[.int], none⟩ := by decide +kernel
theorem own_pd5 : parseMethodDescriptor "(J)I" = some ⟨[.long], some .int⟩ := by decide +kernel
theorem own_pd6 : parseMethodDescriptor "()Z" = some ⟨[], some .boolean⟩ := by decide +kernel
theorem own_pd7 : parseMethodDescriptor "(JI[B)I" = some ⟨[.long, .int, (.array .byte)], some .int⟩ := by decide +kernel
theorem own_pd8 : parseMethodDescriptor "(J)Ljava/lang/AbstractStringBuilder;" = some ⟨[.long], some (.object "java/lang/AbstractStringBuilder")⟩ := by decide +kernel
theorem own_pd9 : parseMethodDescriptor "()B" = some ⟨[], some .byte⟩ := by decide +kernel
theorem own_pd10 : parseMethodDescriptor "(Ljava/lang/String;)V" = some ⟨[(.object "java/lang/String")], none⟩ := by decide +kernel
theorem own_pd11 : parseMethodDescriptor "([BIB)V" = some ⟨[(.array .byte), .int, .byte], none⟩ := by decide +kernel
theorem own_pd12 : parseMethodDescriptor "()I" = some ⟨[], some .int⟩ := by decide +kernel
theorem own_pd13 : parseMethodDescriptor "(ILjava/lang/String;)V" = some ⟨[.int, (.object "java/lang/String")], none⟩ := by decide +kernel
theorem own_pd14 : parseMethodDescriptor "(Ljava/lang/String;)Ljava/lang/AbstractStringBuilder;" = some ⟨[(.object "java/lang/String")], some (.object "java/lang/AbstractStringBuilder")⟩ := by decide +kernel
theorem own_pd15 : parseMethodDescriptor "(II)V" = some ⟨[.int, .int], none⟩ := by decide +kernel
theorem own_pd16 : parseMethodDescriptor "(II)I" = some ⟨[.int, .int], some .int⟩ := by decide +kernel
theorem own_pd17 : parseMethodDescriptor "([BII)[B" = some ⟨[(.array .byte), .int, .int], some (.array .byte)⟩ := by decide +kernel
theorem own_pd18 : parseMethodDescriptor "()[B" = some ⟨[], some (.array .byte)⟩ := by decide +kernel
theorem own_pd19 : parseMethodDescriptor "(Ljava/lang/AbstractStringBuilder;Ljava/lang/Void;)V" = some ⟨[(.object "java/lang/AbstractStringBuilder"), (.object "java/lang/Void")], none⟩ := by decide +kernel
theorem own_pd20 : parseMethodDescriptor "(Ljava/lang/StringBuilder;)V" = some ⟨[(.object "java/lang/StringBuilder")], none⟩ := by decide +kernel
theorem own_pd21 : parseMethodDescriptor "(IILjava/util/function/BiFunction;)I" = some ⟨[.int, .int, (.object "java/util/function/BiFunction")], some .int⟩ := by decide +kernel
theorem own_pd22 : parseMethodDescriptor "([BI)C" = some ⟨[(.array .byte), .int], some .char⟩ := by decide +kernel
theorem own_pd23 : parseMethodDescriptor "(I)C" = some ⟨[.int], some .char⟩ := by decide +kernel
theorem own_pd24 : parseMethodDescriptor "(Ljava/lang/String;)Ljava/lang/StringBuilder;" = some ⟨[(.object "java/lang/String")], some (.object "java/lang/StringBuilder")⟩ := by decide +kernel
theorem own_pd25 : parseMethodDescriptor "(J)Ljava/lang/StringBuilder;" = some ⟨[.long], some (.object "java/lang/StringBuilder")⟩ := by decide +kernel
theorem own_pd26 : parseMethodDescriptor "()Ljava/lang/String;" = some ⟨[], some (.object "java/lang/String")⟩ := by decide +kernel
theorem own_pd27 : parseMethodDescriptor "()V" = some ⟨[], none⟩ := by decide +kernel
theorem own_pd28 : parseMethodDescriptor "(JJ)J" = some ⟨[.long, .long], some .long⟩ := by decide +kernel
theorem own_pd29 : parseMethodDescriptor "([B[B)Z" = some ⟨[(.array .byte), (.array .byte)], some .boolean⟩ := by decide +kernel
theorem own_pd30 : parseMethodDescriptor "(Ljava/lang/Object;)Z" = some ⟨[(.object "java/lang/Object")], some .boolean⟩ := by decide +kernel
theorem own_pd31 : parseMethodDescriptor "(Ljava/lang/String;J)Z" = some ⟨[(.object "java/lang/String"), .long], some .boolean⟩ := by decide +kernel
theorem own_pd32 : parseMethodDescriptor "(J)V" = some ⟨[.long], none⟩ := by decide +kernel
theorem own_pd33 : parseMethodDescriptor "(I)Ljava/lang/String;" = some ⟨[.int], some (.object "java/lang/String")⟩ := by decide +kernel
/-! a walk that may intern a String constant -/
abbrev GoV (p : Program) (e : Env) (below : List Frame) (Z : State) (EL : List (String × Nat)) (vm0 : Vm) (h0 : Heap) (s : State) (nc ns : Nat) (Q : Option Value → Heap → List Loc → Prop) (u : State) : Prop :=
  GoX p e below (fun o t L => CHr Z EL vm0 h0 t.vm t.heap ∧ ReturnedEndW s o t L nc ns) Q u
abbrev GoW (p : Program) (e : Env) (below : List Frame) (Z : State) (EL : List (String × Nat)) (s : State) (nc ns : Nat) (Q : Option Value → Heap → List Loc → Prop) (u : State) : Prop :=
  GoX p e below (fun o t L => CHr Z EL s.vm s.heap t.vm t.heap ∧ ReturnedEndW s o t L nc ns) Q u
section LitKit
variable {p : Program} {l : Launch} {e : Env} {R : Room} {s : State} {m : MethodId} {args : Array Value} {below : List Frame} {meth : Method} {c : Code} {T : State} {locs : List Loc} {cells slots : Nat} {Z : State} {a0 : Array Value} {h h' : Heap} {nc ns : Nat} {Q Q' : Option Value → Heap → List Loc → Prop} {pc pc' : Nat} {Ls Ls' : Array Slot} {St : List Value} {own nm : String} {bytes : ByteArray} {maxL : Nat} {rt : Option FieldType} {tabs : List Jvm.Cond} {FX : Outcome → State → List Loc → Prop} {EL : List (String × Nat)} {vm1 vm0 : Vm} {h1 h0 : Heap} {k1 : Nat}
theorem own_wide (hS : s.Since vm1 k1) (hk : k1 ≤ h1.size) (hZ : Z.Warmed39 vm1) (hEL : EW Z a0 EL) (A : CHr Z EL vm0 h0 vm1 h1) {u : State}
    (k : Go p e below (s.setVm vm1) nc ns (fun v h2 L => Q v h2 L ∧ ∃ ws, Keep h1 h2 ws ∧ ∀ x ∈ ws, Safe Z EL vm1 h1 x) u) : GoV p e below Z EL vm0 h0 s nc ns Q u := by
  obtain ⟨s₂, o, r1, r2, r3, v, L, r4, ⟨r5, ws, K, hs⟩, r6, r7, r8⟩ := k
  have E := hS.ended r7 (Nat.le_trans hk K.1) r8
  have B := A.trans (CHr.keep K hs A.1)
  have D := CHv.later (vm := vm1) (vm1 := s₂.vm) (h := s₂.heap) (h' := s₂.heap) hZ (show (Wst Z vm1 s₂.heap).Warmed39 s₂.vm from r7.wide) hEL ⟨Nat.le_refl _, fun _ _ q => q⟩ (Or.inl r7.interned_eq) B.1
  exact ⟨s₂, o, r1, r2, r3, v, L, r4, r5, B.trans ⟨D.1, Nat.le_refl _, D.2⟩, r6, E.1, E.2.1, E.2.2⟩
theorem own_wide2 (hS : s.Since vm1 k1) (hk : k1 ≤ h1.size) (A : CHr Z EL vm0 h0 vm1 h1) {u : State}
    (k : GoX p e below (fun o t L => CHr Z EL vm1 h1 t.vm t.heap ∧ ReturnedEndW (s.setVm vm1) o t L nc ns) Q u) : GoV p e below Z EL vm0 h0 s nc ns Q u := by
  obtain ⟨s₂, o, r1, r2, r3, v, L, r4, r5, C, r6, r7, r8, r9⟩ := k
  have E := hS.trans (show (s.setVm vm1).Since s₂.vm s₂.heap.size from ⟨r7, r8⟩) (Nat.le_trans hk C.2.1)
  exact ⟨s₂, o, r1, r2, r3, v, L, r4, r5, A.trans C, r6, E.1, E.2, r9.setVm s.vm⟩
theorem own_narrow (hZ : Z.Warmed39 s.vm) (hEL : EW Z a0 EL) (H : CHv Z EL s.vm h0) {u : State}
    (k : Go p e below s nc ns (fun v h2 L => Q v h2 L ∧ ∃ ws, Keep h0 h2 ws ∧ ∀ x ∈ ws, Safe Z EL s.vm h0 x) u) : GoV p e below Z EL s.vm h0 s nc ns Q u :=
  own_wide (s := s) (vm1 := s.vm) (k1 := h0.size) (h1 := h0) (State.WarmedH.since (State.WarmedH.refl s) _) (Nat.le_refl _) hZ hEL (CHr.refl H) k
theorem g_ldcW (X : Stand p l e R s m args below meth c T locs cells slots) (B : Bdy p s m meth c Z a0 own nm bytes maxL rt tabs) {text : String} {index : Nat} {vs : List Value} {z : Int32} (n : Nat) (eT : T.heap = h) (H : CHv Z EL s.vm h) (hEL : EW Z a0 EL) (hmem : (own, index) ∈ EL) (w : (Jvm.Cond.stringLink own index text).before a0 Z = true) (wS : ∀ a ∈ Bundle.stringAtoms, a.before a0 Z = true)
    (ht : (∀ c ∈ text.toList, c.toNat < 256) ∧ text.toList.map (fun c => Value.int (Jvm.Lit.byteI c.toNat.toUInt16)) = vs) (hz : ¬ z < 0) (hl : z.toNatClampNeg = vs.length) (hd : decode bytes pc = .ok (.ldc index, 2)) (hp : pc + 2 = pc') (hn : 4 * text.toList.length ≤ n) (hbig : n ≤ 536870912) (hc : cells + 2 ≤ R.cells) (hl' : slots + (n + 4) ≤ R.slots)
    (K : ∀ (a b : Addr) (T' : State) (h' : Heap) (k1 : Nat) (kb : ClassId), Stand p l e R (s.setVm T'.vm) m args below meth c T' locs (cells + 2) (slots + (n + 4)) → Bdy p (s.setVm T'.vm) m meth c Z a0 own nm bytes maxL rt tabs → T'.heap = h' → Ext h h' → s.Since T'.vm k1 → k1 ≤ h'.size → Z.Warmed39 T'.vm →
      Exa Z h' a "java/lang/String" → Fld Z h' a "java/lang/String" "coder" "B" (.int 0) → Fld Z h' a "java/lang/String" "value" "[B" (.ref b) → Arv Z h' b kb .byte z vs (.int 0) → CHr Z EL s.vm h T'.vm h' → (∀ x, Safe Z EL T'.vm h' x → x ≠ a ∧ x ≠ b) → GoX p e below FX Q (T'.setTop (mkF m pc' Ls (.ref a :: St)))) : GoX p e below FX Q (T.setTop (mkF m pc Ls St)) := by
  subst hp
  obtain ⟨a, T', h', k1, b, kb, X', e', E, hS, hk, hW, hf, q1, q2, q3, q4, -, -, hC, -, hne, st⟩ := ldcCH (s := s) (vm0 := s.vm) X B.x B.z B.o w wS eT (k0 := h.size) (State.WarmedH.since (State.WarmedH.refl s) _) (Nat.le_refl _) hEL hmem H ht hz hl (g := mkF m pc Ls St) rfl (B.d hd) hn hbig hc hl'
  exact Go.step st (K a b T' h' k1 kb X' ⟨B.1, hW, B.2.2.1, B.2.2.2.1, B.ml, hf, B.r, B.lk, B.n⟩ e' E hS hk hW q1 q2 q3 q4 hC hne)
abbrev MetW (l : Launch) (Z : State) (EL : List (String × Nat)) (y : MethodName) (yb : ByteArray) (ym : Nat) (yr : Option FieldType) (ws : List Jvm.Cond) (rm : Room) (as : Array Value) (h : Heap) (Qc : Option Value → Heap → List Loc → Prop) : Prop :=
  MetFree l y (head1 (Jvm.Cond.code y yb ym yr :: ws) rm) (fun a U => a = as ∧ Z.Warmed39 U.vm ∧ U.heap = h ∧ CHv Z EL U.vm h) (fun _ _ _ _ _ => True) (fun _ U o U' => ∃ v L, o = .returned v ∧ Qc v U'.heap L ∧ CHr Z EL U.vm U.heap U'.vm U'.heap ∧ ReturnedEndW U o U' L rm.cells rm.slots)
theorem metW_of {y : MethodName} {rm : Room} {as : Array Value} {ws : List Jvm.Cond} (hpl : plainFor y = true) (hw : ∀ d ∈ tabs, d.before a0 Z = true)
    (body : ∀ (p : Program) (e : Env) (s : State) (m : MethodId) (below : List Frame) (meth : Method) (c : Code) (T : State), Stand p l e rm s m as below meth c T [] 0 0 → Bdy p s m meth c Z a0 y.cls y.name bytes maxL rt tabs → T.heap = h → s.heap = h → CHv Z EL s.vm h → GoW p e below Z EL s rm.cells rm.slots Q (T.setTop (entryFrame m as maxL))) :
    MetW l Z EL y bytes maxL rt ws rm as h Q := by
  refine MetFree.of_bodySF hpl hisR ?_
  intro p e s m args below meth c s₁ Bd hml0 hP hK
  obtain ⟨rfl, hZ, hh, hC⟩ := hP
  exact body p e s m below meth c s₁ (Stand.of_body Bd) ⟨Bd.exec, hZ, hw, Bd.bytes, hml0, findClass_of_methodNamed Bd.named, Bd.returns, BodyLoose.notSynchronized Bd, (name_of_methodNamed Bd.named Bd.method).1⟩ (by rw [← hh, Bd.state]; rfl) hh hC
theorem g_virtualW (X : Stand p l e R s m args below meth c T locs cells slots) (B : Bdy p s m meth c Z a0 own nm bytes maxL rt tabs) {y : MethodName} {C : String} {i : Nat} {yb : ByteArray} {ym : Nat} {yr : Option FieldType} {rm : Room} {a : Addr} {argsL rest : List Value} {Qc : Option Value → Heap → List Loc → Prop} (eT : T.heap = h) (W : Nat) (E : Exa Z h a C) (H : CHv Z EL s.vm h) (hEL : EW Z a0 EL)
    (w1 : (Jvm.Cond.methodLink own i y).before a0 Z = true) (wd : (Jvm.Cond.declares y).before a0 Z = true) (wsel : (Jvm.Cond.selects C y y).before a0 Z = true) (w2 : (Jvm.Cond.instanceMethod y).before a0 Z = true) (w3 : (Jvm.Cond.initialized y.cls).before a0 Z = true) (w4 : (Jvm.Cond.code y yb ym yr).before a0 Z = true) (hy : y.cls ≠ "java/lang/invoke/MethodHandle" ∧ y.cls ≠ "java/lang/invoke/VarHandle")
    (M : MetW l Z EL y yb ym yr [] rm (.ref a :: argsL).toArray h Qc) (hf : rm.frames + 1 ≤ R.frames) (hl : W + (ym + 11) + rm.locals ≤ R.locals) (hc : cells + rm.cells ≤ R.cells) (hs : slots + rm.slots ≤ R.slots)
    (hsz : Ls.size = maxL) (hlen : ∀ sig, parseMethodDescriptor y.desc = some sig → argsL.length = sig.parameters.length) (hst : St = argsL.reverse ++ .ref a :: rest) (hW : (rest.map fun v => v.category).sum ≤ W) (hd : decode bytes pc = .ok (.invokevirtual i, 3)) (hp : pc + 3 = pc')
    (K : ∀ (T' : State) (v : Option Value) (L : List Loc), Stand p l e R (s.setVm T'.vm) m args below meth c T' (locs ++ L) (cells + rm.cells) (slots + rm.slots) → Bdy p (s.setVm T'.vm) m meth c Z a0 own nm bytes maxL rt tabs → s.Since T'.vm T'.heap.size → Z.Warmed39 T'.vm → CHr Z EL s.vm h T'.vm T'.heap → Qc v T'.heap L → GoX p e below FX Q (T'.setTop (mkF m pc' Ls (v.toList ++ rest)))) : GoX p e below FX Q (T.setTop (mkF m pc Ls St)) := by
  subst hp
  obtain ⟨cq, kq, q1, q2, q3⟩ := isOf B.z eT E
  obtain ⟨v, _, ⟨T', L', k', n'⟩, -, X', hS, -, ⟨Lc, hQ, l', y', z', hC⟩, st⟩ := X.virtualBackS B.x (y := y) (z := y) B.o (mvT B.z w1) (mvT B.z wd) (notFace_of_selects (args := #[]) (mvT B.z wsel)) (mvT B.z wsel) (mvT B.z w2) hy (backOfSH (s := s) (vm0 := s.vm) (W := W) M B.z w4 w3 hf hl hEL H) q1 q3 (g := mkF m pc Ls St) rfl (by rw [B.ml]; exact hsz) (Steps.refl _) (argsL := argsL) (rest := rest) hlen hst (by show 2 * 0 + _ ≤ _; omega) (B.d hd) (fun _ _ => ⟨rfl, eT, hc, hs⟩)
  dsimp only [Pt.U, Pt.locs, Pt.cells, Pt.slots] at X' l' y' z' st hQ hS hC
  subst l' y' z'
  have hW39 : Z.Warmed39 T'.vm := State.Warmed39.trans (t := s) B.z hS.1
  exact Go.step (fun t q => st.trans q) (K T' v Lc X' ⟨B.1, hW39, B.2.2.1, B.2.2.2.1, B.ml, (hS.1.alike.findClass _ _).trans B.o, B.r, B.lk, B.n⟩ hS hW39 hC hQ)
/-! super.m(..), a private method of an abstract class, a method chosen in a subclass -/
theorem own_self {C : String} {y x : MethodName} (w : (Jvm.Cond.instanceMethod y).before a0 Z = true) (ws : (Jvm.Cond.selects C x x).before a0 Z = true) (e : x.cls = y.cls) (hy : y.cls ≠ "java/lang/invoke/MethodHandle" ∧ y.cls ≠ "java/lang/invoke/VarHandle") : (Jvm.Cond.sameMethod y.cls y.cls y.name y.desc).before a0 Z = true := by
  obtain ⟨mk, methM, hn, -, -, -⟩ := Cond.instanceMethod_spec w
  obtain ⟨c2, r2, m2, q1, q2, q3, q4, kP, hkP, hkPi⟩ := Cond.selects_spec ws
  have hc := findClass_of_methodNamed hn
  have hc2 := findClass_of_methodNamed q3
  rw [e] at hc2
  have e2 : m2.cls = mk.cls := Option.some.inj (hc2.symm.trans hc)
  rw [e2] at hkP
  have hfound : Z.methodFound? y.cls y.name y.desc = some mk := State.methodFound?_of_named hn hy
  have hn' : Z.methodNamed? ⟨y.cls, y.name, y.desc⟩ = some mk := hn
  simp [Cond.before, Cond.holds, Cond.value, hc, hfound, hn', hkP, hkPi]
theorem g_super (X : Stand p l e R s m args below meth c T locs cells slots) (B : Bdy p s m meth c Z a0 own nm bytes maxL rt tabs) {y x : MethodName} {C : String} {i : Nat} {yb : ByteArray} {ym : Nat} {yr : Option FieldType} {rm : Room} {a : Addr} {argsL rest : List Value} {Qc : Option Value → Heap → List Loc → Prop} (eT : T.heap = h) (W : Nat) (E : Exa Z h a C)
    (w1 : (Jvm.Cond.methodLink own i y).before a0 Z = true) (wx : (Jvm.Cond.selects C x x).before a0 Z = true) (ex : x.cls = y.cls) (w2 : (Jvm.Cond.instanceMethod y).before a0 Z = true) (wp : (Jvm.Cond.superclass own y.cls).before a0 Z = true) (hn : y.name ≠ "<init>") (w3 : (Jvm.Cond.initialized y.cls).before a0 Z = true) (w4 : (Jvm.Cond.code y yb ym yr).before a0 Z = true) (hy : y.cls ≠ "java/lang/invoke/MethodHandle" ∧ y.cls ≠ "java/lang/invoke/VarHandle")
    (M : Met l Z y yb ym yr [] rm (.ref a :: argsL).toArray h Qc) (hf : rm.frames + 1 ≤ R.frames) (hl : W + (ym + 11) + rm.locals ≤ R.locals) (hc : cells + rm.cells ≤ R.cells) (hs : slots + rm.slots ≤ R.slots)
    (hsz : Ls.size = maxL) (hlen : ∀ sig, parseMethodDescriptor y.desc = some sig → argsL.length = sig.parameters.length) (hst : St = argsL.reverse ++ .ref a :: rest) (hW : (rest.map fun v => v.category).sum ≤ W) (hd : decode bytes pc = .ok (.invokespecial i, 3)) (hp : pc + 3 = pc')
    (K : ∀ (T' : State) (v : Option Value) (L : List Loc), Stand p l e R s m args below meth c T' (locs ++ L) (cells + rm.cells) (slots + rm.slots) → Qc v T'.heap L → GoX p e below FX Q (T'.setTop (mkF m pc' Ls (v.toList ++ rest)))) : GoX p e below FX Q (T.setTop (mkF m pc Ls St)) := by
  subst hp
  obtain ⟨v, _, ⟨T', L', k', n'⟩, -, X', ⟨Lc, hQ, l', y', z'⟩, st⟩ := superBack X B.x B.z B.o w1 (own_self w2 wx ex hy) w2 wp hn (backOf (W := W) M B.z w4 w3 hf hl) eT (Ins.self E) (g := mkF m pc Ls St) rfl (by rw [B.ml]; exact hsz) w4 (argsL := argsL) (rest := rest) hlen hst (by show 2 * 0 + _ ≤ _; omega) (B.d hd) (fun _ _ => ⟨rfl, eT, hc, hs⟩)
  dsimp only [Pt.U, Pt.locs, Pt.cells, Pt.slots] at X' l' y' z' st hQ
  subst l' y' z'
  exact Go.step (fun t q => st.trans q) (K T' v Lc X' hQ)
theorem g_privateS (X : Stand p l e R s m args below meth c T locs cells slots) (B : Bdy p s m meth c Z a0 own nm bytes maxL rt tabs) {y : MethodName} {C : String} {i : Nat} {yb : ByteArray} {ym : Nat} {yr : Option FieldType} {rm : Room} {a : Addr} {argsL rest : List Value} {Qc : Option Value → Heap → List Loc → Prop} (eT : T.heap = h) (W : Nat) (E : Exa Z h a C)
    (w1 : (Jvm.Cond.methodLink own i y).before a0 Z = true) (wx : (Jvm.Cond.selects C y y).before a0 Z = true) (wp : (Jvm.Cond.privateMethod y).before a0 Z = true) (w2 : (Jvm.Cond.instanceMethod y).before a0 Z = true) (w3 : (Jvm.Cond.initialized y.cls).before a0 Z = true) (w4 : (Jvm.Cond.code y yb ym yr).before a0 Z = true) (hy : y.cls ≠ "java/lang/invoke/MethodHandle" ∧ y.cls ≠ "java/lang/invoke/VarHandle")
    (M : Met l Z y yb ym yr [] rm (.ref a :: argsL).toArray h Qc) (hf : rm.frames + 1 ≤ R.frames) (hl : W + (ym + 11) + rm.locals ≤ R.locals) (hc : cells + rm.cells ≤ R.cells) (hs : slots + rm.slots ≤ R.slots)
    (hsz : Ls.size = maxL) (hlen : ∀ sig, parseMethodDescriptor y.desc = some sig → argsL.length = sig.parameters.length) (hst : St = argsL.reverse ++ .ref a :: rest) (hW : (rest.map fun v => v.category).sum ≤ W) (hd : decode bytes pc = .ok (.invokevirtual i, 3)) (hp : pc + 3 = pc')
    (K : ∀ (T' : State) (v : Option Value) (L : List Loc), Stand p l e R s m args below meth c T' (locs ++ L) (cells + rm.cells) (slots + rm.slots) → Qc v T'.heap L → GoX p e below FX Q (T'.setTop (mkF m pc' Ls (v.toList ++ rest)))) : GoX p e below FX Q (T.setTop (mkF m pc Ls St)) := by
  subst hp
  obtain ⟨cq, q1, q2⟩ := E.cell
  have w2' : (Jvm.Cond.instanceMethod y).before args s = true := mvT B.z w2
  have hpv := Cond.privateMethod_at (mvP B.z wp (args := #[]))
  obtain ⟨c2, r2, m2, i1, i2, i3, i4, kP, i5, i6⟩ := Cond.selects_spec (mvT (args := args) B.z wx)
  obtain ⟨v, _, ⟨T', L', k', n'⟩, -, X', ⟨Lc, hQ, l', y', z'⟩, st⟩ := X.privateBack B.x (y := y) B.o (mvT B.z w1) w2' (selects_self_of_private (findClass_of_methodNamed i3) i5 i6 hpv w2' hy) hpv (mvT B.z w4) hy (backOf (W := W) M B.z w4 w3 hf hl) (g := mkF m pc Ls St) rfl (by rw [B.ml]; exact hsz) (Steps.refl _) (a := a) (by rw [eT]; exact q1) q2 (argsL := argsL) (rest := rest) hlen hst (by show 2 * 0 + _ ≤ _; omega) (B.d hd) (fun _ _ => ⟨rfl, eT, hc, hs⟩)
  dsimp only [Pt.U, Pt.locs, Pt.cells, Pt.slots] at X' l' y' z' st hQ
  subst l' y' z'
  exact Go.step (fun t q => st.trans q) (K T' v Lc X' hQ)
theorem g_virtualZ (X : Stand p l e R s m args below meth c T locs cells slots) (B : Bdy p s m meth c Z a0 own nm bytes maxL rt tabs) {y z x : MethodName} {C : String} {i : Nat} {yb : ByteArray} {ym : Nat} {yr : Option FieldType} {rm : Room} {a : Addr} {argsL rest : List Value} {Qc : Option Value → Heap → List Loc → Prop} (eT : T.heap = h) (W : Nat) (E : Exa Z h a C)
    (w1 : (Jvm.Cond.methodLink own i y).before a0 Z = true) (wd : (Jvm.Cond.declares y).before a0 Z = true) (wx : (Jvm.Cond.selects C x x).before a0 Z = true) (ex : x.cls = y.cls) (wsel : (Jvm.Cond.selects C y z).before a0 Z = true) (w2 : (Jvm.Cond.instanceMethod z).before a0 Z = true) (w3 : (Jvm.Cond.initialized z.cls).before a0 Z = true) (w4 : (Jvm.Cond.code z yb ym yr).before a0 Z = true) (hy : y.cls ≠ "java/lang/invoke/MethodHandle" ∧ y.cls ≠ "java/lang/invoke/VarHandle")
    (M : Met l Z z yb ym yr [] rm (.ref a :: argsL).toArray h Qc) (hf : rm.frames + 1 ≤ R.frames) (hl : W + (ym + 11) + rm.locals ≤ R.locals) (hc : cells + rm.cells ≤ R.cells) (hs : slots + rm.slots ≤ R.slots)
    (hsz : Ls.size = maxL) (hlen : ∀ sig, parseMethodDescriptor y.desc = some sig → argsL.length = sig.parameters.length) (hst : St = argsL.reverse ++ .ref a :: rest) (hW : (rest.map fun v => v.category).sum ≤ W) (hd : decode bytes pc = .ok (.invokevirtual i, 3)) (hp : pc + 3 = pc')
    (K : ∀ (T' : State) (v : Option Value) (L : List Loc), Stand p l e R s m args below meth c T' (locs ++ L) (cells + rm.cells) (slots + rm.slots) → Qc v T'.heap L → GoX p e below FX Q (T'.setTop (mkF m pc' Ls (v.toList ++ rest)))) : GoX p e below FX Q (T.setTop (mkF m pc Ls St)) := by
  subst hp
  obtain ⟨cq, kq, q1, q2, q3⟩ := isOf B.z eT E
  have hnf : NotFace s y := fun r0 h0 => by
    obtain ⟨c2, r2, m2, i1, i2, i3, i4, kP, i5, i6⟩ := Cond.selects_spec (mvT (args := args) B.z wx)
    have e1 := findClass_of_methodNamed h0
    have e2 := findClass_of_methodNamed i3
    rw [ex] at e2
    have e3 : m2.cls = r0.cls := Option.some.inj (e2.symm.trans e1)
    exact ⟨kP, by rw [← e3]; exact i5, i6⟩
  obtain ⟨v, _, ⟨T', L', k', n'⟩, -, X', ⟨Lc, hQ, l', y', z'⟩, st⟩ := X.virtualBack B.x (y := y) (z := z) B.o (mvT B.z w1) (mvT B.z wd) hnf (mvT B.z wsel) (mvT B.z w2) hy (backOf (W := W) M B.z w4 w3 hf hl) q1 q3 (g := mkF m pc Ls St) rfl (by rw [B.ml]; exact hsz) (Steps.refl _) (argsL := argsL) (rest := rest) hlen hst (by show 2 * 0 + _ ≤ _; omega) (B.d hd) (fun _ _ => ⟨rfl, eT, hc, hs⟩)
  dsimp only [Pt.U, Pt.locs, Pt.cells, Pt.slots] at X' l' y' z' st hQ
  subst l' y' z'
  exact Go.step (fun t q => st.trans q) (K T' v Lc X' hQ)
end LitKit

theorem own_blit {w w' : Nat → Value} {n n' ks kd kn : Nat} (d d' : Value) (h4 : ks + kn ≤ n) (h5 : kd + kn ≤ n') {j : Nat} (hj : j < n') : (((List.range n').map w').take kd ++ ((List.range kn).map fun i => ((List.range n).map w).getD (ks + i) d) ++ ((List.range n').map w').drop (kd + kn)).getD j d' = if kd ≤ j ∧ j < kd + kn then w (ks + (j - kd)) else w' j := by
  have e1 : (((List.range n').map w').take kd).length = kd := by simp; omega
  have e2 : (((List.range n').map w').take kd ++ ((List.range kn).map fun i => ((List.range n).map w).getD (ks + i) d)).length = kd + kn := by rw [List.length_append, e1]; simp
  rw [List.getD_eq_getElem?_getD]
  rcases Nat.lt_or_ge j kd with q | q
  · rw [List.getElem?_append_left (by rw [e2]; omega), List.getElem?_append_left (by rw [e1]; exact q), List.getElem?_take_of_lt q, List.getElem?_map, List.getElem?_range (by omega), if_neg (by omega)]; rfl
  · rcases Nat.lt_or_ge j (kd + kn) with q2 | q2
    · rw [List.getElem?_append_left (by rw [e2]; exact q2), List.getElem?_append_right (by rw [e1]; exact q), e1, List.getElem?_map, List.getElem?_range (by omega), if_pos ⟨q, q2⟩]
      show ((List.range n).map w).getD (ks + (j - kd)) d = _
      rw [List.getD_eq_getElem?_getD, List.getElem?_map, List.getElem?_range (by omega)]; rfl
    · rw [List.getElem?_append_right (by rw [e2]; exact q2), e2, List.getElem?_drop, show kd + kn + (j - (kd + kn)) = j by omega, List.getElem?_map, List.getElem?_range hj, if_neg (by omega)]; rfl
section CopyKit
variable {p : Program} {l : Launch} {e : Env} {R : Room} {s : State} {m : MethodId} {args : Array Value} {below : List Frame} {meth : Method} {c : Code} {T : State} {locs : List Loc} {cells slots : Nat} {Z : State} {a0 : Array Value} {h h' : Heap} {nc ns : Nat} {Q Q' : Option Value → Heap → List Loc → Prop} {pc pc' : Nat} {Ls Ls' : Array Slot} {St : List Value} {own nm : String} {bytes : ByteArray} {maxL : Nat} {rt : Option FieldType} {tabs : List Jvm.Cond} {FX : Outcome → State → List Loc → Prop}
theorem g_copyV (X : Stand p l e R s m args below meth c T locs cells slots) (B : Bdy p s m meth c Z a0 own nm bytes maxL rt tabs) {i : Nat} {a b : Addr} {ty : FieldType} {n n' : Nat} {w w' : Nat → Value} {sp dp nn : Int32} {n0 : Nat} (ks kd kn W : Nat)
    (w1 : (Jvm.Cond.methodLink own i Jvm.Stand.acN).before a0 Z = true) (w2 : (Jvm.Cond.native Jvm.Stand.acN).before a0 Z = true) (w3 : (Jvm.Cond.static Jvm.Stand.acN).before a0 Z = true) (w4 : (Jvm.Cond.initialized "java/lang/System").before a0 Z = true) (eT : T.heap = h)
    (F : Ax Z h a ty n w) (F' : Ax Z h b ty n' w') (hty : refKind ty = false) (hfit : ∀ j, j < n → fits ty (w j) = true) (hfit' : ∀ j, j < n' → fits ty (w' j) = true) (hs : sp.toInt = (ks : Int)) (hdp : dp.toInt = (kd : Int)) (hnn : nn.toInt = (kn : Int)) (h4 : ks + kn ≤ n) (h5 : kd + kn ≤ n') (N : Fr n0 locs) (ge : n0 ≤ b)
    (hsz : Ls.size = maxL) (hd : decode bytes pc = .ok (.invokestatic i, 3)) (hp : pc + 3 = pc') (hf : 1 ≤ R.frames) (hW : (St.map fun v => v.category).sum ≤ W) (hl : W + 18 ≤ R.locals)
    (K : ∀ (T' : State) (h' : Heap) (L : List Loc), Stand p l e R s m args below meth c T' L cells slots → T'.heap = h' → Fr n0 L → Keep h h' [b] → Ax Z h' b ty n' (fun j => if kd ≤ j ∧ j < kd + kn then w (ks + (j - kd)) else w' j) → GoX p e below FX Q (T'.setTop (mkF m pc' Ls St))) : GoX p e below FX Q (T.setTop (mkF m pc Ls (.int nn :: .int dp :: .ref b :: .int sp :: .ref a :: St))) := by
  subst hp
  obtain ⟨k, V⟩ := own_arv (.int 0) F hfit
  obtain ⟨k', V'⟩ := own_arv (.int 0) F' hfit'
  have e0 : (0 : Int32).toInt = 0 := rfl
  have e1 : (Int32.ofNat n).toInt = (n : Int) := Int32.toInt_ofNat_small (by have := F.1; omega)
  have e2 : (Int32.ofNat n').toInt = (n' : Int) := Int32.toInt_ofNat_small (by have := F'.1; omega)
  have f1 : sp.toNatClampNeg = ks := by show sp.toInt.toNat = ks; omega
  have f2 : dp.toNatClampNeg = kd := by show dp.toInt.toNat = kd; omega
  have f3 : nn.toNatClampNeg = kn := by show nn.toInt.toNat = kn; omega
  have f4 : (Int32.ofNat n').toNatClampNeg = n' := by show (Int32.ofNat n').toInt.toNat = n'; omega
  obtain ⟨T', h', L, X', e', NL, Kp, A', st⟩ := cpA X B.x B.z B.o w1 w2 w3 w4 eT V V' (Or.inl ⟨rfl, hty⟩) (by rw [Int32.lt_iff_toInt_lt, e0]; omega) (by rw [Int32.lt_iff_toInt_lt, e0]; omega) (by rw [Int32.lt_iff_toInt_lt, e0]; omega) (by show sp.toInt.toNat + nn.toInt.toNat ≤ (Int32.ofNat n).toInt.toNat; omega) (by show dp.toInt.toNat + nn.toInt.toNat ≤ (Int32.ofNat n').toInt.toNat; omega) rfl (by rw [List.length_map, List.length_range]; show dp.toInt.toNat + nn.toInt.toNat ≤ n'; omega) N ge (g := mkF m pc Ls (.int nn :: .int dp :: .ref b :: .int sp :: .ref a :: St)) rfl (by rw [B.ml]; exact hsz) rfl (B.d hd) hf (W := W) (by show 2 * 0 + _ ≤ _; omega) (by show W + (5 + 2 + 11) ≤ _; exact hl)
  refine Go.step st (K T' h' L X' e' NL Kp ?_)
  obtain ⟨c, A1, -, r2, -, H, -⟩ := A'
  rw [f4] at r2
  rw [f1, f2, f3] at H
  exact ⟨F'.1, c, A1, r2, fun j hj => by rw [H j (by omega), own_blit _ _ h4 h5 hj]⟩
end CopyKit

/-! digits -/
def own_ds (m : Nat) : List Int32 := if m < 10 then [Int32.ofNat (48 + m)] else own_ds (m / 10) ++ [Int32.ofNat (48 + m % 10)]
termination_by m
decreasing_by omega
theorem own_ds0 {m : Nat} (h : m < 10) : own_ds m = [Int32.ofNat (48 + m)] := by rw [own_ds, if_pos h]
theorem own_dsS {m : Nat} (h : 10 ≤ m) : own_ds m = own_ds (m / 10) ++ [Int32.ofNat (48 + m % 10)] := by rw [own_ds, if_neg (by omega)]
theorem own_dl0 {m : Nat} (h : m < 10) : (own_ds m).length = 1 := by rw [own_ds0 h]; rfl
theorem own_dlS {m : Nat} (h : 10 ≤ m) : (own_ds m).length = (own_ds (m / 10)).length + 1 := by rw [own_dsS h, List.length_append]; rfl
theorem own_ds2 {m : Nat} (h : 100 ≤ m) : own_ds m = own_ds (m / 100) ++ [Int32.ofNat (48 + m % 100 / 10), Int32.ofNat (48 + m % 100 % 10)] := by
  rw [own_dsS (by omega), own_dsS (m := m / 10) (by omega), Nat.div_div_eq_div_mul, List.append_assoc, show m / 10 % 10 = m % 100 / 10 by omega, show m % 100 % 10 = m % 10 by omega]; rfl
theorem own_dl1 (m : Nat) : 1 ≤ (own_ds m).length := by
  by_cases h : m < 10
  · rw [own_dl0 h]; exact Nat.le_refl _
  · rw [own_dlS (by omega)]; omega
theorem own_dlB (m k : Nat) (hk : 1 ≤ k) (h : m < 10 ^ k) : (own_ds m).length ≤ k := by
  induction k generalizing m with
  | zero => omega
  | succ n ih =>
    by_cases q : m < 10
    · rw [own_dl0 q]; omega
    · rw [own_dlS (by omega)]
      by_cases hn : n = 0
      · subst hn; simp at h; omega
      · have := ih (m / 10) (by omega) (by rw [Nat.pow_succ] at h; omega)
        omega
theorem own_cv {d : Nat} (h : d < 10) : (Int32.ofNat (48 + d)).toInt = (48 + d : Int) := by rw [Int32.toInt_ofNat_small (by omega)]; omega
theorem own_dr (m : Nat) : ∀ c ∈ own_ds m, 0 ≤ c.toInt ∧ c.toInt < 128 := by
  induction m using Nat.strongRecOn with
  | ind m ih =>
    intro c hc
    by_cases q : m < 10
    · rw [own_ds0 q] at hc
      cases List.mem_singleton.mp hc
      have := own_cv q; omega
    · rw [own_dsS (by omega)] at hc
      rcases List.mem_append.mp hc with hc | hc
      · exact ih (m / 10) (by omega) c hc
      · cases List.mem_singleton.mp hc
        have := own_cv (d := m % 10) (by omega); omega
def own_v (cs : List Int32) : Nat → Value := fun j => .int (cs.getD j 0)
def own_sg (w : Nat → Value) (k : Nat) (ts : List Int32) : Prop := ∀ j, j < ts.length → w (k + j) = .int (ts.getD j 0)
def own_ft (w : Nat → Value) : Prop := ∀ j, fits .byte (w j) = true
theorem own_sg_nil (w : Nat → Value) (k : Nat) : own_sg w k [] := fun j hj => absurd hj (by simp)
theorem own_sg_app {w : Nat → Value} {k : Nat} {a b : List Int32} (h1 : own_sg w k a) (h2 : own_sg w (k + a.length) b) : own_sg w k (a ++ b) := fun j hj => by
  rw [List.length_append] at hj
  by_cases q : j < a.length
  · rw [h1 j q, List.getD_eq_getElem?_getD, List.getD_eq_getElem?_getD, List.getElem?_append_left q]
  · have e := h2 (j - a.length) (by omega)
    rw [show k + a.length + (j - a.length) = k + j by omega] at e
    rw [e, List.getD_eq_getElem?_getD, List.getD_eq_getElem?_getD, List.getElem?_append_right (by omega)]
theorem own_sg_put {w : Nat → Value} {i : Nat} {ts : List Int32} {v : Int32} {x : Value} (h : own_sg w (i + 1) ts) (hx : x = .int v) : own_sg (fun j => if j = i then x else w j) i (v :: ts) := fun j hj => by
  cases j with
  | zero => simp [hx]
  | succ n =>
    have e := h n (by simpa using hj)
    rw [show i + 1 + n = i + (n + 1) by omega] at e
    show (if i + (n + 1) = i then x else w (i + (n + 1))) = _
    rw [if_neg (by omega), e]; rfl
theorem own_sg_off {w : Nat → Value} {i k : Nat} {ts : List Int32} {x : Value} (h : own_sg w k ts) (hi : i < k ∨ k + ts.length ≤ i) : own_sg (fun j => if j = i then x else w j) k ts := fun j hj => by
  show (if k + j = i then x else w (k + j)) = _
  rw [if_neg (by omega)]; exact h j hj
theorem own_sg_eq {w w' : Nat → Value} {k : Nat} {ts : List Int32} (h : own_sg w k ts) (q : ∀ j, k ≤ j → j < k + ts.length → w' j = w j) : own_sg w' k ts := fun j hj => by rw [q _ (by omega) (by omega)]; exact h j hj
theorem own_ft_put {w : Nat → Value} {i : Nat} {x : Value} (h : own_ft w) (hx : fits .byte x = true) : own_ft (fun j => if j = i then x else w j) := fun j => by
  show fits .byte (if j = i then x else w j) = true
  split
  · exact hx
  · exact h j
theorem own_nb {d : Nat} (h : d < 10) : nar .byte (Int32.ofNat (48 + d)) = Int32.ofNat (48 + d) := by
  have : ∀ d : Fin 10, nar .byte (Int32.ofNat (48 + d.val)) = Int32.ofNat (48 + d.val) := by decide
  exact this ⟨d, h⟩
theorem own_fb (x : Int32) : fits .byte (.int (nar .byte x)) = true := fits_nar_byte x
def own_I (M0 k : Nat) (w0 w : Nat → Value) (M K : Nat) (ts : List Int32) : Prop := K = k + (own_ds M).length ∧ K ≤ 16 ∧ own_sg w K ts ∧ own_ft w ∧ own_ds M0 = own_ds M ++ ts ∧ ∀ j, j < k → w j = w0 j
def own_R (M0 k : Nat) (w0 w : Nat → Value) : Prop := own_sg w k (own_ds M0) ∧ own_ft w ∧ ∀ j, j < k → w j = w0 j
theorem own_I2 {M0 k M K : Nat} {w0 w : Nat → Value} {ts : List Int32} (I : own_I M0 k w0 w M K ts) (h : 100 ≤ M) :
    own_I M0 k w0 (fun j => if j = K - 1 - 1 then .int (nar .byte (Int32.ofNat (48 + M % 100 / 10))) else if j = K - 1 then .int (nar .byte (Int32.ofNat (48 + M % 100 % 10))) else w j) (M / 100) (K - 1 - 1) (Int32.ofNat (48 + M % 100 / 10) :: Int32.ofNat (48 + M % 100 % 10) :: ts) := by
  obtain ⟨h1, h2, h3, h4, h5, h6⟩ := I
  have e := own_ds2 h
  have el : (own_ds M).length = (own_ds (M / 100)).length + 2 := by rw [e, List.length_append]; rfl
  have l1 := own_dl1 (M / 100)
  refine ⟨by omega, by omega, own_sg_put ?_ (by rw [own_nb (by omega)]), own_ft_put (own_ft_put h4 (own_fb _)) (own_fb _), by rw [h5, e, List.append_assoc]; rfl, fun j hj => ?_⟩
  · rw [show K - 1 - 1 + 1 = K - 1 by omega]
    exact own_sg_put (by rw [show K - 1 + 1 = K by omega]; exact h3) (by rw [own_nb (by omega)])
  · show (if j = K - 1 - 1 then _ else if j = K - 1 then _ else w j) = _
    rw [if_neg (by omega), if_neg (by omega)]; exact h6 j hj
theorem own_I1 {M0 k M K : Nat} {w0 w : Nat → Value} {ts : List Int32} (I : own_I M0 k w0 w M K ts) (h : M < 10) : own_R M0 k w0 (fun j => if j = K - 1 then .int (nar .byte (Int32.ofNat (48 + M % 10))) else w j) := by
  obtain ⟨h1, h2, h3, h4, h5, h6⟩ := I
  have e := own_ds0 h
  rw [e] at h1 h5
  have h1' : K = k + 1 := h1
  have e2 : M % 10 = M := by omega
  refine ⟨?_, own_ft_put h4 (own_fb _), fun j hj => ?_⟩
  · rw [h5, show K - 1 = k by omega, e2]
    exact own_sg_put (by rw [← h1']; exact h3) (by rw [own_nb h])
  · show (if j = K - 1 then _ else w j) = _
    rw [if_neg (by omega)]; exact h6 j hj
theorem own_I0 {M0 k M K : Nat} {w0 w : Nat → Value} {ts : List Int32} (I : own_I M0 k w0 w M K ts) (h : 10 ≤ M) (h' : M < 100) : own_R M0 k w0 (fun j => if j = K - 1 - 1 then .int (nar .byte (Int32.ofNat (48 + M / 10))) else if j = K - 1 then .int (nar .byte (Int32.ofNat (48 + M % 10))) else w j) := by
  obtain ⟨h1, h2, h3, h4, h5, h6⟩ := I
  have e : own_ds M = [Int32.ofNat (48 + M / 10), Int32.ofNat (48 + M % 10)] := by rw [own_dsS h, own_ds0 (by omega)]; rfl
  rw [e] at h1 h5
  have h1' : K = k + 2 := h1
  refine ⟨?_, own_ft_put (own_ft_put h4 (own_fb _)) (own_fb _), fun j hj => ?_⟩
  · rw [h5, show K - 1 - 1 = k by omega]
    refine own_sg_put ?_ (by rw [own_nb (by omega)])
    rw [show K - 1 = k + 1 by omega]
    exact own_sg_put (by rw [show k + 1 + 1 = K by omega]; exact h3) (by rw [own_nb (by omega)])
  · show (if j = K - 1 - 1 then _ else if j = K - 1 then _ else w j) = _
    rw [if_neg (by omega), if_neg (by omega)]; exact h6 j hj
theorem own_Kp {M0 k M K : Nat} {w0 w : Nat → Value} {ts : List Int32} (I : own_I M0 k w0 w M K ts) : 1 ≤ K ∧ K ≤ 16 ∧ (10 ≤ M → 2 ≤ K) := by
  obtain ⟨h1, h2, -⟩ := I
  have := own_dl1 M
  refine ⟨by omega, h2, fun h => ?_⟩
  have := own_dl1 (M / 10)
  rw [own_dlS h] at h1; omega
theorem own_dec {x : Int32} {K : Nat} (h : x.toInt = (K : Int)) (h1 : 1 ≤ K) : (x + (-1 : Int32)).toInt = ((K - 1 : Nat) : Int) := by
  have e := c_iadd x (-1)
  have e1 : (-1 : Int32).toInt = -1 := rfl
  have r1 := (x + (-1 : Int32)).toInt_lt; have r2 := (x + (-1 : Int32)).le_toInt
  have r3 := x.toInt_lt
  omega
theorem own_ind {x : Int32} {M : Nat} (h : x.toInt = -(M : Int)) (hM : M < 2147483648) : (-x).toInt = (M : Int) := by
  have e := c_ineg x
  have r1 := (-x).toInt_lt; have r2 := (-x).le_toInt
  omega
theorem own_lnd {x : Int64} {M : Nat} (h : x.toInt = (M : Int)) : (-x).toInt = -(M : Int) := by
  have e := c_lneg x
  have r1 := (-x).toInt_lt; have r2 := (-x).le_toInt
  have r3 := x.toInt_lt
  omega
theorem own_q100 {x : Int32} {M : Nat} (h : x.toInt = -(M : Int)) : (x / (100 : Int32)).toInt = -((M / 100 : Nat) : Int) := by
  have e := c_idiv x 100 100 rfl (by decide)
  by_cases q : M = 0
  · have := e.1 (by omega); omega
  · have := e.2 (by omega); omega
theorem own_r100 {x : Int32} {M : Nat} (h : x.toInt = -(M : Int)) (hM : M < 2147483648) : (x / (100 : Int32) * (100 : Int32) - x).toInt = ((M % 100 : Nat) : Int) := by
  have e := own_q100 h
  have e1 := c_imul (x / 100) 100
  have e2 := c_isub (x / 100 * 100) x
  have e3 : (100 : Int32).toInt = 100 := rfl
  rw [e3] at e1
  have r1 := (x / (100 : Int32) * (100 : Int32) - x).toInt_lt; have r2 := (x / (100 : Int32) * (100 : Int32) - x).le_toInt
  have r3 := (x / (100 : Int32) * (100 : Int32)).toInt_lt; have r4 := (x / (100 : Int32) * (100 : Int32)).le_toInt
  omega
theorem own_q100L {x : Int64} {M : Nat} (h : x.toInt = -(M : Int)) : (x / (100 : Int64)).toInt = -((M / 100 : Nat) : Int) := by
  have e := c_ldiv x 100 100 rfl (by decide)
  by_cases q : M = 0
  · have := e.1 (by omega); omega
  · have := e.2 (by omega); omega
theorem own_r100L {x : Int64} {M : Nat} (h : x.toInt = -(M : Int)) (hM : M < 10000000000000) : ((x / (100 : Int64) * (100 : Int64) - x).toInt32).toInt = ((M % 100 : Nat) : Int) := by
  have e := own_q100L h
  have e1 := c_lmul (x / 100) 100
  have e2 := c_lsub (x / 100 * 100) x
  have e3 : (100 : Int64).toInt = 100 := rfl
  rw [e3] at e1
  have r1 := (x / (100 : Int64) * (100 : Int64) - x).toInt_lt; have r2 := (x / (100 : Int64) * (100 : Int64) - x).le_toInt
  have r3 := (x / (100 : Int64) * (100 : Int64)).toInt_lt; have r4 := (x / (100 : Int64) * (100 : Int64)).le_toInt
  have e4 := c_l2i (x / (100 : Int64) * (100 : Int64) - x)
  have r5 := (x / (100 : Int64) * (100 : Int64) - x).toInt32.toInt_lt; have r6 := (x / (100 : Int64) * (100 : Int64) - x).toInt32.le_toInt
  omega
theorem own_n2i {x : Int64} {M : Nat} (h : x.toInt = -(M : Int)) (hM : M < 2147483648) : x.toInt32.toInt = -(M : Int) := by
  have e := c_l2i x
  have r5 := x.toInt32.toInt_lt; have r6 := x.toInt32.le_toInt
  omega
def own_d1 : Nat → Value := fun j => .int (Int32.ofNat (48 + j % 10))
def own_d2 : Nat → Value := fun j => .int (Int32.ofNat (48 + j / 10))

def own_in (x : Int32) : Prop := 0 ≤ x.toInt ∧ x.toInt < 256
theorem own_nn {x : Int32} (r : own_in x) : (x.toBitVec.toNat : Int) = x.toInt := by
  have e : x.toInt = x.toBitVec.toInt := rfl
  obtain ⟨r1, r2⟩ := r
  rw [e] at r1 r2 ⊢
  rw [BitVec.toInt_eq_toNat_cond] at r1 r2 ⊢
  have := x.toBitVec.isLt
  split <;> omega
theorem own_of {x : Int32} (r : x.toBitVec.toNat < 256) : own_in x := by
  have e : x.toInt = x.toBitVec.toInt := rfl
  unfold own_in
  rw [e, BitVec.toInt_eq_toNat_cond, if_pos (by omega)]
  omega
theorem own_xor {x y : Int32} (r : own_in x) (q : own_in y) : own_in (x ^^^ y) := by
  refine own_of ?_
  have e1 := own_nn r; have e2 := own_nn q
  rw [Int32.toBitVec_xor, BitVec.toNat_xor]
  exact Nat.xor_lt_two_pow (n := 8) (by have := r.2; omega) (by have := q.2; omega)
theorem own_c8 {x : Int32} (r : own_in x) : x.toUInt32.toUInt16.toUInt32.toInt32 = x := by
  have e1 := own_nn r
  have hx : x.toUInt32.toNat = x.toBitVec.toNat := rfl
  have hu : (x.toUInt32.toUInt16).toNat = x.toBitVec.toNat := by rw [UInt32.toNat_toUInt16, hx]; have := r.2; omega
  apply Int32.toInt_inj.mp
  show ((x.toUInt32.toUInt16.toUInt32).toBitVec).toInt = _
  have hm : (x.toUInt32.toUInt16.toUInt32).toBitVec.toNat = (x.toUInt32.toUInt16).toNat := by
    show (x.toUInt32.toUInt16.toUInt32).toNat = _
    simp
  have := r.2
  rw [BitVec.toInt_eq_toNat_cond, hm, hu, if_pos (by omega)]
  exact e1
theorem own_ci {x : Int32} (r : own_in x) : own_in x.toUInt32.toUInt16.toUInt32.toInt32 := by rw [own_c8 r]; exact r
theorem own_m {x k : Int32} (q : k = 1 ∨ k = 255) : own_in (x &&& k) := by
  rcases q with rfl | rfl
  · have e := c_mask x 1 1 (by decide) (by decide); unfold own_in; omega
  · have e := c_mask x 255 8 (by decide) (by decide); unfold own_in; omega
theorem own_nar {x : Int32} (r : own_in x) : nar .char x = x := own_c8 r
theorem own_fitc {x : Int32} (r : own_in x) : fits .char (.int x) = true := by have := fits_nar_char x; rwa [own_nar r] at this
theorem own_r2 {x : Int32} (r : own_in x) : ¬ x < 0 ∧ ¬ (255 : Int32) < x := by
  have e0 : (0 : Int32).toInt = 0 := rfl
  have e1 : (255 : Int32).toInt = 255 := rfl
  obtain ⟨r1, r2⟩ := r
  constructor <;> rw [Int32.lt_iff_toInt_lt] <;> omega

def own_g3 (x y z : Int64) : Nat → Value := fun j => .long (if j = 0 then x else if j = 1 then y else z)
theorem own_g3_0 (x y z : Int64) : own_g3 x y z 0 = .long x := rfl
theorem own_g3_1 (x y z : Int64) : own_g3 x y z 1 = .long y := rfl
theorem own_g3_2 (x y z : Int64) : own_g3 x y z 2 = .long z := rfl
def own_L (Z : State) (h : Heap) (o fa : Addr) (cn sr : Int32) (n : Nat) (w : Nat → Value) : Prop := Fld Z h o "com/example/measured_grab/measuredgrab/bench/Latencies" "nanos" "[J" (.ref fa) ∧ Fld Z h o "com/example/measured_grab/measuredgrab/bench/Latencies" "count" "I" (.int cn) ∧ Fld Z h o "com/example/measured_grab/measuredgrab/bench/Latencies" "sorted" "Z" (.int sr) ∧ Ax Z h fa .long n w

theorem mi_d0 : decode jdk_29_method_70_code 0 = .ok (.lload_n 0, 1) := by decide +kernel
theorem mi_d1 : decode jdk_29_method_70_code 1 = .ok (.lload_n 2, 1) := by decide +kernel
theorem mi_d2 : decode jdk_29_method_70_code 2 = .ok (.lcmp, 1) := by decide +kernel
theorem mi_d3 : decode jdk_29_method_70_code 3 = .ok (.ifCond .gt 7, 3) := by decide +kernel
theorem mi_d6 : decode jdk_29_method_70_code 6 = .ok (.lload_n 0, 1) := by decide +kernel
theorem mi_d7 : decode jdk_29_method_70_code 7 = .ok (.goto 4, 3) := by decide +kernel
theorem mi_d10 : decode jdk_29_method_70_code 10 = .ok (.lload_n 2, 1) := by decide +kernel
theorem mi_d11 : decode jdk_29_method_70_code 11 = .ok (.lreturn, 1) := by decide +kernel
def mi_f11 (u0 : Int64) : Int64 := u0
theorem mi_b11 {p : Program} {l : Launch} {e : Env} {s : State} {m : MethodId} {args : Array Value} {below : List Frame} {meth : Method} {c : Code} {T : State} {Z : State} {a0 : Array Value} {h : Heap} {locs : List Loc} {cells slots : Nat} (X : Stand p l e (⟨0, 0, 0, 0⟩ : Room) s m args below meth c T locs cells slots) (hc : cells ≤ ((⟨0, 0, 0, 0⟩ : Room)).cells) (hs : slots ≤ ((⟨0, 0, 0, 0⟩ : Room)).slots) (B : Bdy p s m meth c Z a0 "java/lang/Math" "min" jdk_29_method_70_code 4 (some .long) tables_1) (eT : T.heap = h) (j0 : Int64) (j2 : Int64) (u0 : Int64)  :
    Go p e below s cells slots (PQ (some (.long (mi_f11 u0))) h locs) (T.setTop (mkF m 11 #[.val (.long j0), .second, .val (.long j2), .second] [(.long u0)])) := by
  exact g_retL X B rfl mi_d11 (Nat.le_refl _) (Nat.le_refl _) ⟨congrArg (fun z => some (Value.long z)) (Eq.symm (by rw [mi_f11])), eT, rfl⟩
def mi_f0 (j0 : Int64) (j2 : Int64) : Int64 := (if j2 < j0 then (mi_f11 j2) else (mi_f11 j0))
theorem mi_b0 {p : Program} {l : Launch} {e : Env} {s : State} {m : MethodId} {args : Array Value} {below : List Frame} {meth : Method} {c : Code} {T : State} {Z : State} {a0 : Array Value} {h : Heap} {locs : List Loc} {cells slots : Nat} (X : Stand p l e (⟨0, 0, 0, 0⟩ : Room) s m args below meth c T locs cells slots) (hc : cells ≤ ((⟨0, 0, 0, 0⟩ : Room)).cells) (hs : slots ≤ ((⟨0, 0, 0, 0⟩ : Room)).slots) (B : Bdy p s m meth c Z a0 "java/lang/Math" "min" jdk_29_method_70_code 4 (some .long) tables_1) (eT : T.heap = h) (j0 : Int64) (j2 : Int64)  :
    Go p e below s cells slots (PQ (some (.long (mi_f0 j0 j2))) h locs) (T.setTop (mkF m 0 #[.val (.long j0), .second, .val (.long j2), .second] [])) := by
  refine g_lloadN X B mi_d0 (pc' := 1) rfl (v := j0) rfl ?_
  refine g_lloadN X B mi_d1 (pc' := 2) rfl (v := j2) rfl ?_
  refine g_lcmp_gt X B mi_d2 mi_d3 (pcT := 10) (pcF := 6) (by decide) rfl rfl (fun c2_0 => ?_) (fun c2_0 => ?_)
  · refine g_lloadN X B mi_d10 (pc' := 11) rfl (v := j2) rfl ?_
    exact Go.cw (congrArg (fun z => some (Value.long z)) (Eq.symm (by rw [mi_f0, if_pos c2_0]))) (mi_b11 X hc hs B eT j0 j2 j2)
  · refine g_lloadN X B mi_d6 (pc' := 7) rfl (v := j0) rfl ?_
    refine g_goto X B mi_d7 (pc' := 11) (by decide) rfl ?_
    exact Go.cw (congrArg (fun z => some (Value.long z)) (Eq.symm (by rw [mi_f0, if_neg c2_0]))) (mi_b11 X hc hs B eT j0 j2 j0)
theorem own_pn_mi : plainFor (⟨"java/lang/Math", "min", "(JJ)J"⟩ : MethodName) = true := by decide +kernel
theorem own_ef_mi (m : MethodId) (j0 : Int64) (j2 : Int64) : entryFrame m #[(.long j0), (.long j2)] 4 = (mkF m 0 #[.val (.long j0), .second, .val (.long j2), .second] []) := by first | (simp [entryFrame, mkF, argsToLocals, Value.category]; done) | rfl
theorem mi_met (l : Launch) (Z : State) (a0 : Array Value) (hw : ∀ d ∈ tables_1, d.before a0 Z = true) (ws : List Jvm.Cond) (h : Heap) (j0 : Int64) (j2 : Int64)  :
    Met l Z (⟨"java/lang/Math", "min", "(JJ)J"⟩ : MethodName) jdk_29_method_70_code 4 (some .long) ws (⟨0, 0, 0, 0⟩ : Room) #[(.long j0), (.long j2)] h (PQ (some (.long (mi_f0 j0 j2))) h []) :=
  met_of own_pn_mi hw fun p e s m below meth c T X B eT => Go.top (own_ef_mi m j0 j2) (mi_b0 X (Nat.zero_le _) (Nat.zero_le _) B eT j0 j2)
theorem mx_d0 : decode jdk_29_method_66_code 0 = .ok (.lload_n 0, 1) := by decide +kernel
theorem mx_d1 : decode jdk_29_method_66_code 1 = .ok (.lload_n 2, 1) := by decide +kernel
theorem mx_d2 : decode jdk_29_method_66_code 2 = .ok (.lcmp, 1) := by decide +kernel
theorem mx_d3 : decode jdk_29_method_66_code 3 = .ok (.ifCond .lt 7, 3) := by decide +kernel
theorem mx_d6 : decode jdk_29_method_66_code 6 = .ok (.lload_n 0, 1) := by decide +kernel
theorem mx_d7 : decode jdk_29_method_66_code 7 = .ok (.goto 4, 3) := by decide +kernel
theorem mx_d10 : decode jdk_29_method_66_code 10 = .ok (.lload_n 2, 1) := by decide +kernel
theorem mx_d11 : decode jdk_29_method_66_code 11 = .ok (.lreturn, 1) := by decide +kernel
def mx_f11 (u0 : Int64) : Int64 := u0
theorem mx_b11 {p : Program} {l : Launch} {e : Env} {s : State} {m : MethodId} {args : Array Value} {below : List Frame} {meth : Method} {c : Code} {T : State} {Z : State} {a0 : Array Value} {h : Heap} {locs : List Loc} {cells slots : Nat} (X : Stand p l e (⟨0, 0, 0, 0⟩ : Room) s m args below meth c T locs cells slots) (hc : cells ≤ ((⟨0, 0, 0, 0⟩ : Room)).cells) (hs : slots ≤ ((⟨0, 0, 0, 0⟩ : Room)).slots) (B : Bdy p s m meth c Z a0 "java/lang/Math" "max" jdk_29_method_66_code 4 (some .long) tables_1) (eT : T.heap = h) (j0 : Int64) (j2 : Int64) (u0 : Int64)  :
    Go p e below s cells slots (PQ (some (.long (mx_f11 u0))) h locs) (T.setTop (mkF m 11 #[.val (.long j0), .second, .val (.long j2), .second] [(.long u0)])) := by
  exact g_retL X B rfl mx_d11 (Nat.le_refl _) (Nat.le_refl _) ⟨congrArg (fun z => some (Value.long z)) (Eq.symm (by rw [mx_f11])), eT, rfl⟩
def mx_f0 (j0 : Int64) (j2 : Int64) : Int64 := (if j0 < j2 then (mx_f11 j2) else (mx_f11 j0))
theorem mx_b0 {p : Program} {l : Launch} {e : Env} {s : State} {m : MethodId} {args : Array Value} {below : List Frame} {meth : Method} {c : Code} {T : State} {Z : State} {a0 : Array Value} {h : Heap} {locs : List Loc} {cells slots : Nat} (X : Stand p l e (⟨0, 0, 0, 0⟩ : Room) s m args below meth c T locs cells slots) (hc : cells ≤ ((⟨0, 0, 0, 0⟩ : Room)).cells) (hs : slots ≤ ((⟨0, 0, 0, 0⟩ : Room)).slots) (B : Bdy p s m meth c Z a0 "java/lang/Math" "max" jdk_29_method_66_code 4 (some .long) tables_1) (eT : T.heap = h) (j0 : Int64) (j2 : Int64)  :
    Go p e below s cells slots (PQ (some (.long (mx_f0 j0 j2))) h locs) (T.setTop (mkF m 0 #[.val (.long j0), .second, .val (.long j2), .second] [])) := by
  refine g_lloadN X B mx_d0 (pc' := 1) rfl (v := j0) rfl ?_
  refine g_lloadN X B mx_d1 (pc' := 2) rfl (v := j2) rfl ?_
  refine g_lcmp_lt X B mx_d2 mx_d3 (pcT := 10) (pcF := 6) (by decide) rfl rfl (fun c2_0 => ?_) (fun c2_0 => ?_)
  · refine g_lloadN X B mx_d10 (pc' := 11) rfl (v := j2) rfl ?_
    exact Go.cw (congrArg (fun z => some (Value.long z)) (Eq.symm (by rw [mx_f0, if_pos c2_0]))) (mx_b11 X hc hs B eT j0 j2 j2)
  · refine g_lloadN X B mx_d6 (pc' := 7) rfl (v := j0) rfl ?_
    refine g_goto X B mx_d7 (pc' := 11) (by decide) rfl ?_
    exact Go.cw (congrArg (fun z => some (Value.long z)) (Eq.symm (by rw [mx_f0, if_neg c2_0]))) (mx_b11 X hc hs B eT j0 j2 j0)
theorem own_pn_mx : plainFor (⟨"java/lang/Math", "max", "(JJ)J"⟩ : MethodName) = true := by decide +kernel
theorem own_ef_mx (m : MethodId) (j0 : Int64) (j2 : Int64) : entryFrame m #[(.long j0), (.long j2)] 4 = (mkF m 0 #[.val (.long j0), .second, .val (.long j2), .second] []) := by first | (simp [entryFrame, mkF, argsToLocals, Value.category]; done) | rfl
theorem mx_met (l : Launch) (Z : State) (a0 : Array Value) (hw : ∀ d ∈ tables_1, d.before a0 Z = true) (ws : List Jvm.Cond) (h : Heap) (j0 : Int64) (j2 : Int64)  :
    Met l Z (⟨"java/lang/Math", "max", "(JJ)J"⟩ : MethodName) jdk_29_method_66_code 4 (some .long) ws (⟨0, 0, 0, 0⟩ : Room) #[(.long j0), (.long j2)] h (PQ (some (.long (mx_f0 j0 j2))) h []) :=
  met_of own_pn_mx hw fun p e s m below meth c T X B eT => Go.top (own_ef_mx m j0 j2) (mx_b0 X (Nat.zero_le _) (Nat.zero_le _) B eT j0 j2)
def own_lo (x y z : Int64) : Int64 := mi_f0 (mi_f0 x y) z
def own_hi (x y z : Int64) : Int64 := mx_f0 (mx_f0 x y) z
def own_md (x y z : Int64) : Int64 := mx_f0 (mi_f0 x y) (mi_f0 (mx_f0 x y) z)
theorem own_mnI (a b : Int64) : ((mi_f0 a b).toInt = a.toInt ∧ a.toInt ≤ b.toInt) ∨ ((mi_f0 a b).toInt = b.toInt ∧ b.toInt < a.toInt) := by
  by_cases q : b < a
  · have e : mi_f0 a b = b := by simp [mi_f0, mi_f11, q]
    rw [e]; rw [Int64.lt_iff_toInt_lt] at q; omega
  · have e : mi_f0 a b = a := by simp [mi_f0, mi_f11, q]
    rw [e]; rw [Int64.lt_iff_toInt_lt] at q; omega
theorem own_mxI (a b : Int64) : ((mx_f0 a b).toInt = a.toInt ∧ b.toInt ≤ a.toInt) ∨ ((mx_f0 a b).toInt = b.toInt ∧ a.toInt < b.toInt) := by
  by_cases q : a < b
  · have e : mx_f0 a b = b := by simp [mx_f0, mx_f11, q]
    rw [e]; rw [Int64.lt_iff_toInt_lt] at q; omega
  · have e : mx_f0 a b = a := by simp [mx_f0, mx_f11, q]
    rw [e]; rw [Int64.lt_iff_toInt_lt] at q; omega
theorem in3_d0 : decode prog_4_method_1_code 0 = .ok (.aload_n 0, 1) := by decide +kernel
theorem in3_d1 : decode prog_4_method_1_code 1 = .ok (.invokespecial 1, 3) := by decide +kernel
theorem in3_d4 : decode prog_4_method_1_code 4 = .ok (.aload_n 0, 1) := by decide +kernel
theorem in3_d5 : decode prog_4_method_1_code 5 = .ok (.iconst 1, 1) := by decide +kernel
theorem in3_d6 : decode prog_4_method_1_code 6 = .ok (.putfield 7, 3) := by decide +kernel
theorem in3_d9 : decode prog_4_method_1_code 9 = .ok (.aload_n 0, 1) := by decide +kernel
theorem in3_d10 : decode prog_4_method_1_code 10 = .ok (.iload_n 1, 1) := by decide +kernel
theorem in3_d11 : decode prog_4_method_1_code 11 = .ok (.newarray .long, 2) := by decide +kernel
theorem in3_d13 : decode prog_4_method_1_code 13 = .ok (.putfield 13, 3) := by decide +kernel
theorem in3_d16 : decode prog_4_method_1_code 16 = .ok (.return_, 1) := by decide +kernel
theorem own_pn_in3 : plainFor (⟨"com/example/measured_grab/measuredgrab/bench/Latencies", "<init>", "(I)V"⟩ : MethodName) = true := plainFor_of_name (by first | (simp [plainName, overriddenIn]; done) | decide +kernel)
theorem own_ef_in3 (m : MethodId) (o0 : Addr) (i1 : Int32) : entryFrame m #[(.ref o0), (.int i1)] 2 = (mkF m 0 #[.val (.ref o0), .val (.int i1)] []) := by first | (simp [entryFrame, mkF, argsToLocals, Value.category]; done) | rfl
set_option maxRecDepth 65536 in
set_option maxHeartbeats 40000000 in
theorem in3_go {p : Program} {l : Launch} {e : Env} {s : State} {m : MethodId} {args : Array Value} {below : List Frame} {meth : Method} {c : Code} {T : State} {Z : State} {a0 : Array Value} {h : Heap} (X : Stand p l e (⟨1, 1, 3, 14⟩ : Room) s m args below meth c T [] 0 0) (B : Bdy p s m meth c Z a0 "com/example/measured_grab/measuredgrab/bench/Latencies" "<init>" prog_4_method_1_code 2 none tables_1) (eT : T.heap = h) (o0 : Addr) (i1 : Int32) (n0 : Nat) (Zs : n0 ≤ h.size) (hE : Exa Z h o0 "com/example/measured_grab/measuredgrab/bench/Latencies") (g0 : n0 ≤ o0) (f_nanos : Fld Z h o0 "com/example/measured_grab/measuredgrab/bench/Latencies" "nanos" "[J" .null) (f_count : Fld Z h o0 "com/example/measured_grab/measuredgrab/bench/Latencies" "count" "I" (.int (0 : Int32))) (f_sorted : Fld Z h o0 "com/example/measured_grab/measuredgrab/bench/Latencies" "sorted" "Z" (.int (0 : Int32))) (hi : i1 = (3 : Int32)) :
    Go p e below s 1 3 (fun v h2 L => ∃ fa, v = none ∧ Fr n0 L ∧ Keep h h2 [o0] ∧ o0 ≠ fa ∧ h.size ≤ fa ∧ own_L Z h2 o0 fa 0 1 3 (own_g3 0 0 0)) (T.setTop (mkF m 0 #[.val (.ref o0), .val (.int i1)] [])) := by
  have N := Fr.nil n0
  have K := Keep.refl h [o0]
  subst hi
  refine g_aloadN X B in3_d0 (pc' := 1) rfl (v := (.ref o0)) rfl rfl ?_
  refine g_initO X B 0 (B.w 9 rfl) (B.w 10 rfl) (B.w 11 rfl) eT rfl in3_d1 (pc' := 4) rfl (by decide) (Nat.le_of_eq rfl) (by decide) (fun T1 X1 e1 => ?_)
  refine g_aloadN X1 B in3_d4 (pc' := 5) rfl (v := (.ref o0)) rfl rfl ?_
  refine g_iconst X1 B in3_d5 (pc' := 6) rfl (v := (1 : Int32)) (by decide) ?_
  refine g_putF X1 B (B.w 12 rfl) Via.refl e1 f_sorted hE (Or.inl (B.w 13 rfl)) (B.w 4 rfl) (ty := .boolean) (by decide) rfl rfl in3_d6 (pc' := 9) rfl (fun T2 h2 X2 e2 W2 => ?_)
  have N2 := Fr.snoc X2 N g0
  have E_o0_2 := hE.wr W2
  have F_o0_nanos_2 := f_nanos.other W2 (Or.inr (slot_ne (Or.inr (B.w 16 rfl)) (Or.inl (B.w 13 rfl)) (by decide) (t := (.array .long)) (t' := .boolean) (by decide) (by decide)))
  have F_o0_count_2 := f_count.other W2 (Or.inr (slot_ne (Or.inl (B.w 23 rfl)) (Or.inl (B.w 13 rfl)) (by decide) (t := .int) (t' := .boolean) (by decide) (by decide)))
  have F_o0_sorted_2 := f_sorted.same W2
  have Zs_2 := Nat.le_trans Zs (Keep.of_wr W2).1
  have K_2 := K.wr W2 (Or.inl (List.mem_of_getElem? (i := 0) rfl))
  refine g_aloadN X2 B in3_d9 (pc' := 10) rfl (v := (.ref o0)) rfl rfl ?_
  refine g_iloadN X2 B in3_d10 (pc' := 11) rfl (v := (3 : Int32)) rfl ?_
  refine g_newA X2 B (aty := .long) 3 3 (B.w 14 rfl) e2 (by decide) (by decide) (by decide) in3_d11 (pc' := 13) rfl (by decide) (by decide) (fun T3 h3 ob3 q3 X3 e3 E3 A3 => ?_)
  have ne_o0_ob3 : o0 ≠ ob3 := fun q => absurd (E_o0_2.lt) (by rw [q, q3]; exact Nat.lt_irrefl _)
  have G_ob3 : n0 ≤ ob3 := by rw [q3]; exact Zs_2
  have H_ob3 : h.size ≤ ob3 := by rw [q3]; exact K_2.1
  have E_o0_3 := E_o0_2.ext E3
  have F_o0_nanos_3 := F_o0_nanos_2.ext E3
  have F_o0_count_3 := F_o0_count_2.ext E3
  have F_o0_sorted_3 := F_o0_sorted_2.ext E3
  have Zs_3 := Nat.le_trans Zs_2 E3.1
  have K_3 := K_2.ext E3
  have A_ob3 : Ax Z h3 ob3 .long 3 (fun _ => (.long (0 : Int64))) := A3
  refine g_putF X3 B (B.w 15 rfl) Via.refl e3 F_o0_nanos_3 E_o0_3 (Or.inr ⟨B.w 16 rfl, rfl, rfl⟩) (B.w 4 rfl) (ty := (.array .long)) (by decide) rfl rfl in3_d13 (pc' := 16) rfl (fun T4 h4 X4 e4 W4 => ?_)
  have N4 := Fr.snoc X4 N2 g0
  have E_o0_4 := E_o0_3.wr W4
  have F_o0_nanos_4 := F_o0_nanos_3.same W4
  have F_o0_count_4 := F_o0_count_3.other W4 (Or.inr (slot_ne (Or.inl (B.w 23 rfl)) (Or.inr (B.w 16 rfl)) (by decide) (t := .int) (t' := (.array .long)) (by decide) (by decide)))
  have F_o0_sorted_4 := F_o0_sorted_3.other W4 (Or.inr (slot_ne (Or.inl (B.w 13 rfl)) (Or.inr (B.w 16 rfl)) (by decide) (t := .boolean) (t' := (.array .long)) (by decide) (by decide)))
  have A_ob3_4 := A_ob3.other W4 (Ne.symm ne_o0_ob3)
  have Zs_4 := Nat.le_trans Zs_3 (Keep.of_wr W4).1
  have K_4 := K_3.wr W4 (Or.inl (List.mem_of_getElem? (i := 0) rfl))
  exact g_ret0 X4 B rfl in3_d16 (by decide) (by decide) (by rw [e4]; exact ⟨ob3, rfl, N4, K_4, ne_o0_ob3, H_ob3, F_o0_nanos_4, F_o0_count_4, F_o0_sorted_4, A_ob3_4.eqw (fun j hj => by have q : j = 0 ∨ j = 1 ∨ j = 2 := (by omega); rcases q with rfl | rfl | rfl <;> first | rfl | simp [own_g3])⟩)
theorem in3_met (l : Launch) (Z : State) (a0 : Array Value) (hw : ∀ d ∈ tables_1, d.before a0 Z = true) (ws : List Jvm.Cond) (h : Heap) (o0 : Addr) (i1 : Int32) (n0 : Nat) (Zs : n0 ≤ h.size) (hE : Exa Z h o0 "com/example/measured_grab/measuredgrab/bench/Latencies") (g0 : n0 ≤ o0) (f_nanos : Fld Z h o0 "com/example/measured_grab/measuredgrab/bench/Latencies" "nanos" "[J" .null) (f_count : Fld Z h o0 "com/example/measured_grab/measuredgrab/bench/Latencies" "count" "I" (.int (0 : Int32))) (f_sorted : Fld Z h o0 "com/example/measured_grab/measuredgrab/bench/Latencies" "sorted" "Z" (.int (0 : Int32))) (hi : i1 = (3 : Int32)) :
    Met l Z (⟨"com/example/measured_grab/measuredgrab/bench/Latencies", "<init>", "(I)V"⟩ : MethodName) prog_4_method_1_code 2 none ws (⟨1, 1, 3, 14⟩ : Room) #[(.ref o0), (.int i1)] h (fun v h2 L => ∃ fa, v = none ∧ Fr n0 L ∧ Keep h h2 [o0] ∧ o0 ≠ fa ∧ h.size ≤ fa ∧ own_L Z h2 o0 fa 0 1 3 (own_g3 0 0 0)) :=
  met_of own_pn_in3 hw fun p e s m below meth c T X B eT => Go.top (own_ef_in3 m o0 i1) (in3_go X B eT o0 i1 n0 Zs hE g0 f_nanos f_count f_sorted hi)
theorem in1_d0 : decode prog_4_method_1_code 0 = .ok (.aload_n 0, 1) := by decide +kernel
theorem in1_d1 : decode prog_4_method_1_code 1 = .ok (.invokespecial 1, 3) := by decide +kernel
theorem in1_d4 : decode prog_4_method_1_code 4 = .ok (.aload_n 0, 1) := by decide +kernel
theorem in1_d5 : decode prog_4_method_1_code 5 = .ok (.iconst 1, 1) := by decide +kernel
theorem in1_d6 : decode prog_4_method_1_code 6 = .ok (.putfield 7, 3) := by decide +kernel
theorem in1_d9 : decode prog_4_method_1_code 9 = .ok (.aload_n 0, 1) := by decide +kernel
theorem in1_d10 : decode prog_4_method_1_code 10 = .ok (.iload_n 1, 1) := by decide +kernel
theorem in1_d11 : decode prog_4_method_1_code 11 = .ok (.newarray .long, 2) := by decide +kernel
theorem in1_d13 : decode prog_4_method_1_code 13 = .ok (.putfield 13, 3) := by decide +kernel
theorem in1_d16 : decode prog_4_method_1_code 16 = .ok (.return_, 1) := by decide +kernel
theorem own_pn_in1 : plainFor (⟨"com/example/measured_grab/measuredgrab/bench/Latencies", "<init>", "(I)V"⟩ : MethodName) = true := plainFor_of_name (by first | (simp [plainName, overriddenIn]; done) | decide +kernel)
theorem own_ef_in1 (m : MethodId) (o0 : Addr) (i1 : Int32) : entryFrame m #[(.ref o0), (.int i1)] 2 = (mkF m 0 #[.val (.ref o0), .val (.int i1)] []) := by first | (simp [entryFrame, mkF, argsToLocals, Value.category]; done) | rfl
set_option maxRecDepth 65536 in
set_option maxHeartbeats 40000000 in
theorem in1_go {p : Program} {l : Launch} {e : Env} {s : State} {m : MethodId} {args : Array Value} {below : List Frame} {meth : Method} {c : Code} {T : State} {Z : State} {a0 : Array Value} {h : Heap} (X : Stand p l e (⟨1, 1, 1, 14⟩ : Room) s m args below meth c T [] 0 0) (B : Bdy p s m meth c Z a0 "com/example/measured_grab/measuredgrab/bench/Latencies" "<init>" prog_4_method_1_code 2 none tables_1) (eT : T.heap = h) (o0 : Addr) (i1 : Int32) (n0 : Nat) (Zs : n0 ≤ h.size) (hE : Exa Z h o0 "com/example/measured_grab/measuredgrab/bench/Latencies") (g0 : n0 ≤ o0) (f_nanos : Fld Z h o0 "com/example/measured_grab/measuredgrab/bench/Latencies" "nanos" "[J" .null) (f_count : Fld Z h o0 "com/example/measured_grab/measuredgrab/bench/Latencies" "count" "I" (.int (0 : Int32))) (f_sorted : Fld Z h o0 "com/example/measured_grab/measuredgrab/bench/Latencies" "sorted" "Z" (.int (0 : Int32))) (hi : i1 = (1 : Int32)) :
    Go p e below s 1 1 (fun v h2 L => ∃ fa, v = none ∧ Fr n0 L ∧ Keep h h2 [o0] ∧ o0 ≠ fa ∧ h.size ≤ fa ∧ own_L Z h2 o0 fa 0 1 1 (own_g3 0 0 0)) (T.setTop (mkF m 0 #[.val (.ref o0), .val (.int i1)] [])) := by
  have N := Fr.nil n0
  have K := Keep.refl h [o0]
  subst hi
  refine g_aloadN X B in1_d0 (pc' := 1) rfl (v := (.ref o0)) rfl rfl ?_
  refine g_initO X B 0 (B.w 9 rfl) (B.w 10 rfl) (B.w 11 rfl) eT rfl in1_d1 (pc' := 4) rfl (by decide) (Nat.le_of_eq rfl) (by decide) (fun T1 X1 e1 => ?_)
  refine g_aloadN X1 B in1_d4 (pc' := 5) rfl (v := (.ref o0)) rfl rfl ?_
  refine g_iconst X1 B in1_d5 (pc' := 6) rfl (v := (1 : Int32)) (by decide) ?_
  refine g_putF X1 B (B.w 12 rfl) Via.refl e1 f_sorted hE (Or.inl (B.w 13 rfl)) (B.w 4 rfl) (ty := .boolean) (by decide) rfl rfl in1_d6 (pc' := 9) rfl (fun T2 h2 X2 e2 W2 => ?_)
  have N2 := Fr.snoc X2 N g0
  have E_o0_2 := hE.wr W2
  have F_o0_nanos_2 := f_nanos.other W2 (Or.inr (slot_ne (Or.inr (B.w 16 rfl)) (Or.inl (B.w 13 rfl)) (by decide) (t := (.array .long)) (t' := .boolean) (by decide) (by decide)))
  have F_o0_count_2 := f_count.other W2 (Or.inr (slot_ne (Or.inl (B.w 23 rfl)) (Or.inl (B.w 13 rfl)) (by decide) (t := .int) (t' := .boolean) (by decide) (by decide)))
  have F_o0_sorted_2 := f_sorted.same W2
  have Zs_2 := Nat.le_trans Zs (Keep.of_wr W2).1
  have K_2 := K.wr W2 (Or.inl (List.mem_of_getElem? (i := 0) rfl))
  refine g_aloadN X2 B in1_d9 (pc' := 10) rfl (v := (.ref o0)) rfl rfl ?_
  refine g_iloadN X2 B in1_d10 (pc' := 11) rfl (v := (1 : Int32)) rfl ?_
  refine g_newA X2 B (aty := .long) 1 1 (B.w 14 rfl) e2 (by decide) (by decide) (by decide) in1_d11 (pc' := 13) rfl (by decide) (by decide) (fun T3 h3 ob3 q3 X3 e3 E3 A3 => ?_)
  have ne_o0_ob3 : o0 ≠ ob3 := fun q => absurd (E_o0_2.lt) (by rw [q, q3]; exact Nat.lt_irrefl _)
  have G_ob3 : n0 ≤ ob3 := by rw [q3]; exact Zs_2
  have H_ob3 : h.size ≤ ob3 := by rw [q3]; exact K_2.1
  have E_o0_3 := E_o0_2.ext E3
  have F_o0_nanos_3 := F_o0_nanos_2.ext E3
  have F_o0_count_3 := F_o0_count_2.ext E3
  have F_o0_sorted_3 := F_o0_sorted_2.ext E3
  have Zs_3 := Nat.le_trans Zs_2 E3.1
  have K_3 := K_2.ext E3
  have A_ob3 : Ax Z h3 ob3 .long 1 (fun _ => (.long (0 : Int64))) := A3
  refine g_putF X3 B (B.w 15 rfl) Via.refl e3 F_o0_nanos_3 E_o0_3 (Or.inr ⟨B.w 16 rfl, rfl, rfl⟩) (B.w 4 rfl) (ty := (.array .long)) (by decide) rfl rfl in1_d13 (pc' := 16) rfl (fun T4 h4 X4 e4 W4 => ?_)
  have N4 := Fr.snoc X4 N2 g0
  have E_o0_4 := E_o0_3.wr W4
  have F_o0_nanos_4 := F_o0_nanos_3.same W4
  have F_o0_count_4 := F_o0_count_3.other W4 (Or.inr (slot_ne (Or.inl (B.w 23 rfl)) (Or.inr (B.w 16 rfl)) (by decide) (t := .int) (t' := (.array .long)) (by decide) (by decide)))
  have F_o0_sorted_4 := F_o0_sorted_3.other W4 (Or.inr (slot_ne (Or.inl (B.w 13 rfl)) (Or.inr (B.w 16 rfl)) (by decide) (t := .boolean) (t' := (.array .long)) (by decide) (by decide)))
  have A_ob3_4 := A_ob3.other W4 (Ne.symm ne_o0_ob3)
  have Zs_4 := Nat.le_trans Zs_3 (Keep.of_wr W4).1
  have K_4 := K_3.wr W4 (Or.inl (List.mem_of_getElem? (i := 0) rfl))
  exact g_ret0 X4 B rfl in1_d16 (by decide) (by decide) (by rw [e4]; exact ⟨ob3, rfl, N4, K_4, ne_o0_ob3, H_ob3, F_o0_nanos_4, F_o0_count_4, F_o0_sorted_4, A_ob3_4.eqw (fun j hj => by have q : j = 0 := (by omega); subst q; first | rfl | simp [own_g3])⟩)
theorem in1_met (l : Launch) (Z : State) (a0 : Array Value) (hw : ∀ d ∈ tables_1, d.before a0 Z = true) (ws : List Jvm.Cond) (h : Heap) (o0 : Addr) (i1 : Int32) (n0 : Nat) (Zs : n0 ≤ h.size) (hE : Exa Z h o0 "com/example/measured_grab/measuredgrab/bench/Latencies") (g0 : n0 ≤ o0) (f_nanos : Fld Z h o0 "com/example/measured_grab/measuredgrab/bench/Latencies" "nanos" "[J" .null) (f_count : Fld Z h o0 "com/example/measured_grab/measuredgrab/bench/Latencies" "count" "I" (.int (0 : Int32))) (f_sorted : Fld Z h o0 "com/example/measured_grab/measuredgrab/bench/Latencies" "sorted" "Z" (.int (0 : Int32))) (hi : i1 = (1 : Int32)) :
    Met l Z (⟨"com/example/measured_grab/measuredgrab/bench/Latencies", "<init>", "(I)V"⟩ : MethodName) prog_4_method_1_code 2 none ws (⟨1, 1, 1, 14⟩ : Room) #[(.ref o0), (.int i1)] h (fun v h2 L => ∃ fa, v = none ∧ Fr n0 L ∧ Keep h h2 [o0] ∧ o0 ≠ fa ∧ h.size ≤ fa ∧ own_L Z h2 o0 fa 0 1 1 (own_g3 0 0 0)) :=
  met_of own_pn_in1 hw fun p e s m below meth c T X B eT => Go.top (own_ef_in1 m o0 i1) (in1_go X B eT o0 i1 n0 Zs hE g0 f_nanos f_count f_sorted hi)
theorem ad30_d0 : decode prog_4_method_2_code 0 = .ok (.aload_n 0, 1) := by decide +kernel
theorem ad30_d1 : decode prog_4_method_2_code 1 = .ok (.getfield 13, 3) := by decide +kernel
theorem ad30_d4 : decode prog_4_method_2_code 4 = .ok (.aload_n 0, 1) := by decide +kernel
theorem ad30_d5 : decode prog_4_method_2_code 5 = .ok (.dup, 1) := by decide +kernel
theorem ad30_d6 : decode prog_4_method_2_code 6 = .ok (.getfield 17, 3) := by decide +kernel
theorem ad30_d9 : decode prog_4_method_2_code 9 = .ok (.dup_x1, 1) := by decide +kernel
theorem ad30_d10 : decode prog_4_method_2_code 10 = .ok (.iconst 1, 1) := by decide +kernel
theorem ad30_d11 : decode prog_4_method_2_code 11 = .ok (.iadd, 1) := by decide +kernel
theorem ad30_d12 : decode prog_4_method_2_code 12 = .ok (.putfield 17, 3) := by decide +kernel
theorem ad30_d15 : decode prog_4_method_2_code 15 = .ok (.lload_n 1, 1) := by decide +kernel
theorem ad30_d16 : decode prog_4_method_2_code 16 = .ok (.lastore, 1) := by decide +kernel
theorem ad30_d17 : decode prog_4_method_2_code 17 = .ok (.aload_n 0, 1) := by decide +kernel
theorem ad30_d18 : decode prog_4_method_2_code 18 = .ok (.iconst 0, 1) := by decide +kernel
theorem ad30_d19 : decode prog_4_method_2_code 19 = .ok (.putfield 7, 3) := by decide +kernel
theorem ad30_d22 : decode prog_4_method_2_code 22 = .ok (.return_, 1) := by decide +kernel
theorem own_pn_ad30 : plainFor (⟨"com/example/measured_grab/measuredgrab/bench/Latencies", "add", "(J)V"⟩ : MethodName) = true := plainFor_of_name (by first | (simp [plainName, overriddenIn]; done) | decide +kernel)
theorem own_ef_ad30 (m : MethodId) (o0 : Addr) (j1 : Int64) : entryFrame m #[(.ref o0), (.long j1)] 3 = (mkF m 0 #[.val (.ref o0), .val (.long j1), .second] []) := by first | (simp [entryFrame, mkF, argsToLocals, Value.category]; done) | rfl
set_option maxRecDepth 65536 in
set_option maxHeartbeats 40000000 in
theorem ad30_go {p : Program} {l : Launch} {e : Env} {s : State} {m : MethodId} {args : Array Value} {below : List Frame} {meth : Method} {c : Code} {T : State} {Z : State} {a0 : Array Value} {h : Heap} (X : Stand p l e (⟨0, 0, 0, 0⟩ : Room) s m args below meth c T [] 0 0) (B : Bdy p s m meth c Z a0 "com/example/measured_grab/measuredgrab/bench/Latencies" "add" prog_4_method_2_code 3 none tables_1) (eT : T.heap = h) (o0 : Addr) (j1 : Int64) (fa : Addr) (x : Int64) (y : Int64) (z : Int64) (sr : Int32) (n0 : Nat) (Zs : n0 ≤ h.size) (hE : Exa Z h o0 "com/example/measured_grab/measuredgrab/bench/Latencies") (g0 : n0 ≤ o0) (ga : n0 ≤ fa) (noa : o0 ≠ fa) (hL : own_L Z h o0 fa 0 sr 3 (own_g3 x y z)) :
    Go p e below s 0 0 (fun v h2 L => v = none ∧ Fr n0 L ∧ Keep h h2 [o0, fa] ∧ own_L Z h2 o0 fa 1 0 3 (own_g3 j1 y z)) (T.setTop (mkF m 0 #[.val (.ref o0), .val (.long j1), .second] [])) := by
  have N := Fr.nil n0
  have K := Keep.refl h [o0, fa]
  obtain ⟨Fn, Fc, Fs, Aw⟩ := hL
  refine g_aloadN X B ad30_d0 (pc' := 1) rfl (v := (.ref o0)) rfl rfl ?_
  refine g_getF X B (B.w 15 rfl) Via.refl eT Fn ad30_d1 (pc' := 4) rfl (fun T1 X1 e1 => ?_)
  refine g_aloadN X1 B ad30_d4 (pc' := 5) rfl (v := (.ref o0)) rfl rfl ?_
  refine g_dup X1 B ad30_d5 (pc' := 6) rfl rfl ?_
  refine g_getF X1 B (B.w 22 rfl) Via.refl e1 Fc ad30_d6 (pc' := 9) rfl (fun T2 X2 e2 => ?_)
  refine g_dupX1 X2 B ad30_d9 (pc' := 10) rfl rfl rfl ?_
  refine g_iconst X2 B ad30_d10 (pc' := 11) rfl (v := (1 : Int32)) (by decide) ?_
  refine g_iadd X2 B ad30_d11 (pc' := 12) rfl ?_
  refine g_putF X2 B (B.w 22 rfl) Via.refl e2 Fc hE (Or.inl (B.w 23 rfl)) (B.w 4 rfl) (ty := .int) (by decide) rfl rfl ad30_d12 (pc' := 15) rfl (fun T3 h3 X3 e3 W3 => ?_)
  have N3 := Fr.snoc X3 N g0
  have E_o0_3 := hE.wr W3
  have F_o0_nanos_3 := Fn.other W3 (Or.inr (slot_ne (Or.inr (B.w 16 rfl)) (Or.inl (B.w 23 rfl)) (by decide) (t := (.array .long)) (t' := .int) (by decide) (by decide)))
  have F_o0_count_3 := Fc.same W3
  have F_o0_sorted_3 := Fs.other W3 (Or.inr (slot_ne (Or.inl (B.w 13 rfl)) (Or.inl (B.w 23 rfl)) (by decide) (t := .boolean) (t' := .int) (by decide) (by decide)))
  have A_fa_3 := Aw.other W3 (Ne.symm noa)
  have Zs_3 := Nat.le_trans Zs (Keep.of_wr W3).1
  have K_3 := K.wr W3 (Or.inl (List.mem_of_getElem? (i := 0) rfl))
  refine g_lloadN X3 B ad30_d15 (pc' := 16) rfl (v := j1) rfl ?_
  refine g_lastore X3 B 0 e3 A_fa_3 (by decide) (by decide) ad30_d16 (pc' := 17) rfl (fun T4 h4 X4 e4 W4 => ?_)
  have N4 := Fr.snoc X4 N3 ga
  have E_o0_4 := E_o0_3.wr W4
  have F_o0_nanos_4 := F_o0_nanos_3.other W4 (Or.inl noa)
  have F_o0_count_4 := F_o0_count_3.other W4 (Or.inl noa)
  have F_o0_sorted_4 := F_o0_sorted_3.other W4 (Or.inl noa)
  have A_fa_4 := A_fa_3.set W4
  have Zs_4 := Nat.le_trans Zs_3 (Keep.of_wr W4).1
  have K_4 := K_3.wr W4 (Or.inl (List.mem_of_getElem? (i := 1) rfl))
  refine g_aloadN X4 B ad30_d17 (pc' := 18) rfl (v := (.ref o0)) rfl rfl ?_
  refine g_iconst X4 B ad30_d18 (pc' := 19) rfl (v := (0 : Int32)) (by decide) ?_
  refine g_putF X4 B (B.w 12 rfl) Via.refl e4 F_o0_sorted_4 E_o0_4 (Or.inl (B.w 13 rfl)) (B.w 4 rfl) (ty := .boolean) (by decide) rfl rfl ad30_d19 (pc' := 22) rfl (fun T5 h5 X5 e5 W5 => ?_)
  have N5 := Fr.snoc X5 N4 g0
  have E_o0_5 := E_o0_4.wr W5
  have F_o0_nanos_5 := F_o0_nanos_4.other W5 (Or.inr (slot_ne (Or.inr (B.w 16 rfl)) (Or.inl (B.w 13 rfl)) (by decide) (t := (.array .long)) (t' := .boolean) (by decide) (by decide)))
  have F_o0_count_5 := F_o0_count_4.other W5 (Or.inr (slot_ne (Or.inl (B.w 23 rfl)) (Or.inl (B.w 13 rfl)) (by decide) (t := .int) (t' := .boolean) (by decide) (by decide)))
  have F_o0_sorted_5 := F_o0_sorted_4.same W5
  have A_fa_5 := A_fa_4.other W5 (Ne.symm noa)
  have Zs_5 := Nat.le_trans Zs_4 (Keep.of_wr W5).1
  have K_5 := K_4.wr W5 (Or.inl (List.mem_of_getElem? (i := 0) rfl))
  exact g_ret0 X5 B rfl ad30_d22 (by decide) (by decide) (by rw [e5]; exact ⟨rfl, N5, K_5, F_o0_nanos_5, (by have e : ((0 : Int32) + (1 : Int32)) = (1 : Int32) := (by decide); have z := F_o0_count_5; rw [e] at z; exact z), F_o0_sorted_5, A_fa_5.eqw (fun j hj => by have q : j = 0 ∨ j = 1 ∨ j = 2 := (by omega); rcases q with rfl | rfl | rfl <;> first | rfl | simp [own_g3])⟩)
theorem ad30_met (l : Launch) (Z : State) (a0 : Array Value) (hw : ∀ d ∈ tables_1, d.before a0 Z = true) (ws : List Jvm.Cond) (h : Heap) (o0 : Addr) (j1 : Int64) (fa : Addr) (x : Int64) (y : Int64) (z : Int64) (sr : Int32) (n0 : Nat) (Zs : n0 ≤ h.size) (hE : Exa Z h o0 "com/example/measured_grab/measuredgrab/bench/Latencies") (g0 : n0 ≤ o0) (ga : n0 ≤ fa) (noa : o0 ≠ fa) (hL : own_L Z h o0 fa 0 sr 3 (own_g3 x y z)) :
    Met l Z (⟨"com/example/measured_grab/measuredgrab/bench/Latencies", "add", "(J)V"⟩ : MethodName) prog_4_method_2_code 3 none ws (⟨0, 0, 0, 0⟩ : Room) #[(.ref o0), (.long j1)] h (fun v h2 L => v = none ∧ Fr n0 L ∧ Keep h h2 [o0, fa] ∧ own_L Z h2 o0 fa 1 0 3 (own_g3 j1 y z)) :=
  met_of own_pn_ad30 hw fun p e s m below meth c T X B eT => Go.top (own_ef_ad30 m o0 j1) (ad30_go X B eT o0 j1 fa x y z sr n0 Zs hE g0 ga noa hL)
theorem ad31_d0 : decode prog_4_method_2_code 0 = .ok (.aload_n 0, 1) := by decide +kernel
theorem ad31_d1 : decode prog_4_method_2_code 1 = .ok (.getfield 13, 3) := by decide +kernel
theorem ad31_d4 : decode prog_4_method_2_code 4 = .ok (.aload_n 0, 1) := by decide +kernel
theorem ad31_d5 : decode prog_4_method_2_code 5 = .ok (.dup, 1) := by decide +kernel
theorem ad31_d6 : decode prog_4_method_2_code 6 = .ok (.getfield 17, 3) := by decide +kernel
theorem ad31_d9 : decode prog_4_method_2_code 9 = .ok (.dup_x1, 1) := by decide +kernel
theorem ad31_d10 : decode prog_4_method_2_code 10 = .ok (.iconst 1, 1) := by decide +kernel
theorem ad31_d11 : decode prog_4_method_2_code 11 = .ok (.iadd, 1) := by decide +kernel
theorem ad31_d12 : decode prog_4_method_2_code 12 = .ok (.putfield 17, 3) := by decide +kernel
theorem ad31_d15 : decode prog_4_method_2_code 15 = .ok (.lload_n 1, 1) := by decide +kernel
theorem ad31_d16 : decode prog_4_method_2_code 16 = .ok (.lastore, 1) := by decide +kernel
theorem ad31_d17 : decode prog_4_method_2_code 17 = .ok (.aload_n 0, 1) := by decide +kernel
theorem ad31_d18 : decode prog_4_method_2_code 18 = .ok (.iconst 0, 1) := by decide +kernel
theorem ad31_d19 : decode prog_4_method_2_code 19 = .ok (.putfield 7, 3) := by decide +kernel
theorem ad31_d22 : decode prog_4_method_2_code 22 = .ok (.return_, 1) := by decide +kernel
theorem own_pn_ad31 : plainFor (⟨"com/example/measured_grab/measuredgrab/bench/Latencies", "add", "(J)V"⟩ : MethodName) = true := plainFor_of_name (by first | (simp [plainName, overriddenIn]; done) | decide +kernel)
theorem own_ef_ad31 (m : MethodId) (o0 : Addr) (j1 : Int64) : entryFrame m #[(.ref o0), (.long j1)] 3 = (mkF m 0 #[.val (.ref o0), .val (.long j1), .second] []) := by first | (simp [entryFrame, mkF, argsToLocals, Value.category]; done) | rfl
set_option maxRecDepth 65536 in
set_option maxHeartbeats 40000000 in
theorem ad31_go {p : Program} {l : Launch} {e : Env} {s : State} {m : MethodId} {args : Array Value} {below : List Frame} {meth : Method} {c : Code} {T : State} {Z : State} {a0 : Array Value} {h : Heap} (X : Stand p l e (⟨0, 0, 0, 0⟩ : Room) s m args below meth c T [] 0 0) (B : Bdy p s m meth c Z a0 "com/example/measured_grab/measuredgrab/bench/Latencies" "add" prog_4_method_2_code 3 none tables_1) (eT : T.heap = h) (o0 : Addr) (j1 : Int64) (fa : Addr) (x : Int64) (y : Int64) (z : Int64) (sr : Int32) (n0 : Nat) (Zs : n0 ≤ h.size) (hE : Exa Z h o0 "com/example/measured_grab/measuredgrab/bench/Latencies") (g0 : n0 ≤ o0) (ga : n0 ≤ fa) (noa : o0 ≠ fa) (hL : own_L Z h o0 fa 1 sr 3 (own_g3 x y z)) :
    Go p e below s 0 0 (fun v h2 L => v = none ∧ Fr n0 L ∧ Keep h h2 [o0, fa] ∧ own_L Z h2 o0 fa 2 0 3 (own_g3 x j1 z)) (T.setTop (mkF m 0 #[.val (.ref o0), .val (.long j1), .second] [])) := by
  have N := Fr.nil n0
  have K := Keep.refl h [o0, fa]
  obtain ⟨Fn, Fc, Fs, Aw⟩ := hL
  refine g_aloadN X B ad31_d0 (pc' := 1) rfl (v := (.ref o0)) rfl rfl ?_
  refine g_getF X B (B.w 15 rfl) Via.refl eT Fn ad31_d1 (pc' := 4) rfl (fun T1 X1 e1 => ?_)
  refine g_aloadN X1 B ad31_d4 (pc' := 5) rfl (v := (.ref o0)) rfl rfl ?_
  refine g_dup X1 B ad31_d5 (pc' := 6) rfl rfl ?_
  refine g_getF X1 B (B.w 22 rfl) Via.refl e1 Fc ad31_d6 (pc' := 9) rfl (fun T2 X2 e2 => ?_)
  refine g_dupX1 X2 B ad31_d9 (pc' := 10) rfl rfl rfl ?_
  refine g_iconst X2 B ad31_d10 (pc' := 11) rfl (v := (1 : Int32)) (by decide) ?_
  refine g_iadd X2 B ad31_d11 (pc' := 12) rfl ?_
  refine g_putF X2 B (B.w 22 rfl) Via.refl e2 Fc hE (Or.inl (B.w 23 rfl)) (B.w 4 rfl) (ty := .int) (by decide) rfl rfl ad31_d12 (pc' := 15) rfl (fun T3 h3 X3 e3 W3 => ?_)
  have N3 := Fr.snoc X3 N g0
  have E_o0_3 := hE.wr W3
  have F_o0_nanos_3 := Fn.other W3 (Or.inr (slot_ne (Or.inr (B.w 16 rfl)) (Or.inl (B.w 23 rfl)) (by decide) (t := (.array .long)) (t' := .int) (by decide) (by decide)))
  have F_o0_count_3 := Fc.same W3
  have F_o0_sorted_3 := Fs.other W3 (Or.inr (slot_ne (Or.inl (B.w 13 rfl)) (Or.inl (B.w 23 rfl)) (by decide) (t := .boolean) (t' := .int) (by decide) (by decide)))
  have A_fa_3 := Aw.other W3 (Ne.symm noa)
  have Zs_3 := Nat.le_trans Zs (Keep.of_wr W3).1
  have K_3 := K.wr W3 (Or.inl (List.mem_of_getElem? (i := 0) rfl))
  refine g_lloadN X3 B ad31_d15 (pc' := 16) rfl (v := j1) rfl ?_
  refine g_lastore X3 B 1 e3 A_fa_3 (by decide) (by decide) ad31_d16 (pc' := 17) rfl (fun T4 h4 X4 e4 W4 => ?_)
  have N4 := Fr.snoc X4 N3 ga
  have E_o0_4 := E_o0_3.wr W4
  have F_o0_nanos_4 := F_o0_nanos_3.other W4 (Or.inl noa)
  have F_o0_count_4 := F_o0_count_3.other W4 (Or.inl noa)
  have F_o0_sorted_4 := F_o0_sorted_3.other W4 (Or.inl noa)
  have A_fa_4 := A_fa_3.set W4
  have Zs_4 := Nat.le_trans Zs_3 (Keep.of_wr W4).1
  have K_4 := K_3.wr W4 (Or.inl (List.mem_of_getElem? (i := 1) rfl))
  refine g_aloadN X4 B ad31_d17 (pc' := 18) rfl (v := (.ref o0)) rfl rfl ?_
  refine g_iconst X4 B ad31_d18 (pc' := 19) rfl (v := (0 : Int32)) (by decide) ?_
  refine g_putF X4 B (B.w 12 rfl) Via.refl e4 F_o0_sorted_4 E_o0_4 (Or.inl (B.w 13 rfl)) (B.w 4 rfl) (ty := .boolean) (by decide) rfl rfl ad31_d19 (pc' := 22) rfl (fun T5 h5 X5 e5 W5 => ?_)
  have N5 := Fr.snoc X5 N4 g0
  have E_o0_5 := E_o0_4.wr W5
  have F_o0_nanos_5 := F_o0_nanos_4.other W5 (Or.inr (slot_ne (Or.inr (B.w 16 rfl)) (Or.inl (B.w 13 rfl)) (by decide) (t := (.array .long)) (t' := .boolean) (by decide) (by decide)))
  have F_o0_count_5 := F_o0_count_4.other W5 (Or.inr (slot_ne (Or.inl (B.w 23 rfl)) (Or.inl (B.w 13 rfl)) (by decide) (t := .int) (t' := .boolean) (by decide) (by decide)))
  have F_o0_sorted_5 := F_o0_sorted_4.same W5
  have A_fa_5 := A_fa_4.other W5 (Ne.symm noa)
  have Zs_5 := Nat.le_trans Zs_4 (Keep.of_wr W5).1
  have K_5 := K_4.wr W5 (Or.inl (List.mem_of_getElem? (i := 0) rfl))
  exact g_ret0 X5 B rfl ad31_d22 (by decide) (by decide) (by rw [e5]; exact ⟨rfl, N5, K_5, F_o0_nanos_5, (by have e : ((1 : Int32) + (1 : Int32)) = (2 : Int32) := (by decide); have z := F_o0_count_5; rw [e] at z; exact z), F_o0_sorted_5, A_fa_5.eqw (fun j hj => by have q : j = 0 ∨ j = 1 ∨ j = 2 := (by omega); rcases q with rfl | rfl | rfl <;> first | rfl | simp [own_g3])⟩)
theorem ad31_met (l : Launch) (Z : State) (a0 : Array Value) (hw : ∀ d ∈ tables_1, d.before a0 Z = true) (ws : List Jvm.Cond) (h : Heap) (o0 : Addr) (j1 : Int64) (fa : Addr) (x : Int64) (y : Int64) (z : Int64) (sr : Int32) (n0 : Nat) (Zs : n0 ≤ h.size) (hE : Exa Z h o0 "com/example/measured_grab/measuredgrab/bench/Latencies") (g0 : n0 ≤ o0) (ga : n0 ≤ fa) (noa : o0 ≠ fa) (hL : own_L Z h o0 fa 1 sr 3 (own_g3 x y z)) :
    Met l Z (⟨"com/example/measured_grab/measuredgrab/bench/Latencies", "add", "(J)V"⟩ : MethodName) prog_4_method_2_code 3 none ws (⟨0, 0, 0, 0⟩ : Room) #[(.ref o0), (.long j1)] h (fun v h2 L => v = none ∧ Fr n0 L ∧ Keep h h2 [o0, fa] ∧ own_L Z h2 o0 fa 2 0 3 (own_g3 x j1 z)) :=
  met_of own_pn_ad31 hw fun p e s m below meth c T X B eT => Go.top (own_ef_ad31 m o0 j1) (ad31_go X B eT o0 j1 fa x y z sr n0 Zs hE g0 ga noa hL)
theorem ad32_d0 : decode prog_4_method_2_code 0 = .ok (.aload_n 0, 1) := by decide +kernel
theorem ad32_d1 : decode prog_4_method_2_code 1 = .ok (.getfield 13, 3) := by decide +kernel
theorem ad32_d4 : decode prog_4_method_2_code 4 = .ok (.aload_n 0, 1) := by decide +kernel
theorem ad32_d5 : decode prog_4_method_2_code 5 = .ok (.dup, 1) := by decide +kernel
theorem ad32_d6 : decode prog_4_method_2_code 6 = .ok (.getfield 17, 3) := by decide +kernel
theorem ad32_d9 : decode prog_4_method_2_code 9 = .ok (.dup_x1, 1) := by decide +kernel
theorem ad32_d10 : decode prog_4_method_2_code 10 = .ok (.iconst 1, 1) := by decide +kernel
theorem ad32_d11 : decode prog_4_method_2_code 11 = .ok (.iadd, 1) := by decide +kernel
theorem ad32_d12 : decode prog_4_method_2_code 12 = .ok (.putfield 17, 3) := by decide +kernel
theorem ad32_d15 : decode prog_4_method_2_code 15 = .ok (.lload_n 1, 1) := by decide +kernel
theorem ad32_d16 : decode prog_4_method_2_code 16 = .ok (.lastore, 1) := by decide +kernel
theorem ad32_d17 : decode prog_4_method_2_code 17 = .ok (.aload_n 0, 1) := by decide +kernel
theorem ad32_d18 : decode prog_4_method_2_code 18 = .ok (.iconst 0, 1) := by decide +kernel
theorem ad32_d19 : decode prog_4_method_2_code 19 = .ok (.putfield 7, 3) := by decide +kernel
theorem ad32_d22 : decode prog_4_method_2_code 22 = .ok (.return_, 1) := by decide +kernel
theorem own_pn_ad32 : plainFor (⟨"com/example/measured_grab/measuredgrab/bench/Latencies", "add", "(J)V"⟩ : MethodName) = true := plainFor_of_name (by first | (simp [plainName, overriddenIn]; done) | decide +kernel)
theorem own_ef_ad32 (m : MethodId) (o0 : Addr) (j1 : Int64) : entryFrame m #[(.ref o0), (.long j1)] 3 = (mkF m 0 #[.val (.ref o0), .val (.long j1), .second] []) := by first | (simp [entryFrame, mkF, argsToLocals, Value.category]; done) | rfl
set_option maxRecDepth 65536 in
set_option maxHeartbeats 40000000 in
theorem ad32_go {p : Program} {l : Launch} {e : Env} {s : State} {m : MethodId} {args : Array Value} {below : List Frame} {meth : Method} {c : Code} {T : State} {Z : State} {a0 : Array Value} {h : Heap} (X : Stand p l e (⟨0, 0, 0, 0⟩ : Room) s m args below meth c T [] 0 0) (B : Bdy p s m meth c Z a0 "com/example/measured_grab/measuredgrab/bench/Latencies" "add" prog_4_method_2_code 3 none tables_1) (eT : T.heap = h) (o0 : Addr) (j1 : Int64) (fa : Addr) (x : Int64) (y : Int64) (z : Int64) (sr : Int32) (n0 : Nat) (Zs : n0 ≤ h.size) (hE : Exa Z h o0 "com/example/measured_grab/measuredgrab/bench/Latencies") (g0 : n0 ≤ o0) (ga : n0 ≤ fa) (noa : o0 ≠ fa) (hL : own_L Z h o0 fa 2 sr 3 (own_g3 x y z)) :
    Go p e below s 0 0 (fun v h2 L => v = none ∧ Fr n0 L ∧ Keep h h2 [o0, fa] ∧ own_L Z h2 o0 fa 3 0 3 (own_g3 x y j1)) (T.setTop (mkF m 0 #[.val (.ref o0), .val (.long j1), .second] [])) := by
  have N := Fr.nil n0
  have K := Keep.refl h [o0, fa]
  obtain ⟨Fn, Fc, Fs, Aw⟩ := hL
  refine g_aloadN X B ad32_d0 (pc' := 1) rfl (v := (.ref o0)) rfl rfl ?_
  refine g_getF X B (B.w 15 rfl) Via.refl eT Fn ad32_d1 (pc' := 4) rfl (fun T1 X1 e1 => ?_)
  refine g_aloadN X1 B ad32_d4 (pc' := 5) rfl (v := (.ref o0)) rfl rfl ?_
  refine g_dup X1 B ad32_d5 (pc' := 6) rfl rfl ?_
  refine g_getF X1 B (B.w 22 rfl) Via.refl e1 Fc ad32_d6 (pc' := 9) rfl (fun T2 X2 e2 => ?_)
  refine g_dupX1 X2 B ad32_d9 (pc' := 10) rfl rfl rfl ?_
  refine g_iconst X2 B ad32_d10 (pc' := 11) rfl (v := (1 : Int32)) (by decide) ?_
  refine g_iadd X2 B ad32_d11 (pc' := 12) rfl ?_
  refine g_putF X2 B (B.w 22 rfl) Via.refl e2 Fc hE (Or.inl (B.w 23 rfl)) (B.w 4 rfl) (ty := .int) (by decide) rfl rfl ad32_d12 (pc' := 15) rfl (fun T3 h3 X3 e3 W3 => ?_)
  have N3 := Fr.snoc X3 N g0
  have E_o0_3 := hE.wr W3
  have F_o0_nanos_3 := Fn.other W3 (Or.inr (slot_ne (Or.inr (B.w 16 rfl)) (Or.inl (B.w 23 rfl)) (by decide) (t := (.array .long)) (t' := .int) (by decide) (by decide)))
  have F_o0_count_3 := Fc.same W3
  have F_o0_sorted_3 := Fs.other W3 (Or.inr (slot_ne (Or.inl (B.w 13 rfl)) (Or.inl (B.w 23 rfl)) (by decide) (t := .boolean) (t' := .int) (by decide) (by decide)))
  have A_fa_3 := Aw.other W3 (Ne.symm noa)
  have Zs_3 := Nat.le_trans Zs (Keep.of_wr W3).1
  have K_3 := K.wr W3 (Or.inl (List.mem_of_getElem? (i := 0) rfl))
  refine g_lloadN X3 B ad32_d15 (pc' := 16) rfl (v := j1) rfl ?_
  refine g_lastore X3 B 2 e3 A_fa_3 (by decide) (by decide) ad32_d16 (pc' := 17) rfl (fun T4 h4 X4 e4 W4 => ?_)
  have N4 := Fr.snoc X4 N3 ga
  have E_o0_4 := E_o0_3.wr W4
  have F_o0_nanos_4 := F_o0_nanos_3.other W4 (Or.inl noa)
  have F_o0_count_4 := F_o0_count_3.other W4 (Or.inl noa)
  have F_o0_sorted_4 := F_o0_sorted_3.other W4 (Or.inl noa)
  have A_fa_4 := A_fa_3.set W4
  have Zs_4 := Nat.le_trans Zs_3 (Keep.of_wr W4).1
  have K_4 := K_3.wr W4 (Or.inl (List.mem_of_getElem? (i := 1) rfl))
  refine g_aloadN X4 B ad32_d17 (pc' := 18) rfl (v := (.ref o0)) rfl rfl ?_
  refine g_iconst X4 B ad32_d18 (pc' := 19) rfl (v := (0 : Int32)) (by decide) ?_
  refine g_putF X4 B (B.w 12 rfl) Via.refl e4 F_o0_sorted_4 E_o0_4 (Or.inl (B.w 13 rfl)) (B.w 4 rfl) (ty := .boolean) (by decide) rfl rfl ad32_d19 (pc' := 22) rfl (fun T5 h5 X5 e5 W5 => ?_)
  have N5 := Fr.snoc X5 N4 g0
  have E_o0_5 := E_o0_4.wr W5
  have F_o0_nanos_5 := F_o0_nanos_4.other W5 (Or.inr (slot_ne (Or.inr (B.w 16 rfl)) (Or.inl (B.w 13 rfl)) (by decide) (t := (.array .long)) (t' := .boolean) (by decide) (by decide)))
  have F_o0_count_5 := F_o0_count_4.other W5 (Or.inr (slot_ne (Or.inl (B.w 23 rfl)) (Or.inl (B.w 13 rfl)) (by decide) (t := .int) (t' := .boolean) (by decide) (by decide)))
  have F_o0_sorted_5 := F_o0_sorted_4.same W5
  have A_fa_5 := A_fa_4.other W5 (Ne.symm noa)
  have Zs_5 := Nat.le_trans Zs_4 (Keep.of_wr W5).1
  have K_5 := K_4.wr W5 (Or.inl (List.mem_of_getElem? (i := 0) rfl))
  exact g_ret0 X5 B rfl ad32_d22 (by decide) (by decide) (by rw [e5]; exact ⟨rfl, N5, K_5, F_o0_nanos_5, (by have e : ((2 : Int32) + (1 : Int32)) = (3 : Int32) := (by decide); have z := F_o0_count_5; rw [e] at z; exact z), F_o0_sorted_5, A_fa_5.eqw (fun j hj => by have q : j = 0 ∨ j = 1 ∨ j = 2 := (by omega); rcases q with rfl | rfl | rfl <;> first | rfl | simp [own_g3])⟩)
theorem ad32_met (l : Launch) (Z : State) (a0 : Array Value) (hw : ∀ d ∈ tables_1, d.before a0 Z = true) (ws : List Jvm.Cond) (h : Heap) (o0 : Addr) (j1 : Int64) (fa : Addr) (x : Int64) (y : Int64) (z : Int64) (sr : Int32) (n0 : Nat) (Zs : n0 ≤ h.size) (hE : Exa Z h o0 "com/example/measured_grab/measuredgrab/bench/Latencies") (g0 : n0 ≤ o0) (ga : n0 ≤ fa) (noa : o0 ≠ fa) (hL : own_L Z h o0 fa 2 sr 3 (own_g3 x y z)) :
    Met l Z (⟨"com/example/measured_grab/measuredgrab/bench/Latencies", "add", "(J)V"⟩ : MethodName) prog_4_method_2_code 3 none ws (⟨0, 0, 0, 0⟩ : Room) #[(.ref o0), (.long j1)] h (fun v h2 L => v = none ∧ Fr n0 L ∧ Keep h h2 [o0, fa] ∧ own_L Z h2 o0 fa 3 0 3 (own_g3 x y j1)) :=
  met_of own_pn_ad32 hw fun p e s m below meth c T X B eT => Go.top (own_ef_ad32 m o0 j1) (ad32_go X B eT o0 j1 fa x y z sr n0 Zs hE g0 ga noa hL)
theorem ad10_d0 : decode prog_4_method_2_code 0 = .ok (.aload_n 0, 1) := by decide +kernel
theorem ad10_d1 : decode prog_4_method_2_code 1 = .ok (.getfield 13, 3) := by decide +kernel
theorem ad10_d4 : decode prog_4_method_2_code 4 = .ok (.aload_n 0, 1) := by decide +kernel
theorem ad10_d5 : decode prog_4_method_2_code 5 = .ok (.dup, 1) := by decide +kernel
theorem ad10_d6 : decode prog_4_method_2_code 6 = .ok (.getfield 17, 3) := by decide +kernel
theorem ad10_d9 : decode prog_4_method_2_code 9 = .ok (.dup_x1, 1) := by decide +kernel
theorem ad10_d10 : decode prog_4_method_2_code 10 = .ok (.iconst 1, 1) := by decide +kernel
theorem ad10_d11 : decode prog_4_method_2_code 11 = .ok (.iadd, 1) := by decide +kernel
theorem ad10_d12 : decode prog_4_method_2_code 12 = .ok (.putfield 17, 3) := by decide +kernel
theorem ad10_d15 : decode prog_4_method_2_code 15 = .ok (.lload_n 1, 1) := by decide +kernel
theorem ad10_d16 : decode prog_4_method_2_code 16 = .ok (.lastore, 1) := by decide +kernel
theorem ad10_d17 : decode prog_4_method_2_code 17 = .ok (.aload_n 0, 1) := by decide +kernel
theorem ad10_d18 : decode prog_4_method_2_code 18 = .ok (.iconst 0, 1) := by decide +kernel
theorem ad10_d19 : decode prog_4_method_2_code 19 = .ok (.putfield 7, 3) := by decide +kernel
theorem ad10_d22 : decode prog_4_method_2_code 22 = .ok (.return_, 1) := by decide +kernel
theorem own_pn_ad10 : plainFor (⟨"com/example/measured_grab/measuredgrab/bench/Latencies", "add", "(J)V"⟩ : MethodName) = true := plainFor_of_name (by first | (simp [plainName, overriddenIn]; done) | decide +kernel)
theorem own_ef_ad10 (m : MethodId) (o0 : Addr) (j1 : Int64) : entryFrame m #[(.ref o0), (.long j1)] 3 = (mkF m 0 #[.val (.ref o0), .val (.long j1), .second] []) := by first | (simp [entryFrame, mkF, argsToLocals, Value.category]; done) | rfl
set_option maxRecDepth 65536 in
set_option maxHeartbeats 40000000 in
theorem ad10_go {p : Program} {l : Launch} {e : Env} {s : State} {m : MethodId} {args : Array Value} {below : List Frame} {meth : Method} {c : Code} {T : State} {Z : State} {a0 : Array Value} {h : Heap} (X : Stand p l e (⟨0, 0, 0, 0⟩ : Room) s m args below meth c T [] 0 0) (B : Bdy p s m meth c Z a0 "com/example/measured_grab/measuredgrab/bench/Latencies" "add" prog_4_method_2_code 3 none tables_1) (eT : T.heap = h) (o0 : Addr) (j1 : Int64) (fa : Addr) (x : Int64) (y : Int64) (z : Int64) (sr : Int32) (n0 : Nat) (Zs : n0 ≤ h.size) (hE : Exa Z h o0 "com/example/measured_grab/measuredgrab/bench/Latencies") (g0 : n0 ≤ o0) (ga : n0 ≤ fa) (noa : o0 ≠ fa) (hL : own_L Z h o0 fa 0 sr 1 (own_g3 x y z)) :
    Go p e below s 0 0 (fun v h2 L => v = none ∧ Fr n0 L ∧ Keep h h2 [o0, fa] ∧ own_L Z h2 o0 fa 1 0 1 (own_g3 j1 y z)) (T.setTop (mkF m 0 #[.val (.ref o0), .val (.long j1), .second] [])) := by
  have N := Fr.nil n0
  have K := Keep.refl h [o0, fa]
  obtain ⟨Fn, Fc, Fs, Aw⟩ := hL
  refine g_aloadN X B ad10_d0 (pc' := 1) rfl (v := (.ref o0)) rfl rfl ?_
  refine g_getF X B (B.w 15 rfl) Via.refl eT Fn ad10_d1 (pc' := 4) rfl (fun T1 X1 e1 => ?_)
  refine g_aloadN X1 B ad10_d4 (pc' := 5) rfl (v := (.ref o0)) rfl rfl ?_
  refine g_dup X1 B ad10_d5 (pc' := 6) rfl rfl ?_
  refine g_getF X1 B (B.w 22 rfl) Via.refl e1 Fc ad10_d6 (pc' := 9) rfl (fun T2 X2 e2 => ?_)
  refine g_dupX1 X2 B ad10_d9 (pc' := 10) rfl rfl rfl ?_
  refine g_iconst X2 B ad10_d10 (pc' := 11) rfl (v := (1 : Int32)) (by decide) ?_
  refine g_iadd X2 B ad10_d11 (pc' := 12) rfl ?_
  refine g_putF X2 B (B.w 22 rfl) Via.refl e2 Fc hE (Or.inl (B.w 23 rfl)) (B.w 4 rfl) (ty := .int) (by decide) rfl rfl ad10_d12 (pc' := 15) rfl (fun T3 h3 X3 e3 W3 => ?_)
  have N3 := Fr.snoc X3 N g0
  have E_o0_3 := hE.wr W3
  have F_o0_nanos_3 := Fn.other W3 (Or.inr (slot_ne (Or.inr (B.w 16 rfl)) (Or.inl (B.w 23 rfl)) (by decide) (t := (.array .long)) (t' := .int) (by decide) (by decide)))
  have F_o0_count_3 := Fc.same W3
  have F_o0_sorted_3 := Fs.other W3 (Or.inr (slot_ne (Or.inl (B.w 13 rfl)) (Or.inl (B.w 23 rfl)) (by decide) (t := .boolean) (t' := .int) (by decide) (by decide)))
  have A_fa_3 := Aw.other W3 (Ne.symm noa)
  have Zs_3 := Nat.le_trans Zs (Keep.of_wr W3).1
  have K_3 := K.wr W3 (Or.inl (List.mem_of_getElem? (i := 0) rfl))
  refine g_lloadN X3 B ad10_d15 (pc' := 16) rfl (v := j1) rfl ?_
  refine g_lastore X3 B 0 e3 A_fa_3 (by decide) (by decide) ad10_d16 (pc' := 17) rfl (fun T4 h4 X4 e4 W4 => ?_)
  have N4 := Fr.snoc X4 N3 ga
  have E_o0_4 := E_o0_3.wr W4
  have F_o0_nanos_4 := F_o0_nanos_3.other W4 (Or.inl noa)
  have F_o0_count_4 := F_o0_count_3.other W4 (Or.inl noa)
  have F_o0_sorted_4 := F_o0_sorted_3.other W4 (Or.inl noa)
  have A_fa_4 := A_fa_3.set W4
  have Zs_4 := Nat.le_trans Zs_3 (Keep.of_wr W4).1
  have K_4 := K_3.wr W4 (Or.inl (List.mem_of_getElem? (i := 1) rfl))
  refine g_aloadN X4 B ad10_d17 (pc' := 18) rfl (v := (.ref o0)) rfl rfl ?_
  refine g_iconst X4 B ad10_d18 (pc' := 19) rfl (v := (0 : Int32)) (by decide) ?_
  refine g_putF X4 B (B.w 12 rfl) Via.refl e4 F_o0_sorted_4 E_o0_4 (Or.inl (B.w 13 rfl)) (B.w 4 rfl) (ty := .boolean) (by decide) rfl rfl ad10_d19 (pc' := 22) rfl (fun T5 h5 X5 e5 W5 => ?_)
  have N5 := Fr.snoc X5 N4 g0
  have E_o0_5 := E_o0_4.wr W5
  have F_o0_nanos_5 := F_o0_nanos_4.other W5 (Or.inr (slot_ne (Or.inr (B.w 16 rfl)) (Or.inl (B.w 13 rfl)) (by decide) (t := (.array .long)) (t' := .boolean) (by decide) (by decide)))
  have F_o0_count_5 := F_o0_count_4.other W5 (Or.inr (slot_ne (Or.inl (B.w 23 rfl)) (Or.inl (B.w 13 rfl)) (by decide) (t := .int) (t' := .boolean) (by decide) (by decide)))
  have F_o0_sorted_5 := F_o0_sorted_4.same W5
  have A_fa_5 := A_fa_4.other W5 (Ne.symm noa)
  have Zs_5 := Nat.le_trans Zs_4 (Keep.of_wr W5).1
  have K_5 := K_4.wr W5 (Or.inl (List.mem_of_getElem? (i := 0) rfl))
  exact g_ret0 X5 B rfl ad10_d22 (by decide) (by decide) (by rw [e5]; exact ⟨rfl, N5, K_5, F_o0_nanos_5, (by have e : ((0 : Int32) + (1 : Int32)) = (1 : Int32) := (by decide); have z := F_o0_count_5; rw [e] at z; exact z), F_o0_sorted_5, A_fa_5.eqw (fun j hj => by have q : j = 0 := (by omega); subst q; first | rfl | simp [own_g3])⟩)
theorem ad10_met (l : Launch) (Z : State) (a0 : Array Value) (hw : ∀ d ∈ tables_1, d.before a0 Z = true) (ws : List Jvm.Cond) (h : Heap) (o0 : Addr) (j1 : Int64) (fa : Addr) (x : Int64) (y : Int64) (z : Int64) (sr : Int32) (n0 : Nat) (Zs : n0 ≤ h.size) (hE : Exa Z h o0 "com/example/measured_grab/measuredgrab/bench/Latencies") (g0 : n0 ≤ o0) (ga : n0 ≤ fa) (noa : o0 ≠ fa) (hL : own_L Z h o0 fa 0 sr 1 (own_g3 x y z)) :
    Met l Z (⟨"com/example/measured_grab/measuredgrab/bench/Latencies", "add", "(J)V"⟩ : MethodName) prog_4_method_2_code 3 none ws (⟨0, 0, 0, 0⟩ : Room) #[(.ref o0), (.long j1)] h (fun v h2 L => v = none ∧ Fr n0 L ∧ Keep h h2 [o0, fa] ∧ own_L Z h2 o0 fa 1 0 1 (own_g3 j1 y z)) :=
  met_of own_pn_ad10 hw fun p e s m below meth c T X B eT => Go.top (own_ef_ad10 m o0 j1) (ad10_go X B eT o0 j1 fa x y z sr n0 Zs hE g0 ga noa hL)
theorem rc3_d0 : decode jdk_65_method_30_code 0 = .ok (.iload_n 1, 1) := by decide +kernel
theorem rc3_d1 : decode jdk_65_method_30_code 1 = .ok (.iload_n 2, 1) := by decide +kernel
theorem rc3_d2 : decode jdk_65_method_30_code 2 = .ok (.if_icmp .le 44, 3) := by decide +kernel
theorem rc3_d46 : decode jdk_65_method_30_code 46 = .ok (.iload_n 1, 1) := by decide +kernel
theorem rc3_d47 : decode jdk_65_method_30_code 47 = .ok (.ifCond .ge 12, 3) := by decide +kernel
theorem rc3_d59 : decode jdk_65_method_30_code 59 = .ok (.iload_n 2, 1) := by decide +kernel
theorem rc3_d60 : decode jdk_65_method_30_code 60 = .ok (.iload_n 0, 1) := by decide +kernel
theorem rc3_d61 : decode jdk_65_method_30_code 61 = .ok (.if_icmp .le 12, 3) := by decide +kernel
theorem rc3_d73 : decode jdk_65_method_30_code 73 = .ok (.return_, 1) := by decide +kernel
theorem own_pn_rc3 : plainFor (⟨"java/util/Arrays", "rangeCheck", "(III)V"⟩ : MethodName) = true := by decide +kernel
theorem own_ef_rc3 (m : MethodId) (i0 : Int32) (i1 : Int32) (i2 : Int32) : entryFrame m #[(.int i0), (.int i1), (.int i2)] 3 = (mkF m 0 #[.val (.int i0), .val (.int i1), .val (.int i2)] []) := by first | (simp [entryFrame, mkF, argsToLocals, Value.category]; done) | rfl
set_option maxRecDepth 65536 in
set_option maxHeartbeats 40000000 in
theorem rc3_go {p : Program} {l : Launch} {e : Env} {s : State} {m : MethodId} {args : Array Value} {below : List Frame} {meth : Method} {c : Code} {T : State} {Z : State} {a0 : Array Value} {h : Heap} (X : Stand p l e (⟨0, 0, 0, 0⟩ : Room) s m args below meth c T [] 0 0) (B : Bdy p s m meth c Z a0 "java/util/Arrays" "rangeCheck" jdk_65_method_30_code 3 none tables_1) (eT : T.heap = h) (i0 : Int32) (i1 : Int32) (i2 : Int32)  (h0 : i0 = (3 : Int32)) (h1 : i1 = (0 : Int32)) (h2 : i2 = (3 : Int32)) :
    Go p e below s 0 0 (PQ none h []) (T.setTop (mkF m 0 #[.val (.int i0), .val (.int i1), .val (.int i2)] [])) := by
  subst h0 h1 h2
  refine g_iloadN X B rc3_d0 (pc' := 1) rfl (v := (0 : Int32)) rfl ?_
  refine g_iloadN X B rc3_d1 (pc' := 2) rfl (v := (3 : Int32)) rfl ?_
  refine g_icmp_le X B rc3_d2 (pcT := 46) (pcF := 5) (by decide) rfl rfl (fun c2_0 => ?_) (fun c2_0 => ?_)
  · exact absurd c2_0 (by decide)
  · refine g_iloadN X B rc3_d46 (pc' := 47) rfl (v := (0 : Int32)) rfl ?_
    refine g_if_ge X B rc3_d47 (pcT := 59) (pcF := 50) (by decide) rfl rfl (fun c47_1 => ?_) (fun c47_1 => ?_)
    · exact absurd c47_1 (by decide)
    · refine g_iloadN X B rc3_d59 (pc' := 60) rfl (v := (3 : Int32)) rfl ?_
      refine g_iloadN X B rc3_d60 (pc' := 61) rfl (v := (3 : Int32)) rfl ?_
      refine g_icmp_le X B rc3_d61 (pcT := 73) (pcF := 64) (by decide) rfl rfl (fun c61_2 => ?_) (fun c61_2 => ?_)
      · exact absurd c61_2 (by decide)
      · exact g_ret0 X B rfl rc3_d73 (by decide) (by decide) ⟨rfl, eT, rfl⟩
theorem rc3_met (l : Launch) (Z : State) (a0 : Array Value) (hw : ∀ d ∈ tables_1, d.before a0 Z = true) (ws : List Jvm.Cond) (h : Heap) (i0 : Int32) (i1 : Int32) (i2 : Int32)  (h0 : i0 = (3 : Int32)) (h1 : i1 = (0 : Int32)) (h2 : i2 = (3 : Int32)) :
    Met l Z (⟨"java/util/Arrays", "rangeCheck", "(III)V"⟩ : MethodName) jdk_65_method_30_code 3 none ws (⟨0, 0, 0, 0⟩ : Room) #[(.int i0), (.int i1), (.int i2)] h (PQ none h []) :=
  met_of own_pn_rc3 hw fun p e s m below meth c T X B eT => Go.top (own_ef_rc3 m i0 i1 i2) (rc3_go X B eT i0 i1 i2  h0 h1 h2)
theorem is3_d0 : decode jdk_2529_method_15_code 0 = .ok (.iload_n 1, 1) := by decide +kernel
theorem is3_d1 : decode jdk_2529_method_15_code 1 = .ok (.istore 4, 2) := by decide +kernel
theorem is3_d3 : decode jdk_2529_method_15_code 3 = .ok (.iinc 4 1, 3) := by decide +kernel
theorem is3_d6 : decode jdk_2529_method_15_code 6 = .ok (.iload 4, 2) := by decide +kernel
theorem is3_d8 : decode jdk_2529_method_15_code 8 = .ok (.iload_n 2, 1) := by decide +kernel
theorem is3_d9 : decode jdk_2529_method_15_code 9 = .ok (.if_icmp .ge 60, 3) := by decide +kernel
theorem is3_d12 : decode jdk_2529_method_15_code 12 = .ok (.aload_n 0, 1) := by decide +kernel
theorem is3_d13 : decode jdk_2529_method_15_code 13 = .ok (.iload 4, 2) := by decide +kernel
theorem is3_d15 : decode jdk_2529_method_15_code 15 = .ok (.dup, 1) := by decide +kernel
theorem is3_d16 : decode jdk_2529_method_15_code 16 = .ok (.istore_n 3, 1) := by decide +kernel
theorem is3_d17 : decode jdk_2529_method_15_code 17 = .ok (.laload, 1) := by decide +kernel
theorem is3_d18 : decode jdk_2529_method_15_code 18 = .ok (.lstore 5, 2) := by decide +kernel
theorem is3_d20 : decode jdk_2529_method_15_code 20 = .ok (.lload 5, 2) := by decide +kernel
theorem is3_d22 : decode jdk_2529_method_15_code 22 = .ok (.aload_n 0, 1) := by decide +kernel
theorem is3_d23 : decode jdk_2529_method_15_code 23 = .ok (.iload_n 3, 1) := by decide +kernel
theorem is3_d24 : decode jdk_2529_method_15_code 24 = .ok (.iconst 1, 1) := by decide +kernel
theorem is3_d25 : decode jdk_2529_method_15_code 25 = .ok (.isub, 1) := by decide +kernel
theorem is3_d26 : decode jdk_2529_method_15_code 26 = .ok (.laload, 1) := by decide +kernel
theorem is3_d27 : decode jdk_2529_method_15_code 27 = .ok (.lcmp, 1) := by decide +kernel
theorem is3_d28 : decode jdk_2529_method_15_code 28 = .ok (.ifCond .ge 38, 3) := by decide +kernel
theorem is3_d31 : decode jdk_2529_method_15_code 31 = .ok (.iinc 3 (-1), 3) := by decide +kernel
theorem is3_d34 : decode jdk_2529_method_15_code 34 = .ok (.iload_n 3, 1) := by decide +kernel
theorem is3_d35 : decode jdk_2529_method_15_code 35 = .ok (.iload_n 1, 1) := by decide +kernel
theorem is3_d36 : decode jdk_2529_method_15_code 36 = .ok (.if_icmp .lt 23, 3) := by decide +kernel
theorem is3_d39 : decode jdk_2529_method_15_code 39 = .ok (.lload 5, 2) := by decide +kernel
theorem is3_d41 : decode jdk_2529_method_15_code 41 = .ok (.aload_n 0, 1) := by decide +kernel
theorem is3_d42 : decode jdk_2529_method_15_code 42 = .ok (.iload_n 3, 1) := by decide +kernel
theorem is3_d43 : decode jdk_2529_method_15_code 43 = .ok (.laload, 1) := by decide +kernel
theorem is3_d44 : decode jdk_2529_method_15_code 44 = .ok (.lcmp, 1) := by decide +kernel
theorem is3_d45 : decode jdk_2529_method_15_code 45 = .ok (.ifCond .ge 14, 3) := by decide +kernel
theorem is3_d48 : decode jdk_2529_method_15_code 48 = .ok (.aload_n 0, 1) := by decide +kernel
theorem is3_d49 : decode jdk_2529_method_15_code 49 = .ok (.iload_n 3, 1) := by decide +kernel
theorem is3_d50 : decode jdk_2529_method_15_code 50 = .ok (.iconst 1, 1) := by decide +kernel
theorem is3_d51 : decode jdk_2529_method_15_code 51 = .ok (.iadd, 1) := by decide +kernel
theorem is3_d52 : decode jdk_2529_method_15_code 52 = .ok (.aload_n 0, 1) := by decide +kernel
theorem is3_d53 : decode jdk_2529_method_15_code 53 = .ok (.iload_n 3, 1) := by decide +kernel
theorem is3_d54 : decode jdk_2529_method_15_code 54 = .ok (.laload, 1) := by decide +kernel
theorem is3_d55 : decode jdk_2529_method_15_code 55 = .ok (.lastore, 1) := by decide +kernel
theorem is3_d56 : decode jdk_2529_method_15_code 56 = .ok (.goto (-25), 3) := by decide +kernel
theorem is3_d59 : decode jdk_2529_method_15_code 59 = .ok (.aload_n 0, 1) := by decide +kernel
theorem is3_d60 : decode jdk_2529_method_15_code 60 = .ok (.iload_n 3, 1) := by decide +kernel
theorem is3_d61 : decode jdk_2529_method_15_code 61 = .ok (.iconst 1, 1) := by decide +kernel
theorem is3_d62 : decode jdk_2529_method_15_code 62 = .ok (.iadd, 1) := by decide +kernel
theorem is3_d63 : decode jdk_2529_method_15_code 63 = .ok (.lload 5, 2) := by decide +kernel
theorem is3_d65 : decode jdk_2529_method_15_code 65 = .ok (.lastore, 1) := by decide +kernel
theorem is3_d66 : decode jdk_2529_method_15_code 66 = .ok (.goto (-63), 3) := by decide +kernel
theorem is3_d69 : decode jdk_2529_method_15_code 69 = .ok (.return_, 1) := by decide +kernel
theorem own_pn_is3 : plainFor (⟨"java/util/DualPivotQuicksort", "insertionSort", "([JII)V"⟩ : MethodName) = true := plainFor_of_name (by first | (simp [plainName, overriddenIn]; done) | decide +kernel)
theorem own_ef_is3 (m : MethodId) (o0 : Addr) (i1 : Int32) (i2 : Int32) : entryFrame m #[(.ref o0), (.int i1), (.int i2)] 7 = (mkF m 0 #[.val (.ref o0), .val (.int i1), .val (.int i2), .unset, .unset, .unset, .unset] []) := by first | (simp [entryFrame, mkF, argsToLocals, Value.category]; done) | rfl
set_option maxRecDepth 65536 in
set_option maxHeartbeats 40000000 in
theorem is3_go {p : Program} {l : Launch} {e : Env} {s : State} {m : MethodId} {args : Array Value} {below : List Frame} {meth : Method} {c : Code} {T : State} {Z : State} {a0 : Array Value} {h : Heap} (X : Stand p l e (⟨0, 0, 0, 0⟩ : Room) s m args below meth c T [] 0 0) (B : Bdy p s m meth c Z a0 "java/util/DualPivotQuicksort" "insertionSort" jdk_2529_method_15_code 7 none tables_1) (eT : T.heap = h) (o0 : Addr) (i1 : Int32) (i2 : Int32) (x : Int64) (y : Int64) (z : Int64) (n0 : Nat) (Zs : n0 ≤ h.size) (ga : n0 ≤ o0) (Aw : Ax Z h o0 .long 3 (own_g3 x y z)) (hlo : i1 = (0 : Int32)) (hhi : i2 = (3 : Int32)) :
    Go p e below s 0 0 (fun v h2 L => v = none ∧ Fr n0 L ∧ Keep h h2 [o0] ∧ Ax Z h2 o0 .long 3 (own_g3 (own_lo x y z) (own_md x y z) (own_hi x y z))) (T.setTop (mkF m 0 #[.val (.ref o0), .val (.int i1), .val (.int i2), .unset, .unset, .unset, .unset] [])) := by
  have N := Fr.nil n0
  have K := Keep.refl h [o0]
  subst hlo hhi
  refine g_iloadN X B is3_d0 (pc' := 1) rfl (v := (0 : Int32)) rfl ?_
  refine g_istore X B is3_d1 (pc' := 3) rfl (Ls' := #[.val (.ref o0), .val (.int (0 : Int32)), .val (.int (3 : Int32)), .unset, .val (.int (0 : Int32)), .unset, .unset]) rfl ?_
  refine g_iinc X B is3_d3 (pc' := 6) rfl (v := (0 : Int32)) rfl (Ls' := #[.val (.ref o0), .val (.int (0 : Int32)), .val (.int (3 : Int32)), .unset, .val (.int ((0 : Int32) + (1 : Int32))), .unset, .unset]) rfl ?_
  refine g_iload X B is3_d6 (pc' := 8) rfl (v := ((0 : Int32) + (1 : Int32))) rfl ?_
  refine g_iloadN X B is3_d8 (pc' := 9) rfl (v := (3 : Int32)) rfl ?_
  refine g_icmp_ge X B is3_d9 (pcT := 69) (pcF := 12) (by decide) rfl rfl (fun c9_0 => ?_) (fun c9_0 => ?_)
  · refine g_aloadN X B is3_d12 (pc' := 13) rfl (v := (.ref o0)) rfl rfl ?_
    refine g_iload X B is3_d13 (pc' := 15) rfl (v := ((0 : Int32) + (1 : Int32))) rfl ?_
    refine g_dup X B is3_d15 (pc' := 16) rfl rfl ?_
    refine g_istoreN X B is3_d16 (pc' := 17) rfl (Ls' := #[.val (.ref o0), .val (.int (0 : Int32)), .val (.int (3 : Int32)), .val (.int ((0 : Int32) + (1 : Int32))), .val (.int ((0 : Int32) + (1 : Int32))), .unset, .unset]) rfl ?_
    refine g_laload X B 1 eT Aw (by decide) (by decide) (v := (.long y)) rfl is3_d17 (pc' := 18) rfl ?_
    refine g_lstore X B is3_d18 (pc' := 20) rfl (Ls' := #[.val (.ref o0), .val (.int (0 : Int32)), .val (.int (3 : Int32)), .val (.int ((0 : Int32) + (1 : Int32))), .val (.int ((0 : Int32) + (1 : Int32))), .val (.long y), .second]) rfl ?_
    refine g_lload X B is3_d20 (pc' := 22) rfl (v := y) rfl ?_
    refine g_aloadN X B is3_d22 (pc' := 23) rfl (v := (.ref o0)) rfl rfl ?_
    refine g_iloadN X B is3_d23 (pc' := 24) rfl (v := ((0 : Int32) + (1 : Int32))) rfl ?_
    refine g_iconst X B is3_d24 (pc' := 25) rfl (v := (1 : Int32)) (by decide) ?_
    refine g_isub X B is3_d25 (pc' := 26) rfl ?_
    refine g_laload X B 0 eT Aw (by decide) (by decide) (v := (.long x)) rfl is3_d26 (pc' := 27) rfl ?_
    refine g_lcmp_ge X B is3_d27 is3_d28 (pcT := 66) (pcF := 31) (by decide) rfl rfl (fun c27_1 => ?_) (fun c27_1 => ?_)
    · refine g_iinc X B is3_d31 (pc' := 34) rfl (v := ((0 : Int32) + (1 : Int32))) rfl (Ls' := #[.val (.ref o0), .val (.int (0 : Int32)), .val (.int (3 : Int32)), .val (.int (((0 : Int32) + (1 : Int32)) + (-1 : Int32))), .val (.int ((0 : Int32) + (1 : Int32))), .val (.long y), .second]) rfl ?_
      refine g_iloadN X B is3_d34 (pc' := 35) rfl (v := (((0 : Int32) + (1 : Int32)) + (-1 : Int32))) rfl ?_
      refine g_iloadN X B is3_d35 (pc' := 36) rfl (v := (0 : Int32)) rfl ?_
      refine g_icmp_lt X B is3_d36 (pcT := 59) (pcF := 39) (by decide) rfl rfl (fun c36_2 => ?_) (fun c36_2 => ?_)
      · exact absurd c36_2 (by decide)
      · refine g_lload X B is3_d39 (pc' := 41) rfl (v := y) rfl ?_
        refine g_aloadN X B is3_d41 (pc' := 42) rfl (v := (.ref o0)) rfl rfl ?_
        refine g_iloadN X B is3_d42 (pc' := 43) rfl (v := (((0 : Int32) + (1 : Int32)) + (-1 : Int32))) rfl ?_
        refine g_laload X B 0 eT Aw (by decide) (by decide) (v := (.long x)) rfl is3_d43 (pc' := 44) rfl ?_
        refine g_lcmp_ge X B is3_d44 is3_d45 (pcT := 59) (pcF := 48) (by decide) rfl rfl (fun c44_3 => ?_) (fun c44_3 => ?_)
        · refine g_aloadN X B is3_d48 (pc' := 49) rfl (v := (.ref o0)) rfl rfl ?_
          refine g_iloadN X B is3_d49 (pc' := 50) rfl (v := (((0 : Int32) + (1 : Int32)) + (-1 : Int32))) rfl ?_
          refine g_iconst X B is3_d50 (pc' := 51) rfl (v := (1 : Int32)) (by decide) ?_
          refine g_iadd X B is3_d51 (pc' := 52) rfl ?_
          refine g_aloadN X B is3_d52 (pc' := 53) rfl (v := (.ref o0)) rfl rfl ?_
          refine g_iloadN X B is3_d53 (pc' := 54) rfl (v := (((0 : Int32) + (1 : Int32)) + (-1 : Int32))) rfl ?_
          refine g_laload X B 0 eT Aw (by decide) (by decide) (v := (.long x)) rfl is3_d54 (pc' := 55) rfl ?_
          refine g_lastore X B 1 eT Aw (by decide) (by decide) is3_d55 (pc' := 56) rfl (fun T1 h1 X1 e1 W1 => ?_)
          have N1 := Fr.snoc X1 N ga
          have A_o0_1 := Aw.set W1
          have Zs_1 := Nat.le_trans Zs (Keep.of_wr W1).1
          have K_1 := K.wr W1 (Or.inl (List.mem_of_getElem? (i := 0) rfl))
          refine g_goto X1 B is3_d56 (pc' := 31) (by decide) rfl ?_
          refine g_iinc X1 B is3_d31 (pc' := 34) rfl (v := (((0 : Int32) + (1 : Int32)) + (-1 : Int32))) rfl (Ls' := #[.val (.ref o0), .val (.int (0 : Int32)), .val (.int (3 : Int32)), .val (.int ((((0 : Int32) + (1 : Int32)) + (-1 : Int32)) + (-1 : Int32))), .val (.int ((0 : Int32) + (1 : Int32))), .val (.long y), .second]) rfl ?_
          refine g_iloadN X1 B is3_d34 (pc' := 35) rfl (v := ((((0 : Int32) + (1 : Int32)) + (-1 : Int32)) + (-1 : Int32))) rfl ?_
          refine g_iloadN X1 B is3_d35 (pc' := 36) rfl (v := (0 : Int32)) rfl ?_
          refine g_icmp_lt X1 B is3_d36 (pcT := 59) (pcF := 39) (by decide) rfl rfl (fun c36_4 => ?_) (fun c36_4 => ?_)
          · refine g_aloadN X1 B is3_d59 (pc' := 60) rfl (v := (.ref o0)) rfl rfl ?_
            refine g_iloadN X1 B is3_d60 (pc' := 61) rfl (v := ((((0 : Int32) + (1 : Int32)) + (-1 : Int32)) + (-1 : Int32))) rfl ?_
            refine g_iconst X1 B is3_d61 (pc' := 62) rfl (v := (1 : Int32)) (by decide) ?_
            refine g_iadd X1 B is3_d62 (pc' := 63) rfl ?_
            refine g_lload X1 B is3_d63 (pc' := 65) rfl (v := y) rfl ?_
            refine g_lastore X1 B 0 e1 A_o0_1 (by decide) (by decide) is3_d65 (pc' := 66) rfl (fun T2 h2 X2 e2 W2 => ?_)
            have N2 := Fr.snoc X2 N1 ga
            have A_o0_2 := A_o0_1.set W2
            have Zs_2 := Nat.le_trans Zs_1 (Keep.of_wr W2).1
            have K_2 := K_1.wr W2 (Or.inl (List.mem_of_getElem? (i := 0) rfl))
            refine g_goto X2 B is3_d66 (pc' := 3) (by decide) rfl ?_
            refine g_iinc X2 B is3_d3 (pc' := 6) rfl (v := ((0 : Int32) + (1 : Int32))) rfl (Ls' := #[.val (.ref o0), .val (.int (0 : Int32)), .val (.int (3 : Int32)), .val (.int ((((0 : Int32) + (1 : Int32)) + (-1 : Int32)) + (-1 : Int32))), .val (.int (((0 : Int32) + (1 : Int32)) + (1 : Int32))), .val (.long y), .second]) rfl ?_
            refine g_iload X2 B is3_d6 (pc' := 8) rfl (v := (((0 : Int32) + (1 : Int32)) + (1 : Int32))) rfl ?_
            refine g_iloadN X2 B is3_d8 (pc' := 9) rfl (v := (3 : Int32)) rfl ?_
            refine g_icmp_ge X2 B is3_d9 (pcT := 69) (pcF := 12) (by decide) rfl rfl (fun c9_5 => ?_) (fun c9_5 => ?_)
            · refine g_aloadN X2 B is3_d12 (pc' := 13) rfl (v := (.ref o0)) rfl rfl ?_
              refine g_iload X2 B is3_d13 (pc' := 15) rfl (v := (((0 : Int32) + (1 : Int32)) + (1 : Int32))) rfl ?_
              refine g_dup X2 B is3_d15 (pc' := 16) rfl rfl ?_
              refine g_istoreN X2 B is3_d16 (pc' := 17) rfl (Ls' := #[.val (.ref o0), .val (.int (0 : Int32)), .val (.int (3 : Int32)), .val (.int (((0 : Int32) + (1 : Int32)) + (1 : Int32))), .val (.int (((0 : Int32) + (1 : Int32)) + (1 : Int32))), .val (.long y), .second]) rfl ?_
              refine g_laload X2 B 2 e2 A_o0_2 (by decide) (by decide) (v := (.long z)) rfl is3_d17 (pc' := 18) rfl ?_
              refine g_lstore X2 B is3_d18 (pc' := 20) rfl (Ls' := #[.val (.ref o0), .val (.int (0 : Int32)), .val (.int (3 : Int32)), .val (.int (((0 : Int32) + (1 : Int32)) + (1 : Int32))), .val (.int (((0 : Int32) + (1 : Int32)) + (1 : Int32))), .val (.long z), .second]) rfl ?_
              refine g_lload X2 B is3_d20 (pc' := 22) rfl (v := z) rfl ?_
              refine g_aloadN X2 B is3_d22 (pc' := 23) rfl (v := (.ref o0)) rfl rfl ?_
              refine g_iloadN X2 B is3_d23 (pc' := 24) rfl (v := (((0 : Int32) + (1 : Int32)) + (1 : Int32))) rfl ?_
              refine g_iconst X2 B is3_d24 (pc' := 25) rfl (v := (1 : Int32)) (by decide) ?_
              refine g_isub X2 B is3_d25 (pc' := 26) rfl ?_
              refine g_laload X2 B 1 e2 A_o0_2 (by decide) (by decide) (v := (.long x)) rfl is3_d26 (pc' := 27) rfl ?_
              refine g_lcmp_ge X2 B is3_d27 is3_d28 (pcT := 66) (pcF := 31) (by decide) rfl rfl (fun c27_6 => ?_) (fun c27_6 => ?_)
              · refine g_iinc X2 B is3_d31 (pc' := 34) rfl (v := (((0 : Int32) + (1 : Int32)) + (1 : Int32))) rfl (Ls' := #[.val (.ref o0), .val (.int (0 : Int32)), .val (.int (3 : Int32)), .val (.int ((((0 : Int32) + (1 : Int32)) + (1 : Int32)) + (-1 : Int32))), .val (.int (((0 : Int32) + (1 : Int32)) + (1 : Int32))), .val (.long z), .second]) rfl ?_
                refine g_iloadN X2 B is3_d34 (pc' := 35) rfl (v := ((((0 : Int32) + (1 : Int32)) + (1 : Int32)) + (-1 : Int32))) rfl ?_
                refine g_iloadN X2 B is3_d35 (pc' := 36) rfl (v := (0 : Int32)) rfl ?_
                refine g_icmp_lt X2 B is3_d36 (pcT := 59) (pcF := 39) (by decide) rfl rfl (fun c36_7 => ?_) (fun c36_7 => ?_)
                · exact absurd c36_7 (by decide)
                · refine g_lload X2 B is3_d39 (pc' := 41) rfl (v := z) rfl ?_
                  refine g_aloadN X2 B is3_d41 (pc' := 42) rfl (v := (.ref o0)) rfl rfl ?_
                  refine g_iloadN X2 B is3_d42 (pc' := 43) rfl (v := ((((0 : Int32) + (1 : Int32)) + (1 : Int32)) + (-1 : Int32))) rfl ?_
                  refine g_laload X2 B 1 e2 A_o0_2 (by decide) (by decide) (v := (.long x)) rfl is3_d43 (pc' := 44) rfl ?_
                  refine g_lcmp_ge X2 B is3_d44 is3_d45 (pcT := 59) (pcF := 48) (by decide) rfl rfl (fun c44_8 => ?_) (fun c44_8 => ?_)
                  · refine g_aloadN X2 B is3_d48 (pc' := 49) rfl (v := (.ref o0)) rfl rfl ?_
                    refine g_iloadN X2 B is3_d49 (pc' := 50) rfl (v := ((((0 : Int32) + (1 : Int32)) + (1 : Int32)) + (-1 : Int32))) rfl ?_
                    refine g_iconst X2 B is3_d50 (pc' := 51) rfl (v := (1 : Int32)) (by decide) ?_
                    refine g_iadd X2 B is3_d51 (pc' := 52) rfl ?_
                    refine g_aloadN X2 B is3_d52 (pc' := 53) rfl (v := (.ref o0)) rfl rfl ?_
                    refine g_iloadN X2 B is3_d53 (pc' := 54) rfl (v := ((((0 : Int32) + (1 : Int32)) + (1 : Int32)) + (-1 : Int32))) rfl ?_
                    refine g_laload X2 B 1 e2 A_o0_2 (by decide) (by decide) (v := (.long x)) rfl is3_d54 (pc' := 55) rfl ?_
                    refine g_lastore X2 B 2 e2 A_o0_2 (by decide) (by decide) is3_d55 (pc' := 56) rfl (fun T3 h3 X3 e3 W3 => ?_)
                    have N3 := Fr.snoc X3 N2 ga
                    have A_o0_3 := A_o0_2.set W3
                    have Zs_3 := Nat.le_trans Zs_2 (Keep.of_wr W3).1
                    have K_3 := K_2.wr W3 (Or.inl (List.mem_of_getElem? (i := 0) rfl))
                    refine g_goto X3 B is3_d56 (pc' := 31) (by decide) rfl ?_
                    refine g_iinc X3 B is3_d31 (pc' := 34) rfl (v := ((((0 : Int32) + (1 : Int32)) + (1 : Int32)) + (-1 : Int32))) rfl (Ls' := #[.val (.ref o0), .val (.int (0 : Int32)), .val (.int (3 : Int32)), .val (.int (((((0 : Int32) + (1 : Int32)) + (1 : Int32)) + (-1 : Int32)) + (-1 : Int32))), .val (.int (((0 : Int32) + (1 : Int32)) + (1 : Int32))), .val (.long z), .second]) rfl ?_
                    refine g_iloadN X3 B is3_d34 (pc' := 35) rfl (v := (((((0 : Int32) + (1 : Int32)) + (1 : Int32)) + (-1 : Int32)) + (-1 : Int32))) rfl ?_
                    refine g_iloadN X3 B is3_d35 (pc' := 36) rfl (v := (0 : Int32)) rfl ?_
                    refine g_icmp_lt X3 B is3_d36 (pcT := 59) (pcF := 39) (by decide) rfl rfl (fun c36_9 => ?_) (fun c36_9 => ?_)
                    · exact absurd c36_9 (by decide)
                    · refine g_lload X3 B is3_d39 (pc' := 41) rfl (v := z) rfl ?_
                      refine g_aloadN X3 B is3_d41 (pc' := 42) rfl (v := (.ref o0)) rfl rfl ?_
                      refine g_iloadN X3 B is3_d42 (pc' := 43) rfl (v := (((((0 : Int32) + (1 : Int32)) + (1 : Int32)) + (-1 : Int32)) + (-1 : Int32))) rfl ?_
                      refine g_laload X3 B 0 e3 A_o0_3 (by decide) (by decide) (v := (.long y)) rfl is3_d43 (pc' := 44) rfl ?_
                      refine g_lcmp_ge X3 B is3_d44 is3_d45 (pcT := 59) (pcF := 48) (by decide) rfl rfl (fun c44_10 => ?_) (fun c44_10 => ?_)
                      · refine g_aloadN X3 B is3_d48 (pc' := 49) rfl (v := (.ref o0)) rfl rfl ?_
                        refine g_iloadN X3 B is3_d49 (pc' := 50) rfl (v := (((((0 : Int32) + (1 : Int32)) + (1 : Int32)) + (-1 : Int32)) + (-1 : Int32))) rfl ?_
                        refine g_iconst X3 B is3_d50 (pc' := 51) rfl (v := (1 : Int32)) (by decide) ?_
                        refine g_iadd X3 B is3_d51 (pc' := 52) rfl ?_
                        refine g_aloadN X3 B is3_d52 (pc' := 53) rfl (v := (.ref o0)) rfl rfl ?_
                        refine g_iloadN X3 B is3_d53 (pc' := 54) rfl (v := (((((0 : Int32) + (1 : Int32)) + (1 : Int32)) + (-1 : Int32)) + (-1 : Int32))) rfl ?_
                        refine g_laload X3 B 0 e3 A_o0_3 (by decide) (by decide) (v := (.long y)) rfl is3_d54 (pc' := 55) rfl ?_
                        refine g_lastore X3 B 1 e3 A_o0_3 (by decide) (by decide) is3_d55 (pc' := 56) rfl (fun T4 h4 X4 e4 W4 => ?_)
                        have N4 := Fr.snoc X4 N3 ga
                        have A_o0_4 := A_o0_3.set W4
                        have Zs_4 := Nat.le_trans Zs_3 (Keep.of_wr W4).1
                        have K_4 := K_3.wr W4 (Or.inl (List.mem_of_getElem? (i := 0) rfl))
                        refine g_goto X4 B is3_d56 (pc' := 31) (by decide) rfl ?_
                        refine g_iinc X4 B is3_d31 (pc' := 34) rfl (v := (((((0 : Int32) + (1 : Int32)) + (1 : Int32)) + (-1 : Int32)) + (-1 : Int32))) rfl (Ls' := #[.val (.ref o0), .val (.int (0 : Int32)), .val (.int (3 : Int32)), .val (.int ((((((0 : Int32) + (1 : Int32)) + (1 : Int32)) + (-1 : Int32)) + (-1 : Int32)) + (-1 : Int32))), .val (.int (((0 : Int32) + (1 : Int32)) + (1 : Int32))), .val (.long z), .second]) rfl ?_
                        refine g_iloadN X4 B is3_d34 (pc' := 35) rfl (v := ((((((0 : Int32) + (1 : Int32)) + (1 : Int32)) + (-1 : Int32)) + (-1 : Int32)) + (-1 : Int32))) rfl ?_
                        refine g_iloadN X4 B is3_d35 (pc' := 36) rfl (v := (0 : Int32)) rfl ?_
                        refine g_icmp_lt X4 B is3_d36 (pcT := 59) (pcF := 39) (by decide) rfl rfl (fun c36_11 => ?_) (fun c36_11 => ?_)
                        · refine g_aloadN X4 B is3_d59 (pc' := 60) rfl (v := (.ref o0)) rfl rfl ?_
                          refine g_iloadN X4 B is3_d60 (pc' := 61) rfl (v := ((((((0 : Int32) + (1 : Int32)) + (1 : Int32)) + (-1 : Int32)) + (-1 : Int32)) + (-1 : Int32))) rfl ?_
                          refine g_iconst X4 B is3_d61 (pc' := 62) rfl (v := (1 : Int32)) (by decide) ?_
                          refine g_iadd X4 B is3_d62 (pc' := 63) rfl ?_
                          refine g_lload X4 B is3_d63 (pc' := 65) rfl (v := z) rfl ?_
                          refine g_lastore X4 B 0 e4 A_o0_4 (by decide) (by decide) is3_d65 (pc' := 66) rfl (fun T5 h5 X5 e5 W5 => ?_)
                          have N5 := Fr.snoc X5 N4 ga
                          have A_o0_5 := A_o0_4.set W5
                          have Zs_5 := Nat.le_trans Zs_4 (Keep.of_wr W5).1
                          have K_5 := K_4.wr W5 (Or.inl (List.mem_of_getElem? (i := 0) rfl))
                          refine g_goto X5 B is3_d66 (pc' := 3) (by decide) rfl ?_
                          refine g_iinc X5 B is3_d3 (pc' := 6) rfl (v := (((0 : Int32) + (1 : Int32)) + (1 : Int32))) rfl (Ls' := #[.val (.ref o0), .val (.int (0 : Int32)), .val (.int (3 : Int32)), .val (.int ((((((0 : Int32) + (1 : Int32)) + (1 : Int32)) + (-1 : Int32)) + (-1 : Int32)) + (-1 : Int32))), .val (.int ((((0 : Int32) + (1 : Int32)) + (1 : Int32)) + (1 : Int32))), .val (.long z), .second]) rfl ?_
                          refine g_iload X5 B is3_d6 (pc' := 8) rfl (v := ((((0 : Int32) + (1 : Int32)) + (1 : Int32)) + (1 : Int32))) rfl ?_
                          refine g_iloadN X5 B is3_d8 (pc' := 9) rfl (v := (3 : Int32)) rfl ?_
                          refine g_icmp_ge X5 B is3_d9 (pcT := 69) (pcF := 12) (by decide) rfl rfl (fun c9_12 => ?_) (fun c9_12 => ?_)
                          · exact absurd c9_12 (by decide)
                          · have i1 := own_mnI x y; have i2 := own_mnI (mi_f0 x y) z; have i3 := own_mxI x y; have i4 := own_mxI (mx_f0 x y) z; have i5 := own_mnI (mx_f0 x y) z; have i6 := own_mxI (mi_f0 x y) (mi_f0 (mx_f0 x y) z)
                            rw [Int64.lt_iff_toInt_lt] at c27_1 c44_3 c27_6 c44_8 c44_10
                            have u0 : own_lo x y z = z := by unfold own_lo; rw [← Int64.toInt_inj]; omega
                            have u1 : own_md x y z = y := by unfold own_md; rw [← Int64.toInt_inj]; omega
                            have u2 : own_hi x y z = x := by unfold own_hi; rw [← Int64.toInt_inj]; omega
                            rw [u0, u1, u2]
                            exact g_ret0 X5 B rfl is3_d69 (by decide) (by decide) (by rw [e5]; exact ⟨rfl, N5, K_5, A_o0_5.eqw (fun j hj => by have q : j = 0 ∨ j = 1 ∨ j = 2 := (by omega); rcases q with rfl | rfl | rfl <;> first | rfl | simp [own_g3])⟩)
                        · exact absurd (by decide) c36_11
                      · refine g_aloadN X3 B is3_d59 (pc' := 60) rfl (v := (.ref o0)) rfl rfl ?_
                        refine g_iloadN X3 B is3_d60 (pc' := 61) rfl (v := (((((0 : Int32) + (1 : Int32)) + (1 : Int32)) + (-1 : Int32)) + (-1 : Int32))) rfl ?_
                        refine g_iconst X3 B is3_d61 (pc' := 62) rfl (v := (1 : Int32)) (by decide) ?_
                        refine g_iadd X3 B is3_d62 (pc' := 63) rfl ?_
                        refine g_lload X3 B is3_d63 (pc' := 65) rfl (v := z) rfl ?_
                        refine g_lastore X3 B 1 e3 A_o0_3 (by decide) (by decide) is3_d65 (pc' := 66) rfl (fun T6 h6 X6 e6 W6 => ?_)
                        have N6 := Fr.snoc X6 N3 ga
                        have A_o0_6 := A_o0_3.set W6
                        have Zs_6 := Nat.le_trans Zs_3 (Keep.of_wr W6).1
                        have K_6 := K_3.wr W6 (Or.inl (List.mem_of_getElem? (i := 0) rfl))
                        refine g_goto X6 B is3_d66 (pc' := 3) (by decide) rfl ?_
                        refine g_iinc X6 B is3_d3 (pc' := 6) rfl (v := (((0 : Int32) + (1 : Int32)) + (1 : Int32))) rfl (Ls' := #[.val (.ref o0), .val (.int (0 : Int32)), .val (.int (3 : Int32)), .val (.int (((((0 : Int32) + (1 : Int32)) + (1 : Int32)) + (-1 : Int32)) + (-1 : Int32))), .val (.int ((((0 : Int32) + (1 : Int32)) + (1 : Int32)) + (1 : Int32))), .val (.long z), .second]) rfl ?_
                        refine g_iload X6 B is3_d6 (pc' := 8) rfl (v := ((((0 : Int32) + (1 : Int32)) + (1 : Int32)) + (1 : Int32))) rfl ?_
                        refine g_iloadN X6 B is3_d8 (pc' := 9) rfl (v := (3 : Int32)) rfl ?_
                        refine g_icmp_ge X6 B is3_d9 (pcT := 69) (pcF := 12) (by decide) rfl rfl (fun c9_11 => ?_) (fun c9_11 => ?_)
                        · exact absurd c9_11 (by decide)
                        · have i1 := own_mnI x y; have i2 := own_mnI (mi_f0 x y) z; have i3 := own_mxI x y; have i4 := own_mxI (mx_f0 x y) z; have i5 := own_mnI (mx_f0 x y) z; have i6 := own_mxI (mi_f0 x y) (mi_f0 (mx_f0 x y) z)
                          rw [Int64.lt_iff_toInt_lt] at c27_1 c44_3 c27_6 c44_8 c44_10
                          have u0 : own_lo x y z = y := by unfold own_lo; rw [← Int64.toInt_inj]; omega
                          have u1 : own_md x y z = z := by unfold own_md; rw [← Int64.toInt_inj]; omega
                          have u2 : own_hi x y z = x := by unfold own_hi; rw [← Int64.toInt_inj]; omega
                          rw [u0, u1, u2]
                          exact g_ret0 X6 B rfl is3_d69 (by decide) (by decide) (by rw [e6]; exact ⟨rfl, N6, K_6, A_o0_6.eqw (fun j hj => by have q : j = 0 ∨ j = 1 ∨ j = 2 := (by omega); rcases q with rfl | rfl | rfl <;> first | rfl | simp [own_g3])⟩)
                  · refine g_aloadN X2 B is3_d59 (pc' := 60) rfl (v := (.ref o0)) rfl rfl ?_
                    refine g_iloadN X2 B is3_d60 (pc' := 61) rfl (v := ((((0 : Int32) + (1 : Int32)) + (1 : Int32)) + (-1 : Int32))) rfl ?_
                    refine g_iconst X2 B is3_d61 (pc' := 62) rfl (v := (1 : Int32)) (by decide) ?_
                    refine g_iadd X2 B is3_d62 (pc' := 63) rfl ?_
                    refine g_lload X2 B is3_d63 (pc' := 65) rfl (v := z) rfl ?_
                    refine g_lastore X2 B 2 e2 A_o0_2 (by decide) (by decide) is3_d65 (pc' := 66) rfl (fun T7 h7 X7 e7 W7 => ?_)
                    have N7 := Fr.snoc X7 N2 ga
                    have A_o0_7 := A_o0_2.set W7
                    have Zs_7 := Nat.le_trans Zs_2 (Keep.of_wr W7).1
                    have K_7 := K_2.wr W7 (Or.inl (List.mem_of_getElem? (i := 0) rfl))
                    refine g_goto X7 B is3_d66 (pc' := 3) (by decide) rfl ?_
                    refine g_iinc X7 B is3_d3 (pc' := 6) rfl (v := (((0 : Int32) + (1 : Int32)) + (1 : Int32))) rfl (Ls' := #[.val (.ref o0), .val (.int (0 : Int32)), .val (.int (3 : Int32)), .val (.int ((((0 : Int32) + (1 : Int32)) + (1 : Int32)) + (-1 : Int32))), .val (.int ((((0 : Int32) + (1 : Int32)) + (1 : Int32)) + (1 : Int32))), .val (.long z), .second]) rfl ?_
                    refine g_iload X7 B is3_d6 (pc' := 8) rfl (v := ((((0 : Int32) + (1 : Int32)) + (1 : Int32)) + (1 : Int32))) rfl ?_
                    refine g_iloadN X7 B is3_d8 (pc' := 9) rfl (v := (3 : Int32)) rfl ?_
                    refine g_icmp_ge X7 B is3_d9 (pcT := 69) (pcF := 12) (by decide) rfl rfl (fun c9_9 => ?_) (fun c9_9 => ?_)
                    · exact absurd c9_9 (by decide)
                    · have i1 := own_mnI x y; have i2 := own_mnI (mi_f0 x y) z; have i3 := own_mxI x y; have i4 := own_mxI (mx_f0 x y) z; have i5 := own_mnI (mx_f0 x y) z; have i6 := own_mxI (mi_f0 x y) (mi_f0 (mx_f0 x y) z)
                      rw [Int64.lt_iff_toInt_lt] at c27_1 c44_3 c27_6 c44_8
                      have u0 : own_lo x y z = y := by unfold own_lo; rw [← Int64.toInt_inj]; omega
                      have u1 : own_md x y z = x := by unfold own_md; rw [← Int64.toInt_inj]; omega
                      have u2 : own_hi x y z = z := by unfold own_hi; rw [← Int64.toInt_inj]; omega
                      rw [u0, u1, u2]
                      exact g_ret0 X7 B rfl is3_d69 (by decide) (by decide) (by rw [e7]; exact ⟨rfl, N7, K_7, A_o0_7.eqw (fun j hj => by have q : j = 0 ∨ j = 1 ∨ j = 2 := (by omega); rcases q with rfl | rfl | rfl <;> first | rfl | simp [own_g3])⟩)
              · refine g_goto X2 B is3_d66 (pc' := 3) (by decide) rfl ?_
                refine g_iinc X2 B is3_d3 (pc' := 6) rfl (v := (((0 : Int32) + (1 : Int32)) + (1 : Int32))) rfl (Ls' := #[.val (.ref o0), .val (.int (0 : Int32)), .val (.int (3 : Int32)), .val (.int (((0 : Int32) + (1 : Int32)) + (1 : Int32))), .val (.int ((((0 : Int32) + (1 : Int32)) + (1 : Int32)) + (1 : Int32))), .val (.long z), .second]) rfl ?_
                refine g_iload X2 B is3_d6 (pc' := 8) rfl (v := ((((0 : Int32) + (1 : Int32)) + (1 : Int32)) + (1 : Int32))) rfl ?_
                refine g_iloadN X2 B is3_d8 (pc' := 9) rfl (v := (3 : Int32)) rfl ?_
                refine g_icmp_ge X2 B is3_d9 (pcT := 69) (pcF := 12) (by decide) rfl rfl (fun c9_7 => ?_) (fun c9_7 => ?_)
                · exact absurd c9_7 (by decide)
                · have i1 := own_mnI x y; have i2 := own_mnI (mi_f0 x y) z; have i3 := own_mxI x y; have i4 := own_mxI (mx_f0 x y) z; have i5 := own_mnI (mx_f0 x y) z; have i6 := own_mxI (mi_f0 x y) (mi_f0 (mx_f0 x y) z)
                  rw [Int64.lt_iff_toInt_lt] at c27_1 c44_3 c27_6
                  have u0 : own_lo x y z = y := by unfold own_lo; rw [← Int64.toInt_inj]; omega
                  have u1 : own_md x y z = x := by unfold own_md; rw [← Int64.toInt_inj]; omega
                  have u2 : own_hi x y z = z := by unfold own_hi; rw [← Int64.toInt_inj]; omega
                  rw [u0, u1, u2]
                  exact g_ret0 X2 B rfl is3_d69 (by decide) (by decide) (by rw [e2]; exact ⟨rfl, N2, K_2, A_o0_2.eqw (fun j hj => by have q : j = 0 ∨ j = 1 ∨ j = 2 := (by omega); rcases q with rfl | rfl | rfl <;> first | rfl | simp [own_g3])⟩)
            · exact absurd (by decide) c9_5
          · exact absurd (by decide) c36_4
        · refine g_aloadN X B is3_d59 (pc' := 60) rfl (v := (.ref o0)) rfl rfl ?_
          refine g_iloadN X B is3_d60 (pc' := 61) rfl (v := (((0 : Int32) + (1 : Int32)) + (-1 : Int32))) rfl ?_
          refine g_iconst X B is3_d61 (pc' := 62) rfl (v := (1 : Int32)) (by decide) ?_
          refine g_iadd X B is3_d62 (pc' := 63) rfl ?_
          refine g_lload X B is3_d63 (pc' := 65) rfl (v := y) rfl ?_
          refine g_lastore X B 1 eT Aw (by decide) (by decide) is3_d65 (pc' := 66) rfl (fun T8 h8 X8 e8 W8 => ?_)
          have N8 := Fr.snoc X8 N ga
          have A_o0_8 := Aw.set W8
          have Zs_8 := Nat.le_trans Zs (Keep.of_wr W8).1
          have K_8 := K.wr W8 (Or.inl (List.mem_of_getElem? (i := 0) rfl))
          refine g_goto X8 B is3_d66 (pc' := 3) (by decide) rfl ?_
          refine g_iinc X8 B is3_d3 (pc' := 6) rfl (v := ((0 : Int32) + (1 : Int32))) rfl (Ls' := #[.val (.ref o0), .val (.int (0 : Int32)), .val (.int (3 : Int32)), .val (.int (((0 : Int32) + (1 : Int32)) + (-1 : Int32))), .val (.int (((0 : Int32) + (1 : Int32)) + (1 : Int32))), .val (.long y), .second]) rfl ?_
          refine g_iload X8 B is3_d6 (pc' := 8) rfl (v := (((0 : Int32) + (1 : Int32)) + (1 : Int32))) rfl ?_
          refine g_iloadN X8 B is3_d8 (pc' := 9) rfl (v := (3 : Int32)) rfl ?_
          refine g_icmp_ge X8 B is3_d9 (pcT := 69) (pcF := 12) (by decide) rfl rfl (fun c9_4 => ?_) (fun c9_4 => ?_)
          · refine g_aloadN X8 B is3_d12 (pc' := 13) rfl (v := (.ref o0)) rfl rfl ?_
            refine g_iload X8 B is3_d13 (pc' := 15) rfl (v := (((0 : Int32) + (1 : Int32)) + (1 : Int32))) rfl ?_
            refine g_dup X8 B is3_d15 (pc' := 16) rfl rfl ?_
            refine g_istoreN X8 B is3_d16 (pc' := 17) rfl (Ls' := #[.val (.ref o0), .val (.int (0 : Int32)), .val (.int (3 : Int32)), .val (.int (((0 : Int32) + (1 : Int32)) + (1 : Int32))), .val (.int (((0 : Int32) + (1 : Int32)) + (1 : Int32))), .val (.long y), .second]) rfl ?_
            refine g_laload X8 B 2 e8 A_o0_8 (by decide) (by decide) (v := (.long z)) rfl is3_d17 (pc' := 18) rfl ?_
            refine g_lstore X8 B is3_d18 (pc' := 20) rfl (Ls' := #[.val (.ref o0), .val (.int (0 : Int32)), .val (.int (3 : Int32)), .val (.int (((0 : Int32) + (1 : Int32)) + (1 : Int32))), .val (.int (((0 : Int32) + (1 : Int32)) + (1 : Int32))), .val (.long z), .second]) rfl ?_
            refine g_lload X8 B is3_d20 (pc' := 22) rfl (v := z) rfl ?_
            refine g_aloadN X8 B is3_d22 (pc' := 23) rfl (v := (.ref o0)) rfl rfl ?_
            refine g_iloadN X8 B is3_d23 (pc' := 24) rfl (v := (((0 : Int32) + (1 : Int32)) + (1 : Int32))) rfl ?_
            refine g_iconst X8 B is3_d24 (pc' := 25) rfl (v := (1 : Int32)) (by decide) ?_
            refine g_isub X8 B is3_d25 (pc' := 26) rfl ?_
            refine g_laload X8 B 1 e8 A_o0_8 (by decide) (by decide) (v := (.long y)) rfl is3_d26 (pc' := 27) rfl ?_
            refine g_lcmp_ge X8 B is3_d27 is3_d28 (pcT := 66) (pcF := 31) (by decide) rfl rfl (fun c27_5 => ?_) (fun c27_5 => ?_)
            · refine g_iinc X8 B is3_d31 (pc' := 34) rfl (v := (((0 : Int32) + (1 : Int32)) + (1 : Int32))) rfl (Ls' := #[.val (.ref o0), .val (.int (0 : Int32)), .val (.int (3 : Int32)), .val (.int ((((0 : Int32) + (1 : Int32)) + (1 : Int32)) + (-1 : Int32))), .val (.int (((0 : Int32) + (1 : Int32)) + (1 : Int32))), .val (.long z), .second]) rfl ?_
              refine g_iloadN X8 B is3_d34 (pc' := 35) rfl (v := ((((0 : Int32) + (1 : Int32)) + (1 : Int32)) + (-1 : Int32))) rfl ?_
              refine g_iloadN X8 B is3_d35 (pc' := 36) rfl (v := (0 : Int32)) rfl ?_
              refine g_icmp_lt X8 B is3_d36 (pcT := 59) (pcF := 39) (by decide) rfl rfl (fun c36_6 => ?_) (fun c36_6 => ?_)
              · exact absurd c36_6 (by decide)
              · refine g_lload X8 B is3_d39 (pc' := 41) rfl (v := z) rfl ?_
                refine g_aloadN X8 B is3_d41 (pc' := 42) rfl (v := (.ref o0)) rfl rfl ?_
                refine g_iloadN X8 B is3_d42 (pc' := 43) rfl (v := ((((0 : Int32) + (1 : Int32)) + (1 : Int32)) + (-1 : Int32))) rfl ?_
                refine g_laload X8 B 1 e8 A_o0_8 (by decide) (by decide) (v := (.long y)) rfl is3_d43 (pc' := 44) rfl ?_
                refine g_lcmp_ge X8 B is3_d44 is3_d45 (pcT := 59) (pcF := 48) (by decide) rfl rfl (fun c44_7 => ?_) (fun c44_7 => ?_)
                · refine g_aloadN X8 B is3_d48 (pc' := 49) rfl (v := (.ref o0)) rfl rfl ?_
                  refine g_iloadN X8 B is3_d49 (pc' := 50) rfl (v := ((((0 : Int32) + (1 : Int32)) + (1 : Int32)) + (-1 : Int32))) rfl ?_
                  refine g_iconst X8 B is3_d50 (pc' := 51) rfl (v := (1 : Int32)) (by decide) ?_
                  refine g_iadd X8 B is3_d51 (pc' := 52) rfl ?_
                  refine g_aloadN X8 B is3_d52 (pc' := 53) rfl (v := (.ref o0)) rfl rfl ?_
                  refine g_iloadN X8 B is3_d53 (pc' := 54) rfl (v := ((((0 : Int32) + (1 : Int32)) + (1 : Int32)) + (-1 : Int32))) rfl ?_
                  refine g_laload X8 B 1 e8 A_o0_8 (by decide) (by decide) (v := (.long y)) rfl is3_d54 (pc' := 55) rfl ?_
                  refine g_lastore X8 B 2 e8 A_o0_8 (by decide) (by decide) is3_d55 (pc' := 56) rfl (fun T9 h9 X9 e9 W9 => ?_)
                  have N9 := Fr.snoc X9 N8 ga
                  have A_o0_9 := A_o0_8.set W9
                  have Zs_9 := Nat.le_trans Zs_8 (Keep.of_wr W9).1
                  have K_9 := K_8.wr W9 (Or.inl (List.mem_of_getElem? (i := 0) rfl))
                  refine g_goto X9 B is3_d56 (pc' := 31) (by decide) rfl ?_
                  refine g_iinc X9 B is3_d31 (pc' := 34) rfl (v := ((((0 : Int32) + (1 : Int32)) + (1 : Int32)) + (-1 : Int32))) rfl (Ls' := #[.val (.ref o0), .val (.int (0 : Int32)), .val (.int (3 : Int32)), .val (.int (((((0 : Int32) + (1 : Int32)) + (1 : Int32)) + (-1 : Int32)) + (-1 : Int32))), .val (.int (((0 : Int32) + (1 : Int32)) + (1 : Int32))), .val (.long z), .second]) rfl ?_
                  refine g_iloadN X9 B is3_d34 (pc' := 35) rfl (v := (((((0 : Int32) + (1 : Int32)) + (1 : Int32)) + (-1 : Int32)) + (-1 : Int32))) rfl ?_
                  refine g_iloadN X9 B is3_d35 (pc' := 36) rfl (v := (0 : Int32)) rfl ?_
                  refine g_icmp_lt X9 B is3_d36 (pcT := 59) (pcF := 39) (by decide) rfl rfl (fun c36_8 => ?_) (fun c36_8 => ?_)
                  · exact absurd c36_8 (by decide)
                  · refine g_lload X9 B is3_d39 (pc' := 41) rfl (v := z) rfl ?_
                    refine g_aloadN X9 B is3_d41 (pc' := 42) rfl (v := (.ref o0)) rfl rfl ?_
                    refine g_iloadN X9 B is3_d42 (pc' := 43) rfl (v := (((((0 : Int32) + (1 : Int32)) + (1 : Int32)) + (-1 : Int32)) + (-1 : Int32))) rfl ?_
                    refine g_laload X9 B 0 e9 A_o0_9 (by decide) (by decide) (v := (.long x)) rfl is3_d43 (pc' := 44) rfl ?_
                    refine g_lcmp_ge X9 B is3_d44 is3_d45 (pcT := 59) (pcF := 48) (by decide) rfl rfl (fun c44_9 => ?_) (fun c44_9 => ?_)
                    · refine g_aloadN X9 B is3_d48 (pc' := 49) rfl (v := (.ref o0)) rfl rfl ?_
                      refine g_iloadN X9 B is3_d49 (pc' := 50) rfl (v := (((((0 : Int32) + (1 : Int32)) + (1 : Int32)) + (-1 : Int32)) + (-1 : Int32))) rfl ?_
                      refine g_iconst X9 B is3_d50 (pc' := 51) rfl (v := (1 : Int32)) (by decide) ?_
                      refine g_iadd X9 B is3_d51 (pc' := 52) rfl ?_
                      refine g_aloadN X9 B is3_d52 (pc' := 53) rfl (v := (.ref o0)) rfl rfl ?_
                      refine g_iloadN X9 B is3_d53 (pc' := 54) rfl (v := (((((0 : Int32) + (1 : Int32)) + (1 : Int32)) + (-1 : Int32)) + (-1 : Int32))) rfl ?_
                      refine g_laload X9 B 0 e9 A_o0_9 (by decide) (by decide) (v := (.long x)) rfl is3_d54 (pc' := 55) rfl ?_
                      refine g_lastore X9 B 1 e9 A_o0_9 (by decide) (by decide) is3_d55 (pc' := 56) rfl (fun T10 h10 X10 e10 W10 => ?_)
                      have N10 := Fr.snoc X10 N9 ga
                      have A_o0_10 := A_o0_9.set W10
                      have Zs_10 := Nat.le_trans Zs_9 (Keep.of_wr W10).1
                      have K_10 := K_9.wr W10 (Or.inl (List.mem_of_getElem? (i := 0) rfl))
                      refine g_goto X10 B is3_d56 (pc' := 31) (by decide) rfl ?_
                      refine g_iinc X10 B is3_d31 (pc' := 34) rfl (v := (((((0 : Int32) + (1 : Int32)) + (1 : Int32)) + (-1 : Int32)) + (-1 : Int32))) rfl (Ls' := #[.val (.ref o0), .val (.int (0 : Int32)), .val (.int (3 : Int32)), .val (.int ((((((0 : Int32) + (1 : Int32)) + (1 : Int32)) + (-1 : Int32)) + (-1 : Int32)) + (-1 : Int32))), .val (.int (((0 : Int32) + (1 : Int32)) + (1 : Int32))), .val (.long z), .second]) rfl ?_
                      refine g_iloadN X10 B is3_d34 (pc' := 35) rfl (v := ((((((0 : Int32) + (1 : Int32)) + (1 : Int32)) + (-1 : Int32)) + (-1 : Int32)) + (-1 : Int32))) rfl ?_
                      refine g_iloadN X10 B is3_d35 (pc' := 36) rfl (v := (0 : Int32)) rfl ?_
                      refine g_icmp_lt X10 B is3_d36 (pcT := 59) (pcF := 39) (by decide) rfl rfl (fun c36_10 => ?_) (fun c36_10 => ?_)
                      · refine g_aloadN X10 B is3_d59 (pc' := 60) rfl (v := (.ref o0)) rfl rfl ?_
                        refine g_iloadN X10 B is3_d60 (pc' := 61) rfl (v := ((((((0 : Int32) + (1 : Int32)) + (1 : Int32)) + (-1 : Int32)) + (-1 : Int32)) + (-1 : Int32))) rfl ?_
                        refine g_iconst X10 B is3_d61 (pc' := 62) rfl (v := (1 : Int32)) (by decide) ?_
                        refine g_iadd X10 B is3_d62 (pc' := 63) rfl ?_
                        refine g_lload X10 B is3_d63 (pc' := 65) rfl (v := z) rfl ?_
                        refine g_lastore X10 B 0 e10 A_o0_10 (by decide) (by decide) is3_d65 (pc' := 66) rfl (fun T11 h11 X11 e11 W11 => ?_)
                        have N11 := Fr.snoc X11 N10 ga
                        have A_o0_11 := A_o0_10.set W11
                        have Zs_11 := Nat.le_trans Zs_10 (Keep.of_wr W11).1
                        have K_11 := K_10.wr W11 (Or.inl (List.mem_of_getElem? (i := 0) rfl))
                        refine g_goto X11 B is3_d66 (pc' := 3) (by decide) rfl ?_
                        refine g_iinc X11 B is3_d3 (pc' := 6) rfl (v := (((0 : Int32) + (1 : Int32)) + (1 : Int32))) rfl (Ls' := #[.val (.ref o0), .val (.int (0 : Int32)), .val (.int (3 : Int32)), .val (.int ((((((0 : Int32) + (1 : Int32)) + (1 : Int32)) + (-1 : Int32)) + (-1 : Int32)) + (-1 : Int32))), .val (.int ((((0 : Int32) + (1 : Int32)) + (1 : Int32)) + (1 : Int32))), .val (.long z), .second]) rfl ?_
                        refine g_iload X11 B is3_d6 (pc' := 8) rfl (v := ((((0 : Int32) + (1 : Int32)) + (1 : Int32)) + (1 : Int32))) rfl ?_
                        refine g_iloadN X11 B is3_d8 (pc' := 9) rfl (v := (3 : Int32)) rfl ?_
                        refine g_icmp_ge X11 B is3_d9 (pcT := 69) (pcF := 12) (by decide) rfl rfl (fun c9_11 => ?_) (fun c9_11 => ?_)
                        · exact absurd c9_11 (by decide)
                        · have i1 := own_mnI x y; have i2 := own_mnI (mi_f0 x y) z; have i3 := own_mxI x y; have i4 := own_mxI (mx_f0 x y) z; have i5 := own_mnI (mx_f0 x y) z; have i6 := own_mxI (mi_f0 x y) (mi_f0 (mx_f0 x y) z)
                          rw [Int64.lt_iff_toInt_lt] at c27_1 c44_3 c27_5 c44_7 c44_9
                          have u0 : own_lo x y z = z := by unfold own_lo; rw [← Int64.toInt_inj]; omega
                          have u1 : own_md x y z = x := by unfold own_md; rw [← Int64.toInt_inj]; omega
                          have u2 : own_hi x y z = y := by unfold own_hi; rw [← Int64.toInt_inj]; omega
                          rw [u0, u1, u2]
                          exact g_ret0 X11 B rfl is3_d69 (by decide) (by decide) (by rw [e11]; exact ⟨rfl, N11, K_11, A_o0_11.eqw (fun j hj => by have q : j = 0 ∨ j = 1 ∨ j = 2 := (by omega); rcases q with rfl | rfl | rfl <;> first | rfl | simp [own_g3])⟩)
                      · exact absurd (by decide) c36_10
                    · refine g_aloadN X9 B is3_d59 (pc' := 60) rfl (v := (.ref o0)) rfl rfl ?_
                      refine g_iloadN X9 B is3_d60 (pc' := 61) rfl (v := (((((0 : Int32) + (1 : Int32)) + (1 : Int32)) + (-1 : Int32)) + (-1 : Int32))) rfl ?_
                      refine g_iconst X9 B is3_d61 (pc' := 62) rfl (v := (1 : Int32)) (by decide) ?_
                      refine g_iadd X9 B is3_d62 (pc' := 63) rfl ?_
                      refine g_lload X9 B is3_d63 (pc' := 65) rfl (v := z) rfl ?_
                      refine g_lastore X9 B 1 e9 A_o0_9 (by decide) (by decide) is3_d65 (pc' := 66) rfl (fun T12 h12 X12 e12 W12 => ?_)
                      have N12 := Fr.snoc X12 N9 ga
                      have A_o0_12 := A_o0_9.set W12
                      have Zs_12 := Nat.le_trans Zs_9 (Keep.of_wr W12).1
                      have K_12 := K_9.wr W12 (Or.inl (List.mem_of_getElem? (i := 0) rfl))
                      refine g_goto X12 B is3_d66 (pc' := 3) (by decide) rfl ?_
                      refine g_iinc X12 B is3_d3 (pc' := 6) rfl (v := (((0 : Int32) + (1 : Int32)) + (1 : Int32))) rfl (Ls' := #[.val (.ref o0), .val (.int (0 : Int32)), .val (.int (3 : Int32)), .val (.int (((((0 : Int32) + (1 : Int32)) + (1 : Int32)) + (-1 : Int32)) + (-1 : Int32))), .val (.int ((((0 : Int32) + (1 : Int32)) + (1 : Int32)) + (1 : Int32))), .val (.long z), .second]) rfl ?_
                      refine g_iload X12 B is3_d6 (pc' := 8) rfl (v := ((((0 : Int32) + (1 : Int32)) + (1 : Int32)) + (1 : Int32))) rfl ?_
                      refine g_iloadN X12 B is3_d8 (pc' := 9) rfl (v := (3 : Int32)) rfl ?_
                      refine g_icmp_ge X12 B is3_d9 (pcT := 69) (pcF := 12) (by decide) rfl rfl (fun c9_10 => ?_) (fun c9_10 => ?_)
                      · exact absurd c9_10 (by decide)
                      · have i1 := own_mnI x y; have i2 := own_mnI (mi_f0 x y) z; have i3 := own_mxI x y; have i4 := own_mxI (mx_f0 x y) z; have i5 := own_mnI (mx_f0 x y) z; have i6 := own_mxI (mi_f0 x y) (mi_f0 (mx_f0 x y) z)
                        rw [Int64.lt_iff_toInt_lt] at c27_1 c44_3 c27_5 c44_7 c44_9
                        have u0 : own_lo x y z = x := by unfold own_lo; rw [← Int64.toInt_inj]; omega
                        have u1 : own_md x y z = z := by unfold own_md; rw [← Int64.toInt_inj]; omega
                        have u2 : own_hi x y z = y := by unfold own_hi; rw [← Int64.toInt_inj]; omega
                        rw [u0, u1, u2]
                        exact g_ret0 X12 B rfl is3_d69 (by decide) (by decide) (by rw [e12]; exact ⟨rfl, N12, K_12, A_o0_12.eqw (fun j hj => by have q : j = 0 ∨ j = 1 ∨ j = 2 := (by omega); rcases q with rfl | rfl | rfl <;> first | rfl | simp [own_g3])⟩)
                · refine g_aloadN X8 B is3_d59 (pc' := 60) rfl (v := (.ref o0)) rfl rfl ?_
                  refine g_iloadN X8 B is3_d60 (pc' := 61) rfl (v := ((((0 : Int32) + (1 : Int32)) + (1 : Int32)) + (-1 : Int32))) rfl ?_
                  refine g_iconst X8 B is3_d61 (pc' := 62) rfl (v := (1 : Int32)) (by decide) ?_
                  refine g_iadd X8 B is3_d62 (pc' := 63) rfl ?_
                  refine g_lload X8 B is3_d63 (pc' := 65) rfl (v := z) rfl ?_
                  refine g_lastore X8 B 2 e8 A_o0_8 (by decide) (by decide) is3_d65 (pc' := 66) rfl (fun T13 h13 X13 e13 W13 => ?_)
                  have N13 := Fr.snoc X13 N8 ga
                  have A_o0_13 := A_o0_8.set W13
                  have Zs_13 := Nat.le_trans Zs_8 (Keep.of_wr W13).1
                  have K_13 := K_8.wr W13 (Or.inl (List.mem_of_getElem? (i := 0) rfl))
                  refine g_goto X13 B is3_d66 (pc' := 3) (by decide) rfl ?_
                  refine g_iinc X13 B is3_d3 (pc' := 6) rfl (v := (((0 : Int32) + (1 : Int32)) + (1 : Int32))) rfl (Ls' := #[.val (.ref o0), .val (.int (0 : Int32)), .val (.int (3 : Int32)), .val (.int ((((0 : Int32) + (1 : Int32)) + (1 : Int32)) + (-1 : Int32))), .val (.int ((((0 : Int32) + (1 : Int32)) + (1 : Int32)) + (1 : Int32))), .val (.long z), .second]) rfl ?_
                  refine g_iload X13 B is3_d6 (pc' := 8) rfl (v := ((((0 : Int32) + (1 : Int32)) + (1 : Int32)) + (1 : Int32))) rfl ?_
                  refine g_iloadN X13 B is3_d8 (pc' := 9) rfl (v := (3 : Int32)) rfl ?_
                  refine g_icmp_ge X13 B is3_d9 (pcT := 69) (pcF := 12) (by decide) rfl rfl (fun c9_8 => ?_) (fun c9_8 => ?_)
                  · exact absurd c9_8 (by decide)
                  · have i1 := own_mnI x y; have i2 := own_mnI (mi_f0 x y) z; have i3 := own_mxI x y; have i4 := own_mxI (mx_f0 x y) z; have i5 := own_mnI (mx_f0 x y) z; have i6 := own_mxI (mi_f0 x y) (mi_f0 (mx_f0 x y) z)
                    rw [Int64.lt_iff_toInt_lt] at c27_1 c44_3 c27_5 c44_7
                    have u0 : own_lo x y z = x := by unfold own_lo; rw [← Int64.toInt_inj]; omega
                    have u1 : own_md x y z = y := by unfold own_md; rw [← Int64.toInt_inj]; omega
                    have u2 : own_hi x y z = z := by unfold own_hi; rw [← Int64.toInt_inj]; omega
                    rw [u0, u1, u2]
                    exact g_ret0 X13 B rfl is3_d69 (by decide) (by decide) (by rw [e13]; exact ⟨rfl, N13, K_13, A_o0_13.eqw (fun j hj => by have q : j = 0 ∨ j = 1 ∨ j = 2 := (by omega); rcases q with rfl | rfl | rfl <;> first | rfl | simp [own_g3])⟩)
            · refine g_goto X8 B is3_d66 (pc' := 3) (by decide) rfl ?_
              refine g_iinc X8 B is3_d3 (pc' := 6) rfl (v := (((0 : Int32) + (1 : Int32)) + (1 : Int32))) rfl (Ls' := #[.val (.ref o0), .val (.int (0 : Int32)), .val (.int (3 : Int32)), .val (.int (((0 : Int32) + (1 : Int32)) + (1 : Int32))), .val (.int ((((0 : Int32) + (1 : Int32)) + (1 : Int32)) + (1 : Int32))), .val (.long z), .second]) rfl ?_
              refine g_iload X8 B is3_d6 (pc' := 8) rfl (v := ((((0 : Int32) + (1 : Int32)) + (1 : Int32)) + (1 : Int32))) rfl ?_
              refine g_iloadN X8 B is3_d8 (pc' := 9) rfl (v := (3 : Int32)) rfl ?_
              refine g_icmp_ge X8 B is3_d9 (pcT := 69) (pcF := 12) (by decide) rfl rfl (fun c9_6 => ?_) (fun c9_6 => ?_)
              · exact absurd c9_6 (by decide)
              · have i1 := own_mnI x y; have i2 := own_mnI (mi_f0 x y) z; have i3 := own_mxI x y; have i4 := own_mxI (mx_f0 x y) z; have i5 := own_mnI (mx_f0 x y) z; have i6 := own_mxI (mi_f0 x y) (mi_f0 (mx_f0 x y) z)
                rw [Int64.lt_iff_toInt_lt] at c27_1 c44_3 c27_5
                have u0 : own_lo x y z = x := by unfold own_lo; rw [← Int64.toInt_inj]; omega
                have u1 : own_md x y z = y := by unfold own_md; rw [← Int64.toInt_inj]; omega
                have u2 : own_hi x y z = z := by unfold own_hi; rw [← Int64.toInt_inj]; omega
                rw [u0, u1, u2]
                exact g_ret0 X8 B rfl is3_d69 (by decide) (by decide) (by rw [e8]; exact ⟨rfl, N8, K_8, A_o0_8.eqw (fun j hj => by have q : j = 0 ∨ j = 1 ∨ j = 2 := (by omega); rcases q with rfl | rfl | rfl <;> first | rfl | simp [own_g3])⟩)
          · exact absurd (by decide) c9_4
    · refine g_goto X B is3_d66 (pc' := 3) (by decide) rfl ?_
      refine g_iinc X B is3_d3 (pc' := 6) rfl (v := ((0 : Int32) + (1 : Int32))) rfl (Ls' := #[.val (.ref o0), .val (.int (0 : Int32)), .val (.int (3 : Int32)), .val (.int ((0 : Int32) + (1 : Int32))), .val (.int (((0 : Int32) + (1 : Int32)) + (1 : Int32))), .val (.long y), .second]) rfl ?_
      refine g_iload X B is3_d6 (pc' := 8) rfl (v := (((0 : Int32) + (1 : Int32)) + (1 : Int32))) rfl ?_
      refine g_iloadN X B is3_d8 (pc' := 9) rfl (v := (3 : Int32)) rfl ?_
      refine g_icmp_ge X B is3_d9 (pcT := 69) (pcF := 12) (by decide) rfl rfl (fun c9_2 => ?_) (fun c9_2 => ?_)
      · refine g_aloadN X B is3_d12 (pc' := 13) rfl (v := (.ref o0)) rfl rfl ?_
        refine g_iload X B is3_d13 (pc' := 15) rfl (v := (((0 : Int32) + (1 : Int32)) + (1 : Int32))) rfl ?_
        refine g_dup X B is3_d15 (pc' := 16) rfl rfl ?_
        refine g_istoreN X B is3_d16 (pc' := 17) rfl (Ls' := #[.val (.ref o0), .val (.int (0 : Int32)), .val (.int (3 : Int32)), .val (.int (((0 : Int32) + (1 : Int32)) + (1 : Int32))), .val (.int (((0 : Int32) + (1 : Int32)) + (1 : Int32))), .val (.long y), .second]) rfl ?_
        refine g_laload X B 2 eT Aw (by decide) (by decide) (v := (.long z)) rfl is3_d17 (pc' := 18) rfl ?_
        refine g_lstore X B is3_d18 (pc' := 20) rfl (Ls' := #[.val (.ref o0), .val (.int (0 : Int32)), .val (.int (3 : Int32)), .val (.int (((0 : Int32) + (1 : Int32)) + (1 : Int32))), .val (.int (((0 : Int32) + (1 : Int32)) + (1 : Int32))), .val (.long z), .second]) rfl ?_
        refine g_lload X B is3_d20 (pc' := 22) rfl (v := z) rfl ?_
        refine g_aloadN X B is3_d22 (pc' := 23) rfl (v := (.ref o0)) rfl rfl ?_
        refine g_iloadN X B is3_d23 (pc' := 24) rfl (v := (((0 : Int32) + (1 : Int32)) + (1 : Int32))) rfl ?_
        refine g_iconst X B is3_d24 (pc' := 25) rfl (v := (1 : Int32)) (by decide) ?_
        refine g_isub X B is3_d25 (pc' := 26) rfl ?_
        refine g_laload X B 1 eT Aw (by decide) (by decide) (v := (.long y)) rfl is3_d26 (pc' := 27) rfl ?_
        refine g_lcmp_ge X B is3_d27 is3_d28 (pcT := 66) (pcF := 31) (by decide) rfl rfl (fun c27_3 => ?_) (fun c27_3 => ?_)
        · refine g_iinc X B is3_d31 (pc' := 34) rfl (v := (((0 : Int32) + (1 : Int32)) + (1 : Int32))) rfl (Ls' := #[.val (.ref o0), .val (.int (0 : Int32)), .val (.int (3 : Int32)), .val (.int ((((0 : Int32) + (1 : Int32)) + (1 : Int32)) + (-1 : Int32))), .val (.int (((0 : Int32) + (1 : Int32)) + (1 : Int32))), .val (.long z), .second]) rfl ?_
          refine g_iloadN X B is3_d34 (pc' := 35) rfl (v := ((((0 : Int32) + (1 : Int32)) + (1 : Int32)) + (-1 : Int32))) rfl ?_
          refine g_iloadN X B is3_d35 (pc' := 36) rfl (v := (0 : Int32)) rfl ?_
          refine g_icmp_lt X B is3_d36 (pcT := 59) (pcF := 39) (by decide) rfl rfl (fun c36_4 => ?_) (fun c36_4 => ?_)
          · exact absurd c36_4 (by decide)
          · refine g_lload X B is3_d39 (pc' := 41) rfl (v := z) rfl ?_
            refine g_aloadN X B is3_d41 (pc' := 42) rfl (v := (.ref o0)) rfl rfl ?_
            refine g_iloadN X B is3_d42 (pc' := 43) rfl (v := ((((0 : Int32) + (1 : Int32)) + (1 : Int32)) + (-1 : Int32))) rfl ?_
            refine g_laload X B 1 eT Aw (by decide) (by decide) (v := (.long y)) rfl is3_d43 (pc' := 44) rfl ?_
            refine g_lcmp_ge X B is3_d44 is3_d45 (pcT := 59) (pcF := 48) (by decide) rfl rfl (fun c44_5 => ?_) (fun c44_5 => ?_)
            · refine g_aloadN X B is3_d48 (pc' := 49) rfl (v := (.ref o0)) rfl rfl ?_
              refine g_iloadN X B is3_d49 (pc' := 50) rfl (v := ((((0 : Int32) + (1 : Int32)) + (1 : Int32)) + (-1 : Int32))) rfl ?_
              refine g_iconst X B is3_d50 (pc' := 51) rfl (v := (1 : Int32)) (by decide) ?_
              refine g_iadd X B is3_d51 (pc' := 52) rfl ?_
              refine g_aloadN X B is3_d52 (pc' := 53) rfl (v := (.ref o0)) rfl rfl ?_
              refine g_iloadN X B is3_d53 (pc' := 54) rfl (v := ((((0 : Int32) + (1 : Int32)) + (1 : Int32)) + (-1 : Int32))) rfl ?_
              refine g_laload X B 1 eT Aw (by decide) (by decide) (v := (.long y)) rfl is3_d54 (pc' := 55) rfl ?_
              refine g_lastore X B 2 eT Aw (by decide) (by decide) is3_d55 (pc' := 56) rfl (fun T14 h14 X14 e14 W14 => ?_)
              have N14 := Fr.snoc X14 N ga
              have A_o0_14 := Aw.set W14
              have Zs_14 := Nat.le_trans Zs (Keep.of_wr W14).1
              have K_14 := K.wr W14 (Or.inl (List.mem_of_getElem? (i := 0) rfl))
              refine g_goto X14 B is3_d56 (pc' := 31) (by decide) rfl ?_
              refine g_iinc X14 B is3_d31 (pc' := 34) rfl (v := ((((0 : Int32) + (1 : Int32)) + (1 : Int32)) + (-1 : Int32))) rfl (Ls' := #[.val (.ref o0), .val (.int (0 : Int32)), .val (.int (3 : Int32)), .val (.int (((((0 : Int32) + (1 : Int32)) + (1 : Int32)) + (-1 : Int32)) + (-1 : Int32))), .val (.int (((0 : Int32) + (1 : Int32)) + (1 : Int32))), .val (.long z), .second]) rfl ?_
              refine g_iloadN X14 B is3_d34 (pc' := 35) rfl (v := (((((0 : Int32) + (1 : Int32)) + (1 : Int32)) + (-1 : Int32)) + (-1 : Int32))) rfl ?_
              refine g_iloadN X14 B is3_d35 (pc' := 36) rfl (v := (0 : Int32)) rfl ?_
              refine g_icmp_lt X14 B is3_d36 (pcT := 59) (pcF := 39) (by decide) rfl rfl (fun c36_6 => ?_) (fun c36_6 => ?_)
              · exact absurd c36_6 (by decide)
              · refine g_lload X14 B is3_d39 (pc' := 41) rfl (v := z) rfl ?_
                refine g_aloadN X14 B is3_d41 (pc' := 42) rfl (v := (.ref o0)) rfl rfl ?_
                refine g_iloadN X14 B is3_d42 (pc' := 43) rfl (v := (((((0 : Int32) + (1 : Int32)) + (1 : Int32)) + (-1 : Int32)) + (-1 : Int32))) rfl ?_
                refine g_laload X14 B 0 e14 A_o0_14 (by decide) (by decide) (v := (.long x)) rfl is3_d43 (pc' := 44) rfl ?_
                refine g_lcmp_ge X14 B is3_d44 is3_d45 (pcT := 59) (pcF := 48) (by decide) rfl rfl (fun c44_7 => ?_) (fun c44_7 => ?_)
                · refine g_aloadN X14 B is3_d48 (pc' := 49) rfl (v := (.ref o0)) rfl rfl ?_
                  refine g_iloadN X14 B is3_d49 (pc' := 50) rfl (v := (((((0 : Int32) + (1 : Int32)) + (1 : Int32)) + (-1 : Int32)) + (-1 : Int32))) rfl ?_
                  refine g_iconst X14 B is3_d50 (pc' := 51) rfl (v := (1 : Int32)) (by decide) ?_
                  refine g_iadd X14 B is3_d51 (pc' := 52) rfl ?_
                  refine g_aloadN X14 B is3_d52 (pc' := 53) rfl (v := (.ref o0)) rfl rfl ?_
                  refine g_iloadN X14 B is3_d53 (pc' := 54) rfl (v := (((((0 : Int32) + (1 : Int32)) + (1 : Int32)) + (-1 : Int32)) + (-1 : Int32))) rfl ?_
                  refine g_laload X14 B 0 e14 A_o0_14 (by decide) (by decide) (v := (.long x)) rfl is3_d54 (pc' := 55) rfl ?_
                  refine g_lastore X14 B 1 e14 A_o0_14 (by decide) (by decide) is3_d55 (pc' := 56) rfl (fun T15 h15 X15 e15 W15 => ?_)
                  have N15 := Fr.snoc X15 N14 ga
                  have A_o0_15 := A_o0_14.set W15
                  have Zs_15 := Nat.le_trans Zs_14 (Keep.of_wr W15).1
                  have K_15 := K_14.wr W15 (Or.inl (List.mem_of_getElem? (i := 0) rfl))
                  refine g_goto X15 B is3_d56 (pc' := 31) (by decide) rfl ?_
                  refine g_iinc X15 B is3_d31 (pc' := 34) rfl (v := (((((0 : Int32) + (1 : Int32)) + (1 : Int32)) + (-1 : Int32)) + (-1 : Int32))) rfl (Ls' := #[.val (.ref o0), .val (.int (0 : Int32)), .val (.int (3 : Int32)), .val (.int ((((((0 : Int32) + (1 : Int32)) + (1 : Int32)) + (-1 : Int32)) + (-1 : Int32)) + (-1 : Int32))), .val (.int (((0 : Int32) + (1 : Int32)) + (1 : Int32))), .val (.long z), .second]) rfl ?_
                  refine g_iloadN X15 B is3_d34 (pc' := 35) rfl (v := ((((((0 : Int32) + (1 : Int32)) + (1 : Int32)) + (-1 : Int32)) + (-1 : Int32)) + (-1 : Int32))) rfl ?_
                  refine g_iloadN X15 B is3_d35 (pc' := 36) rfl (v := (0 : Int32)) rfl ?_
                  refine g_icmp_lt X15 B is3_d36 (pcT := 59) (pcF := 39) (by decide) rfl rfl (fun c36_8 => ?_) (fun c36_8 => ?_)
                  · refine g_aloadN X15 B is3_d59 (pc' := 60) rfl (v := (.ref o0)) rfl rfl ?_
                    refine g_iloadN X15 B is3_d60 (pc' := 61) rfl (v := ((((((0 : Int32) + (1 : Int32)) + (1 : Int32)) + (-1 : Int32)) + (-1 : Int32)) + (-1 : Int32))) rfl ?_
                    refine g_iconst X15 B is3_d61 (pc' := 62) rfl (v := (1 : Int32)) (by decide) ?_
                    refine g_iadd X15 B is3_d62 (pc' := 63) rfl ?_
                    refine g_lload X15 B is3_d63 (pc' := 65) rfl (v := z) rfl ?_
                    refine g_lastore X15 B 0 e15 A_o0_15 (by decide) (by decide) is3_d65 (pc' := 66) rfl (fun T16 h16 X16 e16 W16 => ?_)
                    have N16 := Fr.snoc X16 N15 ga
                    have A_o0_16 := A_o0_15.set W16
                    have Zs_16 := Nat.le_trans Zs_15 (Keep.of_wr W16).1
                    have K_16 := K_15.wr W16 (Or.inl (List.mem_of_getElem? (i := 0) rfl))
                    refine g_goto X16 B is3_d66 (pc' := 3) (by decide) rfl ?_
                    refine g_iinc X16 B is3_d3 (pc' := 6) rfl (v := (((0 : Int32) + (1 : Int32)) + (1 : Int32))) rfl (Ls' := #[.val (.ref o0), .val (.int (0 : Int32)), .val (.int (3 : Int32)), .val (.int ((((((0 : Int32) + (1 : Int32)) + (1 : Int32)) + (-1 : Int32)) + (-1 : Int32)) + (-1 : Int32))), .val (.int ((((0 : Int32) + (1 : Int32)) + (1 : Int32)) + (1 : Int32))), .val (.long z), .second]) rfl ?_
                    refine g_iload X16 B is3_d6 (pc' := 8) rfl (v := ((((0 : Int32) + (1 : Int32)) + (1 : Int32)) + (1 : Int32))) rfl ?_
                    refine g_iloadN X16 B is3_d8 (pc' := 9) rfl (v := (3 : Int32)) rfl ?_
                    refine g_icmp_ge X16 B is3_d9 (pcT := 69) (pcF := 12) (by decide) rfl rfl (fun c9_9 => ?_) (fun c9_9 => ?_)
                    · exact absurd c9_9 (by decide)
                    · have i1 := own_mnI x y; have i2 := own_mnI (mi_f0 x y) z; have i3 := own_mxI x y; have i4 := own_mxI (mx_f0 x y) z; have i5 := own_mnI (mx_f0 x y) z; have i6 := own_mxI (mi_f0 x y) (mi_f0 (mx_f0 x y) z)
                      rw [Int64.lt_iff_toInt_lt] at c27_1 c27_3 c44_5 c44_7
                      have u0 : own_lo x y z = z := by unfold own_lo; rw [← Int64.toInt_inj]; omega
                      have u1 : own_md x y z = x := by unfold own_md; rw [← Int64.toInt_inj]; omega
                      have u2 : own_hi x y z = y := by unfold own_hi; rw [← Int64.toInt_inj]; omega
                      rw [u0, u1, u2]
                      exact g_ret0 X16 B rfl is3_d69 (by decide) (by decide) (by rw [e16]; exact ⟨rfl, N16, K_16, A_o0_16.eqw (fun j hj => by have q : j = 0 ∨ j = 1 ∨ j = 2 := (by omega); rcases q with rfl | rfl | rfl <;> first | rfl | simp [own_g3])⟩)
                  · exact absurd (by decide) c36_8
                · refine g_aloadN X14 B is3_d59 (pc' := 60) rfl (v := (.ref o0)) rfl rfl ?_
                  refine g_iloadN X14 B is3_d60 (pc' := 61) rfl (v := (((((0 : Int32) + (1 : Int32)) + (1 : Int32)) + (-1 : Int32)) + (-1 : Int32))) rfl ?_
                  refine g_iconst X14 B is3_d61 (pc' := 62) rfl (v := (1 : Int32)) (by decide) ?_
                  refine g_iadd X14 B is3_d62 (pc' := 63) rfl ?_
                  refine g_lload X14 B is3_d63 (pc' := 65) rfl (v := z) rfl ?_
                  refine g_lastore X14 B 1 e14 A_o0_14 (by decide) (by decide) is3_d65 (pc' := 66) rfl (fun T17 h17 X17 e17 W17 => ?_)
                  have N17 := Fr.snoc X17 N14 ga
                  have A_o0_17 := A_o0_14.set W17
                  have Zs_17 := Nat.le_trans Zs_14 (Keep.of_wr W17).1
                  have K_17 := K_14.wr W17 (Or.inl (List.mem_of_getElem? (i := 0) rfl))
                  refine g_goto X17 B is3_d66 (pc' := 3) (by decide) rfl ?_
                  refine g_iinc X17 B is3_d3 (pc' := 6) rfl (v := (((0 : Int32) + (1 : Int32)) + (1 : Int32))) rfl (Ls' := #[.val (.ref o0), .val (.int (0 : Int32)), .val (.int (3 : Int32)), .val (.int (((((0 : Int32) + (1 : Int32)) + (1 : Int32)) + (-1 : Int32)) + (-1 : Int32))), .val (.int ((((0 : Int32) + (1 : Int32)) + (1 : Int32)) + (1 : Int32))), .val (.long z), .second]) rfl ?_
                  refine g_iload X17 B is3_d6 (pc' := 8) rfl (v := ((((0 : Int32) + (1 : Int32)) + (1 : Int32)) + (1 : Int32))) rfl ?_
                  refine g_iloadN X17 B is3_d8 (pc' := 9) rfl (v := (3 : Int32)) rfl ?_
                  refine g_icmp_ge X17 B is3_d9 (pcT := 69) (pcF := 12) (by decide) rfl rfl (fun c9_8 => ?_) (fun c9_8 => ?_)
                  · exact absurd c9_8 (by decide)
                  · have i1 := own_mnI x y; have i2 := own_mnI (mi_f0 x y) z; have i3 := own_mxI x y; have i4 := own_mxI (mx_f0 x y) z; have i5 := own_mnI (mx_f0 x y) z; have i6 := own_mxI (mi_f0 x y) (mi_f0 (mx_f0 x y) z)
                    rw [Int64.lt_iff_toInt_lt] at c27_1 c27_3 c44_5 c44_7
                    have u0 : own_lo x y z = x := by unfold own_lo; rw [← Int64.toInt_inj]; omega
                    have u1 : own_md x y z = z := by unfold own_md; rw [← Int64.toInt_inj]; omega
                    have u2 : own_hi x y z = y := by unfold own_hi; rw [← Int64.toInt_inj]; omega
                    rw [u0, u1, u2]
                    exact g_ret0 X17 B rfl is3_d69 (by decide) (by decide) (by rw [e17]; exact ⟨rfl, N17, K_17, A_o0_17.eqw (fun j hj => by have q : j = 0 ∨ j = 1 ∨ j = 2 := (by omega); rcases q with rfl | rfl | rfl <;> first | rfl | simp [own_g3])⟩)
            · refine g_aloadN X B is3_d59 (pc' := 60) rfl (v := (.ref o0)) rfl rfl ?_
              refine g_iloadN X B is3_d60 (pc' := 61) rfl (v := ((((0 : Int32) + (1 : Int32)) + (1 : Int32)) + (-1 : Int32))) rfl ?_
              refine g_iconst X B is3_d61 (pc' := 62) rfl (v := (1 : Int32)) (by decide) ?_
              refine g_iadd X B is3_d62 (pc' := 63) rfl ?_
              refine g_lload X B is3_d63 (pc' := 65) rfl (v := z) rfl ?_
              refine g_lastore X B 2 eT Aw (by decide) (by decide) is3_d65 (pc' := 66) rfl (fun T18 h18 X18 e18 W18 => ?_)
              have N18 := Fr.snoc X18 N ga
              have A_o0_18 := Aw.set W18
              have Zs_18 := Nat.le_trans Zs (Keep.of_wr W18).1
              have K_18 := K.wr W18 (Or.inl (List.mem_of_getElem? (i := 0) rfl))
              refine g_goto X18 B is3_d66 (pc' := 3) (by decide) rfl ?_
              refine g_iinc X18 B is3_d3 (pc' := 6) rfl (v := (((0 : Int32) + (1 : Int32)) + (1 : Int32))) rfl (Ls' := #[.val (.ref o0), .val (.int (0 : Int32)), .val (.int (3 : Int32)), .val (.int ((((0 : Int32) + (1 : Int32)) + (1 : Int32)) + (-1 : Int32))), .val (.int ((((0 : Int32) + (1 : Int32)) + (1 : Int32)) + (1 : Int32))), .val (.long z), .second]) rfl ?_
              refine g_iload X18 B is3_d6 (pc' := 8) rfl (v := ((((0 : Int32) + (1 : Int32)) + (1 : Int32)) + (1 : Int32))) rfl ?_
              refine g_iloadN X18 B is3_d8 (pc' := 9) rfl (v := (3 : Int32)) rfl ?_
              refine g_icmp_ge X18 B is3_d9 (pcT := 69) (pcF := 12) (by decide) rfl rfl (fun c9_6 => ?_) (fun c9_6 => ?_)
              · exact absurd c9_6 (by decide)
              · have i1 := own_mnI x y; have i2 := own_mnI (mi_f0 x y) z; have i3 := own_mxI x y; have i4 := own_mxI (mx_f0 x y) z; have i5 := own_mnI (mx_f0 x y) z; have i6 := own_mxI (mi_f0 x y) (mi_f0 (mx_f0 x y) z)
                rw [Int64.lt_iff_toInt_lt] at c27_1 c27_3 c44_5
                have u0 : own_lo x y z = x := by unfold own_lo; rw [← Int64.toInt_inj]; omega
                have u1 : own_md x y z = y := by unfold own_md; rw [← Int64.toInt_inj]; omega
                have u2 : own_hi x y z = z := by unfold own_hi; rw [← Int64.toInt_inj]; omega
                rw [u0, u1, u2]
                exact g_ret0 X18 B rfl is3_d69 (by decide) (by decide) (by rw [e18]; exact ⟨rfl, N18, K_18, A_o0_18.eqw (fun j hj => by have q : j = 0 ∨ j = 1 ∨ j = 2 := (by omega); rcases q with rfl | rfl | rfl <;> first | rfl | simp [own_g3])⟩)
        · refine g_goto X B is3_d66 (pc' := 3) (by decide) rfl ?_
          refine g_iinc X B is3_d3 (pc' := 6) rfl (v := (((0 : Int32) + (1 : Int32)) + (1 : Int32))) rfl (Ls' := #[.val (.ref o0), .val (.int (0 : Int32)), .val (.int (3 : Int32)), .val (.int (((0 : Int32) + (1 : Int32)) + (1 : Int32))), .val (.int ((((0 : Int32) + (1 : Int32)) + (1 : Int32)) + (1 : Int32))), .val (.long z), .second]) rfl ?_
          refine g_iload X B is3_d6 (pc' := 8) rfl (v := ((((0 : Int32) + (1 : Int32)) + (1 : Int32)) + (1 : Int32))) rfl ?_
          refine g_iloadN X B is3_d8 (pc' := 9) rfl (v := (3 : Int32)) rfl ?_
          refine g_icmp_ge X B is3_d9 (pcT := 69) (pcF := 12) (by decide) rfl rfl (fun c9_4 => ?_) (fun c9_4 => ?_)
          · exact absurd c9_4 (by decide)
          · have i1 := own_mnI x y; have i2 := own_mnI (mi_f0 x y) z; have i3 := own_mxI x y; have i4 := own_mxI (mx_f0 x y) z; have i5 := own_mnI (mx_f0 x y) z; have i6 := own_mxI (mi_f0 x y) (mi_f0 (mx_f0 x y) z)
            rw [Int64.lt_iff_toInt_lt] at c27_1 c27_3
            have u0 : own_lo x y z = x := by unfold own_lo; rw [← Int64.toInt_inj]; omega
            have u1 : own_md x y z = y := by unfold own_md; rw [← Int64.toInt_inj]; omega
            have u2 : own_hi x y z = z := by unfold own_hi; rw [← Int64.toInt_inj]; omega
            rw [u0, u1, u2]
            exact g_ret0 X B rfl is3_d69 (by decide) (by decide) (by rw [eT]; exact ⟨rfl, N, K, Aw.eqw (fun j hj => by have q : j = 0 ∨ j = 1 ∨ j = 2 := (by omega); rcases q with rfl | rfl | rfl <;> first | rfl | simp [own_g3])⟩)
      · exact absurd (by decide) c9_2
  · exact absurd (by decide) c9_0
theorem is3_met (l : Launch) (Z : State) (a0 : Array Value) (hw : ∀ d ∈ tables_1, d.before a0 Z = true) (ws : List Jvm.Cond) (h : Heap) (o0 : Addr) (i1 : Int32) (i2 : Int32) (x : Int64) (y : Int64) (z : Int64) (n0 : Nat) (Zs : n0 ≤ h.size) (ga : n0 ≤ o0) (Aw : Ax Z h o0 .long 3 (own_g3 x y z)) (hlo : i1 = (0 : Int32)) (hhi : i2 = (3 : Int32)) :
    Met l Z (⟨"java/util/DualPivotQuicksort", "insertionSort", "([JII)V"⟩ : MethodName) jdk_2529_method_15_code 7 none ws (⟨0, 0, 0, 0⟩ : Room) #[(.ref o0), (.int i1), (.int i2)] h (fun v h2 L => v = none ∧ Fr n0 L ∧ Keep h h2 [o0] ∧ Ax Z h2 o0 .long 3 (own_g3 (own_lo x y z) (own_md x y z) (own_hi x y z))) :=
  met_of own_pn_is3 hw fun p e s m below meth c T X B eT => Go.top (own_ef_is3 m o0 i1 i2) (is3_go X B eT o0 i1 i2 x y z n0 Zs ga Aw hlo hhi)
theorem sa3_d0 : decode jdk_2529_method_13_code 0 = .ok (.iload 4, 2) := by decide +kernel
theorem sa3_d2 : decode jdk_2529_method_13_code 2 = .ok (.iconst 1, 1) := by decide +kernel
theorem sa3_d3 : decode jdk_2529_method_13_code 3 = .ok (.isub, 1) := by decide +kernel
theorem sa3_d4 : decode jdk_2529_method_13_code 4 = .ok (.istore 5, 2) := by decide +kernel
theorem sa3_d6 : decode jdk_2529_method_13_code 6 = .ok (.iload 4, 2) := by decide +kernel
theorem sa3_d8 : decode jdk_2529_method_13_code 8 = .ok (.iload_n 3, 1) := by decide +kernel
theorem sa3_d9 : decode jdk_2529_method_13_code 9 = .ok (.isub, 1) := by decide +kernel
theorem sa3_d10 : decode jdk_2529_method_13_code 10 = .ok (.istore 6, 2) := by decide +kernel
theorem sa3_d12 : decode jdk_2529_method_13_code 12 = .ok (.iload 6, 2) := by decide +kernel
theorem sa3_d14 : decode jdk_2529_method_13_code 14 = .ok (.bipush 65, 2) := by decide +kernel
theorem sa3_d16 : decode jdk_2529_method_13_code 16 = .ok (.iload_n 2, 1) := by decide +kernel
theorem sa3_d17 : decode jdk_2529_method_13_code 17 = .ok (.iadd, 1) := by decide +kernel
theorem sa3_d18 : decode jdk_2529_method_13_code 18 = .ok (.if_icmp .ge 28, 3) := by decide +kernel
theorem sa3_d21 : decode jdk_2529_method_13_code 21 = .ok (.iload_n 2, 1) := by decide +kernel
theorem sa3_d22 : decode jdk_2529_method_13_code 22 = .ok (.iconst 1, 1) := by decide +kernel
theorem sa3_d23 : decode jdk_2529_method_13_code 23 = .ok (.iand, 1) := by decide +kernel
theorem sa3_d24 : decode jdk_2529_method_13_code 24 = .ok (.ifCond .le 22, 3) := by decide +kernel
theorem sa3_d46 : decode jdk_2529_method_13_code 46 = .ok (.iload 6, 2) := by decide +kernel
theorem sa3_d48 : decode jdk_2529_method_13_code 48 = .ok (.bipush 44, 2) := by decide +kernel
theorem sa3_d50 : decode jdk_2529_method_13_code 50 = .ok (.if_icmp .ge 11, 3) := by decide +kernel
theorem sa3_d53 : decode jdk_2529_method_13_code 53 = .ok (.aload_n 1, 1) := by decide +kernel
theorem sa3_d54 : decode jdk_2529_method_13_code 54 = .ok (.iload_n 3, 1) := by decide +kernel
theorem sa3_d55 : decode jdk_2529_method_13_code 55 = .ok (.iload 4, 2) := by decide +kernel
theorem sa3_d57 : decode jdk_2529_method_13_code 57 = .ok (.invokestatic 105, 3) := by decide +kernel
theorem sa3_d60 : decode jdk_2529_method_13_code 60 = .ok (.return_, 1) := by decide +kernel
theorem own_pn_sa3 : plainFor (⟨"java/util/DualPivotQuicksort", "sort", "(Ljava/util/DualPivotQuicksort$Sorter;[JIII)V"⟩ : MethodName) = true := plainFor_of_name (by first | (simp [plainName, overriddenIn]; done) | decide +kernel)
theorem own_ef_sa3 (m : MethodId) (o1 : Addr) (i2 : Int32) (i3 : Int32) (i4 : Int32) : entryFrame m #[.null, (.ref o1), (.int i2), (.int i3), (.int i4)] 25 = (mkF m 0 #[.val .null, .val (.ref o1), .val (.int i2), .val (.int i3), .val (.int i4), .unset, .unset, .unset, .unset, .unset, .unset, .unset, .unset, .unset, .unset, .unset, .unset, .unset, .unset, .unset, .unset, .unset, .unset, .unset, .unset] []) := by first | (simp [entryFrame, mkF, argsToLocals, Value.category]; done) | rfl
set_option maxRecDepth 65536 in
set_option maxHeartbeats 40000000 in
theorem sa3_go {p : Program} {l : Launch} {e : Env} {s : State} {m : MethodId} {args : Array Value} {below : List Frame} {meth : Method} {c : Code} {T : State} {Z : State} {a0 : Array Value} {h : Heap} (X : Stand p l e (⟨1, 0, 0, 18⟩ : Room) s m args below meth c T [] 0 0) (B : Bdy p s m meth c Z a0 "java/util/DualPivotQuicksort" "sort" jdk_2529_method_13_code 25 none tables_1) (eT : T.heap = h) (o1 : Addr) (i2 : Int32) (i3 : Int32) (i4 : Int32) (x : Int64) (y : Int64) (z : Int64) (n0 : Nat) (Zs : n0 ≤ h.size) (ga : n0 ≤ o1) (Aw : Ax Z h o1 .long 3 (own_g3 x y z)) (hlo : i3 = (0 : Int32)) (hhi : i4 = (3 : Int32)) (hx2 : i2 = (0 : Int32)) :
    Go p e below s 0 0 (fun v h2 L => v = none ∧ Fr n0 L ∧ Keep h h2 [o1] ∧ Ax Z h2 o1 .long 3 (own_g3 (own_lo x y z) (own_md x y z) (own_hi x y z))) (T.setTop (mkF m 0 #[.val .null, .val (.ref o1), .val (.int i2), .val (.int i3), .val (.int i4), .unset, .unset, .unset, .unset, .unset, .unset, .unset, .unset, .unset, .unset, .unset, .unset, .unset, .unset, .unset, .unset, .unset, .unset, .unset, .unset] [])) := by
  have N := Fr.nil n0
  have K := Keep.refl h [o1]
  subst hlo hhi hx2
  refine g_iload X B sa3_d0 (pc' := 2) rfl (v := (3 : Int32)) rfl ?_
  refine g_iconst X B sa3_d2 (pc' := 3) rfl (v := (1 : Int32)) (by decide) ?_
  refine g_isub X B sa3_d3 (pc' := 4) rfl ?_
  refine g_istore X B sa3_d4 (pc' := 6) rfl (Ls' := #[.val .null, .val (.ref o1), .val (.int (0 : Int32)), .val (.int (0 : Int32)), .val (.int (3 : Int32)), .val (.int ((3 : Int32) - (1 : Int32))), .unset, .unset, .unset, .unset, .unset, .unset, .unset, .unset, .unset, .unset, .unset, .unset, .unset, .unset, .unset, .unset, .unset, .unset, .unset]) rfl ?_
  refine g_iload X B sa3_d6 (pc' := 8) rfl (v := (3 : Int32)) rfl ?_
  refine g_iloadN X B sa3_d8 (pc' := 9) rfl (v := (0 : Int32)) rfl ?_
  refine g_isub X B sa3_d9 (pc' := 10) rfl ?_
  refine g_istore X B sa3_d10 (pc' := 12) rfl (Ls' := #[.val .null, .val (.ref o1), .val (.int (0 : Int32)), .val (.int (0 : Int32)), .val (.int (3 : Int32)), .val (.int ((3 : Int32) - (1 : Int32))), .val (.int ((3 : Int32) - (0 : Int32))), .unset, .unset, .unset, .unset, .unset, .unset, .unset, .unset, .unset, .unset, .unset, .unset, .unset, .unset, .unset, .unset, .unset, .unset]) rfl ?_
  refine g_iload X B sa3_d12 (pc' := 14) rfl (v := ((3 : Int32) - (0 : Int32))) rfl ?_
  refine g_bipush X B sa3_d14 (pc' := 16) rfl (v := (65 : Int32)) (by decide) ?_
  refine g_iloadN X B sa3_d16 (pc' := 17) rfl (v := (0 : Int32)) rfl ?_
  refine g_iadd X B sa3_d17 (pc' := 18) rfl ?_
  refine g_icmp_ge X B sa3_d18 (pcT := 46) (pcF := 21) (by decide) rfl rfl (fun c18_0 => ?_) (fun c18_0 => ?_)
  · refine g_iloadN X B sa3_d21 (pc' := 22) rfl (v := (0 : Int32)) rfl ?_
    refine g_iconst X B sa3_d22 (pc' := 23) rfl (v := (1 : Int32)) (by decide) ?_
    refine g_iand X B sa3_d23 (pc' := 24) rfl ?_
    refine g_if_le X B sa3_d24 (pcT := 46) (pcF := 27) (by decide) rfl rfl (fun c24_1 => ?_) (fun c24_1 => ?_)
    · exact absurd c24_1 (by decide)
    · refine g_iload X B sa3_d46 (pc' := 48) rfl (v := ((3 : Int32) - (0 : Int32))) rfl ?_
      refine g_bipush X B sa3_d48 (pc' := 50) rfl (v := (44 : Int32)) (by decide) ?_
      refine g_icmp_ge X B sa3_d50 (pcT := 61) (pcF := 53) (by decide) rfl rfl (fun c50_2 => ?_) (fun c50_2 => ?_)
      · refine g_aloadN X B sa3_d53 (pc' := 54) rfl (v := (.ref o1)) rfl rfl ?_
        refine g_iloadN X B sa3_d54 (pc' := 55) rfl (v := (0 : Int32)) rfl ?_
        refine g_iload X B sa3_d55 (pc' := 57) rfl (v := (3 : Int32)) rfl ?_
        refine g_callS X B eT 0 (y := (⟨"java/util/DualPivotQuicksort", "insertionSort", "([JII)V"⟩ : MethodName)) (argsL := [(.ref o1), (.int (0 : Int32)), (.int (3 : Int32))]) (rest := []) (B.w 43 rfl) (B.w 44 rfl) (B.w 38 rfl) (B.w 45 rfl) (by decide) (is3_met l Z a0 B.2.2.1 [] h o1 (0 : Int32) (3 : Int32) x y z n0 Zs ga Aw rfl rfl) (by decide) (by decide) (by decide) (by decide) rfl (lenOf own_pd0 rfl) rfl (Nat.le_of_eq rfl) sa3_d57 (pc' := 60) rfl (fun T1 v1 L1 X1 Q1 => ?_)
        obtain ⟨rfl, Nq1, Kq1, Aq1⟩ := Q1
        have N1 := Fr.app N Nq1
        have Zs_1 := Nat.le_trans Zs Kq1.1
        have K_1 := K.trans Kq1 (by intro x hx; simp only [List.mem_cons, List.not_mem_nil, or_false] at hx; subst hx; exact Or.inl (List.mem_of_getElem? (i := 0) rfl))
        show Go p e below s _ _ _ (T1.setTop (mkF m 60 #[.val .null, .val (.ref o1), .val (.int (0 : Int32)), .val (.int (0 : Int32)), .val (.int (3 : Int32)), .val (.int ((3 : Int32) - (1 : Int32))), .val (.int ((3 : Int32) - (0 : Int32))), .unset, .unset, .unset, .unset, .unset, .unset, .unset, .unset, .unset, .unset, .unset, .unset, .unset, .unset, .unset, .unset, .unset, .unset] []))
        exact g_ret0 X1 B rfl sa3_d60 (by decide) (by decide) ⟨rfl, N1, K_1, Aq1⟩
      · exact absurd (by decide) c50_2
  · exact absurd (by decide) c18_0
theorem sa3_met (l : Launch) (Z : State) (a0 : Array Value) (hw : ∀ d ∈ tables_1, d.before a0 Z = true) (ws : List Jvm.Cond) (h : Heap) (o1 : Addr) (i2 : Int32) (i3 : Int32) (i4 : Int32) (x : Int64) (y : Int64) (z : Int64) (n0 : Nat) (Zs : n0 ≤ h.size) (ga : n0 ≤ o1) (Aw : Ax Z h o1 .long 3 (own_g3 x y z)) (hlo : i3 = (0 : Int32)) (hhi : i4 = (3 : Int32)) (hx2 : i2 = (0 : Int32)) :
    Met l Z (⟨"java/util/DualPivotQuicksort", "sort", "(Ljava/util/DualPivotQuicksort$Sorter;[JIII)V"⟩ : MethodName) jdk_2529_method_13_code 25 none ws (⟨1, 0, 0, 18⟩ : Room) #[.null, (.ref o1), (.int i2), (.int i3), (.int i4)] h (fun v h2 L => v = none ∧ Fr n0 L ∧ Keep h h2 [o1] ∧ Ax Z h2 o1 .long 3 (own_g3 (own_lo x y z) (own_md x y z) (own_hi x y z))) :=
  met_of own_pn_sa3 hw fun p e s m below meth c T X B eT => Go.top (own_ef_sa3 m o1 i2 i3 i4) (sa3_go X B eT o1 i2 i3 i4 x y z n0 Zs ga Aw hlo hhi hx2)
theorem sb3_d0 : decode jdk_2529_method_12_code 0 = .ok (.iload_n 3, 1) := by decide +kernel
theorem sb3_d1 : decode jdk_2529_method_12_code 1 = .ok (.iload_n 2, 1) := by decide +kernel
theorem sb3_d2 : decode jdk_2529_method_12_code 2 = .ok (.isub, 1) := by decide +kernel
theorem sb3_d3 : decode jdk_2529_method_12_code 3 = .ok (.istore 4, 2) := by decide +kernel
theorem sb3_d5 : decode jdk_2529_method_12_code 5 = .ok (.iload_n 1, 1) := by decide +kernel
theorem sb3_d6 : decode jdk_2529_method_12_code 6 = .ok (.iconst 1, 1) := by decide +kernel
theorem sb3_d7 : decode jdk_2529_method_12_code 7 = .ok (.if_icmp .le 61, 3) := by decide +kernel
theorem sb3_d68 : decode jdk_2529_method_12_code 68 = .ok (.aconst_null, 1) := by decide +kernel
theorem sb3_d69 : decode jdk_2529_method_12_code 69 = .ok (.aload_n 0, 1) := by decide +kernel
theorem sb3_d70 : decode jdk_2529_method_12_code 70 = .ok (.iconst 0, 1) := by decide +kernel
theorem sb3_d71 : decode jdk_2529_method_12_code 71 = .ok (.iload_n 2, 1) := by decide +kernel
theorem sb3_d72 : decode jdk_2529_method_12_code 72 = .ok (.iload_n 3, 1) := by decide +kernel
theorem sb3_d73 : decode jdk_2529_method_12_code 73 = .ok (.invokestatic 99, 3) := by decide +kernel
theorem sb3_d76 : decode jdk_2529_method_12_code 76 = .ok (.return_, 1) := by decide +kernel
theorem own_pn_sb3 : plainFor (⟨"java/util/DualPivotQuicksort", "sort", "([JIII)V"⟩ : MethodName) = true := plainFor_of_name (by first | (simp [plainName, overriddenIn]; done) | decide +kernel)
theorem own_ef_sb3 (m : MethodId) (o0 : Addr) (i1 : Int32) (i2 : Int32) (i3 : Int32) : entryFrame m #[(.ref o0), (.int i1), (.int i2), (.int i3)] 7 = (mkF m 0 #[.val (.ref o0), .val (.int i1), .val (.int i2), .val (.int i3), .unset, .unset, .unset] []) := by first | (simp [entryFrame, mkF, argsToLocals, Value.category]; done) | rfl
set_option maxRecDepth 65536 in
set_option maxHeartbeats 40000000 in
theorem sb3_go {p : Program} {l : Launch} {e : Env} {s : State} {m : MethodId} {args : Array Value} {below : List Frame} {meth : Method} {c : Code} {T : State} {Z : State} {a0 : Array Value} {h : Heap} (X : Stand p l e (⟨2, 0, 0, 60⟩ : Room) s m args below meth c T [] 0 0) (B : Bdy p s m meth c Z a0 "java/util/DualPivotQuicksort" "sort" jdk_2529_method_12_code 7 none tables_1) (eT : T.heap = h) (o0 : Addr) (i1 : Int32) (i2 : Int32) (i3 : Int32) (x : Int64) (y : Int64) (z : Int64) (n0 : Nat) (Zs : n0 ≤ h.size) (ga : n0 ≤ o0) (Aw : Ax Z h o0 .long 3 (own_g3 x y z)) (hlo : i2 = (0 : Int32)) (hhi : i3 = (3 : Int32)) (hx1 : i1 = (0 : Int32)) :
    Go p e below s 0 0 (fun v h2 L => v = none ∧ Fr n0 L ∧ Keep h h2 [o0] ∧ Ax Z h2 o0 .long 3 (own_g3 (own_lo x y z) (own_md x y z) (own_hi x y z))) (T.setTop (mkF m 0 #[.val (.ref o0), .val (.int i1), .val (.int i2), .val (.int i3), .unset, .unset, .unset] [])) := by
  have N := Fr.nil n0
  have K := Keep.refl h [o0]
  subst hlo hhi hx1
  refine g_iloadN X B sb3_d0 (pc' := 1) rfl (v := (3 : Int32)) rfl ?_
  refine g_iloadN X B sb3_d1 (pc' := 2) rfl (v := (0 : Int32)) rfl ?_
  refine g_isub X B sb3_d2 (pc' := 3) rfl ?_
  refine g_istore X B sb3_d3 (pc' := 5) rfl (Ls' := #[.val (.ref o0), .val (.int (0 : Int32)), .val (.int (0 : Int32)), .val (.int (3 : Int32)), .val (.int ((3 : Int32) - (0 : Int32))), .unset, .unset]) rfl ?_
  refine g_iloadN X B sb3_d5 (pc' := 6) rfl (v := (0 : Int32)) rfl ?_
  refine g_iconst X B sb3_d6 (pc' := 7) rfl (v := (1 : Int32)) (by decide) ?_
  refine g_icmp_le X B sb3_d7 (pcT := 68) (pcF := 10) (by decide) rfl rfl (fun c7_0 => ?_) (fun c7_0 => ?_)
  · exact absurd c7_0 (by decide)
  · refine g_null X B sb3_d68 (pc' := 69) rfl ?_
    refine g_aloadN X B sb3_d69 (pc' := 70) rfl (v := (.ref o0)) rfl rfl ?_
    refine g_iconst X B sb3_d70 (pc' := 71) rfl (v := (0 : Int32)) (by decide) ?_
    refine g_iloadN X B sb3_d71 (pc' := 72) rfl (v := (0 : Int32)) rfl ?_
    refine g_iloadN X B sb3_d72 (pc' := 73) rfl (v := (3 : Int32)) rfl ?_
    refine g_callS X B eT 0 (y := (⟨"java/util/DualPivotQuicksort", "sort", "(Ljava/util/DualPivotQuicksort$Sorter;[JIII)V"⟩ : MethodName)) (argsL := [.null, (.ref o0), (.int (0 : Int32)), (.int (0 : Int32)), (.int (3 : Int32))]) (rest := []) (B.w 40 rfl) (B.w 41 rfl) (B.w 38 rfl) (B.w 42 rfl) (by decide) (sa3_met l Z a0 B.2.2.1 [] h o0 (0 : Int32) (0 : Int32) (3 : Int32) x y z n0 Zs ga Aw rfl rfl rfl) (by decide) (by decide) (by decide) (by decide) rfl (lenOf own_pd1 rfl) rfl (Nat.le_of_eq rfl) sb3_d73 (pc' := 76) rfl (fun T1 v1 L1 X1 Q1 => ?_)
    obtain ⟨rfl, Nq1, Kq1, Aq1⟩ := Q1
    have N1 := Fr.app N Nq1
    have Zs_1 := Nat.le_trans Zs Kq1.1
    have K_1 := K.trans Kq1 (by intro x hx; simp only [List.mem_cons, List.not_mem_nil, or_false] at hx; subst hx; exact Or.inl (List.mem_of_getElem? (i := 0) rfl))
    show Go p e below s _ _ _ (T1.setTop (mkF m 76 #[.val (.ref o0), .val (.int (0 : Int32)), .val (.int (0 : Int32)), .val (.int (3 : Int32)), .val (.int ((3 : Int32) - (0 : Int32))), .unset, .unset] []))
    exact g_ret0 X1 B rfl sb3_d76 (by decide) (by decide) ⟨rfl, N1, K_1, Aq1⟩
theorem sb3_met (l : Launch) (Z : State) (a0 : Array Value) (hw : ∀ d ∈ tables_1, d.before a0 Z = true) (ws : List Jvm.Cond) (h : Heap) (o0 : Addr) (i1 : Int32) (i2 : Int32) (i3 : Int32) (x : Int64) (y : Int64) (z : Int64) (n0 : Nat) (Zs : n0 ≤ h.size) (ga : n0 ≤ o0) (Aw : Ax Z h o0 .long 3 (own_g3 x y z)) (hlo : i2 = (0 : Int32)) (hhi : i3 = (3 : Int32)) (hx1 : i1 = (0 : Int32)) :
    Met l Z (⟨"java/util/DualPivotQuicksort", "sort", "([JIII)V"⟩ : MethodName) jdk_2529_method_12_code 7 none ws (⟨2, 0, 0, 60⟩ : Room) #[(.ref o0), (.int i1), (.int i2), (.int i3)] h (fun v h2 L => v = none ∧ Fr n0 L ∧ Keep h h2 [o0] ∧ Ax Z h2 o0 .long 3 (own_g3 (own_lo x y z) (own_md x y z) (own_hi x y z))) :=
  met_of own_pn_sb3 hw fun p e s m below meth c T X B eT => Go.top (own_ef_sb3 m o0 i1 i2 i3) (sb3_go X B eT o0 i1 i2 i3 x y z n0 Zs ga Aw hlo hhi hx1)
theorem so3_d0 : decode jdk_65_method_5_code 0 = .ok (.aload_n 0, 1) := by decide +kernel
theorem so3_d1 : decode jdk_65_method_5_code 1 = .ok (.arraylength, 1) := by decide +kernel
theorem so3_d2 : decode jdk_65_method_5_code 2 = .ok (.iload_n 1, 1) := by decide +kernel
theorem so3_d3 : decode jdk_65_method_5_code 3 = .ok (.iload_n 2, 1) := by decide +kernel
theorem so3_d4 : decode jdk_65_method_5_code 4 = .ok (.invokestatic 13, 3) := by decide +kernel
theorem so3_d7 : decode jdk_65_method_5_code 7 = .ok (.aload_n 0, 1) := by decide +kernel
theorem so3_d8 : decode jdk_65_method_5_code 8 = .ok (.iconst 0, 1) := by decide +kernel
theorem so3_d9 : decode jdk_65_method_5_code 9 = .ok (.iload_n 1, 1) := by decide +kernel
theorem so3_d10 : decode jdk_65_method_5_code 10 = .ok (.iload_n 2, 1) := by decide +kernel
theorem so3_d11 : decode jdk_65_method_5_code 11 = .ok (.invokestatic 19, 3) := by decide +kernel
theorem so3_d14 : decode jdk_65_method_5_code 14 = .ok (.return_, 1) := by decide +kernel
theorem own_pn_so3 : plainFor (⟨"java/util/Arrays", "sort", "([JII)V"⟩ : MethodName) = true := by decide +kernel
theorem own_ef_so3 (m : MethodId) (o0 : Addr) (i1 : Int32) (i2 : Int32) : entryFrame m #[(.ref o0), (.int i1), (.int i2)] 3 = (mkF m 0 #[.val (.ref o0), .val (.int i1), .val (.int i2)] []) := by first | (simp [entryFrame, mkF, argsToLocals, Value.category]; done) | rfl
set_option maxRecDepth 65536 in
set_option maxHeartbeats 40000000 in
theorem so3_go {p : Program} {l : Launch} {e : Env} {s : State} {m : MethodId} {args : Array Value} {below : List Frame} {meth : Method} {c : Code} {T : State} {Z : State} {a0 : Array Value} {h : Heap} (X : Stand p l e (⟨3, 0, 0, 90⟩ : Room) s m args below meth c T [] 0 0) (B : Bdy p s m meth c Z a0 "java/util/Arrays" "sort" jdk_65_method_5_code 3 none tables_1) (eT : T.heap = h) (o0 : Addr) (i1 : Int32) (i2 : Int32) (x : Int64) (y : Int64) (z : Int64) (n0 : Nat) (Zs : n0 ≤ h.size) (ga : n0 ≤ o0) (Aw : Ax Z h o0 .long 3 (own_g3 x y z)) (hlo : i1 = (0 : Int32)) (hhi : i2 = (3 : Int32)) :
    Go p e below s 0 0 (fun v h2 L => v = none ∧ Fr n0 L ∧ Keep h h2 [o0] ∧ Ax Z h2 o0 .long 3 (own_g3 (own_lo x y z) (own_md x y z) (own_hi x y z))) (T.setTop (mkF m 0 #[.val (.ref o0), .val (.int i1), .val (.int i2)] [])) := by
  have N := Fr.nil n0
  have K := Keep.refl h [o0]
  subst hlo hhi
  refine g_aloadN X B so3_d0 (pc' := 1) rfl (v := (.ref o0)) rfl rfl ?_
  refine g_arrlen X B (3 : Int32) eT Aw (by decide) so3_d1 (pc' := 2) rfl ?_
  refine g_iloadN X B so3_d2 (pc' := 3) rfl (v := (0 : Int32)) rfl ?_
  refine g_iloadN X B so3_d3 (pc' := 4) rfl (v := (3 : Int32)) rfl ?_
  refine g_callS X B eT 0 (y := (⟨"java/util/Arrays", "rangeCheck", "(III)V"⟩ : MethodName)) (argsL := [(.int (3 : Int32)), (.int (0 : Int32)), (.int (3 : Int32))]) (rest := []) (B.w 33 rfl) (B.w 34 rfl) (B.w 31 rfl) (B.w 35 rfl) (by decide) (rc3_met l Z a0 B.2.2.1 [] h (3 : Int32) (0 : Int32) (3 : Int32) rfl rfl rfl) (by decide) (by decide) (by decide) (by decide) rfl (lenOf own_pd2 rfl) rfl (Nat.le_of_eq rfl) so3_d4 (pc' := 7) rfl (fun T1 v1 L1 X1 Q1 => ?_)
  obtain ⟨rfl, hh1, rfl⟩ := Q1
  rw [List.append_nil] at X1
  show Go p e below s _ _ _ (T1.setTop (mkF m 7 #[.val (.ref o0), .val (.int (0 : Int32)), .val (.int (3 : Int32))] []))
  refine g_aloadN X1 B so3_d7 (pc' := 8) rfl (v := (.ref o0)) rfl rfl ?_
  refine g_iconst X1 B so3_d8 (pc' := 9) rfl (v := (0 : Int32)) (by decide) ?_
  refine g_iloadN X1 B so3_d9 (pc' := 10) rfl (v := (0 : Int32)) rfl ?_
  refine g_iloadN X1 B so3_d10 (pc' := 11) rfl (v := (3 : Int32)) rfl ?_
  refine g_callS X1 B hh1 0 (y := (⟨"java/util/DualPivotQuicksort", "sort", "([JIII)V"⟩ : MethodName)) (argsL := [(.ref o0), (.int (0 : Int32)), (.int (0 : Int32)), (.int (3 : Int32))]) (rest := []) (B.w 36 rfl) (B.w 37 rfl) (B.w 38 rfl) (B.w 39 rfl) (by decide) (sb3_met l Z a0 B.2.2.1 [] h o0 (0 : Int32) (0 : Int32) (3 : Int32) x y z n0 Zs ga Aw rfl rfl rfl) (by decide) (by decide) (by decide) (by decide) rfl (lenOf own_pd3 rfl) rfl (Nat.le_of_eq rfl) so3_d11 (pc' := 14) rfl (fun T2 v2 L2 X2 Q2 => ?_)
  obtain ⟨rfl, Nq2, Kq2, Aq2⟩ := Q2
  have N2 := Fr.app N Nq2
  have Zs_2 := Nat.le_trans Zs Kq2.1
  have K_2 := K.trans Kq2 (by intro x hx; simp only [List.mem_cons, List.not_mem_nil, or_false] at hx; subst hx; exact Or.inl (List.mem_of_getElem? (i := 0) rfl))
  show Go p e below s _ _ _ (T2.setTop (mkF m 14 #[.val (.ref o0), .val (.int (0 : Int32)), .val (.int (3 : Int32))] []))
  exact g_ret0 X2 B rfl so3_d14 (by decide) (by decide) ⟨rfl, N2, K_2, Aq2⟩
theorem so3_met (l : Launch) (Z : State) (a0 : Array Value) (hw : ∀ d ∈ tables_1, d.before a0 Z = true) (ws : List Jvm.Cond) (h : Heap) (o0 : Addr) (i1 : Int32) (i2 : Int32) (x : Int64) (y : Int64) (z : Int64) (n0 : Nat) (Zs : n0 ≤ h.size) (ga : n0 ≤ o0) (Aw : Ax Z h o0 .long 3 (own_g3 x y z)) (hlo : i1 = (0 : Int32)) (hhi : i2 = (3 : Int32)) :
    Met l Z (⟨"java/util/Arrays", "sort", "([JII)V"⟩ : MethodName) jdk_65_method_5_code 3 none ws (⟨3, 0, 0, 90⟩ : Room) #[(.ref o0), (.int i1), (.int i2)] h (fun v h2 L => v = none ∧ Fr n0 L ∧ Keep h h2 [o0] ∧ Ax Z h2 o0 .long 3 (own_g3 (own_lo x y z) (own_md x y z) (own_hi x y z))) :=
  met_of own_pn_so3 hw fun p e s m below meth c T X B eT => Go.top (own_ef_so3 m o0 i1 i2) (so3_go X B eT o0 i1 i2 x y z n0 Zs ga Aw hlo hhi)
theorem rc1_d0 : decode jdk_65_method_30_code 0 = .ok (.iload_n 1, 1) := by decide +kernel
theorem rc1_d1 : decode jdk_65_method_30_code 1 = .ok (.iload_n 2, 1) := by decide +kernel
theorem rc1_d2 : decode jdk_65_method_30_code 2 = .ok (.if_icmp .le 44, 3) := by decide +kernel
theorem rc1_d46 : decode jdk_65_method_30_code 46 = .ok (.iload_n 1, 1) := by decide +kernel
theorem rc1_d47 : decode jdk_65_method_30_code 47 = .ok (.ifCond .ge 12, 3) := by decide +kernel
theorem rc1_d59 : decode jdk_65_method_30_code 59 = .ok (.iload_n 2, 1) := by decide +kernel
theorem rc1_d60 : decode jdk_65_method_30_code 60 = .ok (.iload_n 0, 1) := by decide +kernel
theorem rc1_d61 : decode jdk_65_method_30_code 61 = .ok (.if_icmp .le 12, 3) := by decide +kernel
theorem rc1_d73 : decode jdk_65_method_30_code 73 = .ok (.return_, 1) := by decide +kernel
theorem own_pn_rc1 : plainFor (⟨"java/util/Arrays", "rangeCheck", "(III)V"⟩ : MethodName) = true := by decide +kernel
theorem own_ef_rc1 (m : MethodId) (i0 : Int32) (i1 : Int32) (i2 : Int32) : entryFrame m #[(.int i0), (.int i1), (.int i2)] 3 = (mkF m 0 #[.val (.int i0), .val (.int i1), .val (.int i2)] []) := by first | (simp [entryFrame, mkF, argsToLocals, Value.category]; done) | rfl
set_option maxRecDepth 65536 in
set_option maxHeartbeats 40000000 in
theorem rc1_go {p : Program} {l : Launch} {e : Env} {s : State} {m : MethodId} {args : Array Value} {below : List Frame} {meth : Method} {c : Code} {T : State} {Z : State} {a0 : Array Value} {h : Heap} (X : Stand p l e (⟨0, 0, 0, 0⟩ : Room) s m args below meth c T [] 0 0) (B : Bdy p s m meth c Z a0 "java/util/Arrays" "rangeCheck" jdk_65_method_30_code 3 none tables_1) (eT : T.heap = h) (i0 : Int32) (i1 : Int32) (i2 : Int32)  (h0 : i0 = (1 : Int32)) (h1 : i1 = (0 : Int32)) (h2 : i2 = (1 : Int32)) :
    Go p e below s 0 0 (PQ none h []) (T.setTop (mkF m 0 #[.val (.int i0), .val (.int i1), .val (.int i2)] [])) := by
  subst h0 h1 h2
  refine g_iloadN X B rc1_d0 (pc' := 1) rfl (v := (0 : Int32)) rfl ?_
  refine g_iloadN X B rc1_d1 (pc' := 2) rfl (v := (1 : Int32)) rfl ?_
  refine g_icmp_le X B rc1_d2 (pcT := 46) (pcF := 5) (by decide) rfl rfl (fun c2_0 => ?_) (fun c2_0 => ?_)
  · exact absurd c2_0 (by decide)
  · refine g_iloadN X B rc1_d46 (pc' := 47) rfl (v := (0 : Int32)) rfl ?_
    refine g_if_ge X B rc1_d47 (pcT := 59) (pcF := 50) (by decide) rfl rfl (fun c47_1 => ?_) (fun c47_1 => ?_)
    · exact absurd c47_1 (by decide)
    · refine g_iloadN X B rc1_d59 (pc' := 60) rfl (v := (1 : Int32)) rfl ?_
      refine g_iloadN X B rc1_d60 (pc' := 61) rfl (v := (1 : Int32)) rfl ?_
      refine g_icmp_le X B rc1_d61 (pcT := 73) (pcF := 64) (by decide) rfl rfl (fun c61_2 => ?_) (fun c61_2 => ?_)
      · exact absurd c61_2 (by decide)
      · exact g_ret0 X B rfl rc1_d73 (by decide) (by decide) ⟨rfl, eT, rfl⟩
theorem rc1_met (l : Launch) (Z : State) (a0 : Array Value) (hw : ∀ d ∈ tables_1, d.before a0 Z = true) (ws : List Jvm.Cond) (h : Heap) (i0 : Int32) (i1 : Int32) (i2 : Int32)  (h0 : i0 = (1 : Int32)) (h1 : i1 = (0 : Int32)) (h2 : i2 = (1 : Int32)) :
    Met l Z (⟨"java/util/Arrays", "rangeCheck", "(III)V"⟩ : MethodName) jdk_65_method_30_code 3 none ws (⟨0, 0, 0, 0⟩ : Room) #[(.int i0), (.int i1), (.int i2)] h (PQ none h []) :=
  met_of own_pn_rc1 hw fun p e s m below meth c T X B eT => Go.top (own_ef_rc1 m i0 i1 i2) (rc1_go X B eT i0 i1 i2  h0 h1 h2)
theorem is1_d0 : decode jdk_2529_method_15_code 0 = .ok (.iload_n 1, 1) := by decide +kernel
theorem is1_d1 : decode jdk_2529_method_15_code 1 = .ok (.istore 4, 2) := by decide +kernel
theorem is1_d3 : decode jdk_2529_method_15_code 3 = .ok (.iinc 4 1, 3) := by decide +kernel
theorem is1_d6 : decode jdk_2529_method_15_code 6 = .ok (.iload 4, 2) := by decide +kernel
theorem is1_d8 : decode jdk_2529_method_15_code 8 = .ok (.iload_n 2, 1) := by decide +kernel
theorem is1_d9 : decode jdk_2529_method_15_code 9 = .ok (.if_icmp .ge 60, 3) := by decide +kernel
theorem is1_d69 : decode jdk_2529_method_15_code 69 = .ok (.return_, 1) := by decide +kernel
theorem own_pn_is1 : plainFor (⟨"java/util/DualPivotQuicksort", "insertionSort", "([JII)V"⟩ : MethodName) = true := plainFor_of_name (by first | (simp [plainName, overriddenIn]; done) | decide +kernel)
theorem own_ef_is1 (m : MethodId) (o0 : Addr) (i1 : Int32) (i2 : Int32) : entryFrame m #[(.ref o0), (.int i1), (.int i2)] 7 = (mkF m 0 #[.val (.ref o0), .val (.int i1), .val (.int i2), .unset, .unset, .unset, .unset] []) := by first | (simp [entryFrame, mkF, argsToLocals, Value.category]; done) | rfl
set_option maxRecDepth 65536 in
set_option maxHeartbeats 40000000 in
theorem is1_go {p : Program} {l : Launch} {e : Env} {s : State} {m : MethodId} {args : Array Value} {below : List Frame} {meth : Method} {c : Code} {T : State} {Z : State} {a0 : Array Value} {h : Heap} (X : Stand p l e (⟨0, 0, 0, 0⟩ : Room) s m args below meth c T [] 0 0) (B : Bdy p s m meth c Z a0 "java/util/DualPivotQuicksort" "insertionSort" jdk_2529_method_15_code 7 none tables_1) (eT : T.heap = h) (o0 : Addr) (i1 : Int32) (i2 : Int32) (x : Int64) (y : Int64) (z : Int64) (n0 : Nat) (Zs : n0 ≤ h.size) (ga : n0 ≤ o0) (Aw : Ax Z h o0 .long 1 (own_g3 x y z)) (hlo : i1 = (0 : Int32)) (hhi : i2 = (1 : Int32)) :
    Go p e below s 0 0 (fun v h2 L => v = none ∧ Fr n0 L ∧ Keep h h2 [o0] ∧ Ax Z h2 o0 .long 1 (own_g3 x y z)) (T.setTop (mkF m 0 #[.val (.ref o0), .val (.int i1), .val (.int i2), .unset, .unset, .unset, .unset] [])) := by
  have N := Fr.nil n0
  have K := Keep.refl h [o0]
  subst hlo hhi
  refine g_iloadN X B is1_d0 (pc' := 1) rfl (v := (0 : Int32)) rfl ?_
  refine g_istore X B is1_d1 (pc' := 3) rfl (Ls' := #[.val (.ref o0), .val (.int (0 : Int32)), .val (.int (1 : Int32)), .unset, .val (.int (0 : Int32)), .unset, .unset]) rfl ?_
  refine g_iinc X B is1_d3 (pc' := 6) rfl (v := (0 : Int32)) rfl (Ls' := #[.val (.ref o0), .val (.int (0 : Int32)), .val (.int (1 : Int32)), .unset, .val (.int ((0 : Int32) + (1 : Int32))), .unset, .unset]) rfl ?_
  refine g_iload X B is1_d6 (pc' := 8) rfl (v := ((0 : Int32) + (1 : Int32))) rfl ?_
  refine g_iloadN X B is1_d8 (pc' := 9) rfl (v := (1 : Int32)) rfl ?_
  refine g_icmp_ge X B is1_d9 (pcT := 69) (pcF := 12) (by decide) rfl rfl (fun c9_0 => ?_) (fun c9_0 => ?_)
  · exact absurd c9_0 (by decide)
  · exact g_ret0 X B rfl is1_d69 (by decide) (by decide) (by rw [eT]; exact ⟨rfl, N, K, Aw.eqw (fun j hj => by have q : j = 0 := (by omega); subst q; first | rfl | simp [own_g3])⟩)
theorem is1_met (l : Launch) (Z : State) (a0 : Array Value) (hw : ∀ d ∈ tables_1, d.before a0 Z = true) (ws : List Jvm.Cond) (h : Heap) (o0 : Addr) (i1 : Int32) (i2 : Int32) (x : Int64) (y : Int64) (z : Int64) (n0 : Nat) (Zs : n0 ≤ h.size) (ga : n0 ≤ o0) (Aw : Ax Z h o0 .long 1 (own_g3 x y z)) (hlo : i1 = (0 : Int32)) (hhi : i2 = (1 : Int32)) :
    Met l Z (⟨"java/util/DualPivotQuicksort", "insertionSort", "([JII)V"⟩ : MethodName) jdk_2529_method_15_code 7 none ws (⟨0, 0, 0, 0⟩ : Room) #[(.ref o0), (.int i1), (.int i2)] h (fun v h2 L => v = none ∧ Fr n0 L ∧ Keep h h2 [o0] ∧ Ax Z h2 o0 .long 1 (own_g3 x y z)) :=
  met_of own_pn_is1 hw fun p e s m below meth c T X B eT => Go.top (own_ef_is1 m o0 i1 i2) (is1_go X B eT o0 i1 i2 x y z n0 Zs ga Aw hlo hhi)
theorem sa1_d0 : decode jdk_2529_method_13_code 0 = .ok (.iload 4, 2) := by decide +kernel
theorem sa1_d2 : decode jdk_2529_method_13_code 2 = .ok (.iconst 1, 1) := by decide +kernel
theorem sa1_d3 : decode jdk_2529_method_13_code 3 = .ok (.isub, 1) := by decide +kernel
theorem sa1_d4 : decode jdk_2529_method_13_code 4 = .ok (.istore 5, 2) := by decide +kernel
theorem sa1_d6 : decode jdk_2529_method_13_code 6 = .ok (.iload 4, 2) := by decide +kernel
theorem sa1_d8 : decode jdk_2529_method_13_code 8 = .ok (.iload_n 3, 1) := by decide +kernel
theorem sa1_d9 : decode jdk_2529_method_13_code 9 = .ok (.isub, 1) := by decide +kernel
theorem sa1_d10 : decode jdk_2529_method_13_code 10 = .ok (.istore 6, 2) := by decide +kernel
theorem sa1_d12 : decode jdk_2529_method_13_code 12 = .ok (.iload 6, 2) := by decide +kernel
theorem sa1_d14 : decode jdk_2529_method_13_code 14 = .ok (.bipush 65, 2) := by decide +kernel
theorem sa1_d16 : decode jdk_2529_method_13_code 16 = .ok (.iload_n 2, 1) := by decide +kernel
theorem sa1_d17 : decode jdk_2529_method_13_code 17 = .ok (.iadd, 1) := by decide +kernel
theorem sa1_d18 : decode jdk_2529_method_13_code 18 = .ok (.if_icmp .ge 28, 3) := by decide +kernel
theorem sa1_d21 : decode jdk_2529_method_13_code 21 = .ok (.iload_n 2, 1) := by decide +kernel
theorem sa1_d22 : decode jdk_2529_method_13_code 22 = .ok (.iconst 1, 1) := by decide +kernel
theorem sa1_d23 : decode jdk_2529_method_13_code 23 = .ok (.iand, 1) := by decide +kernel
theorem sa1_d24 : decode jdk_2529_method_13_code 24 = .ok (.ifCond .le 22, 3) := by decide +kernel
theorem sa1_d46 : decode jdk_2529_method_13_code 46 = .ok (.iload 6, 2) := by decide +kernel
theorem sa1_d48 : decode jdk_2529_method_13_code 48 = .ok (.bipush 44, 2) := by decide +kernel
theorem sa1_d50 : decode jdk_2529_method_13_code 50 = .ok (.if_icmp .ge 11, 3) := by decide +kernel
theorem sa1_d53 : decode jdk_2529_method_13_code 53 = .ok (.aload_n 1, 1) := by decide +kernel
theorem sa1_d54 : decode jdk_2529_method_13_code 54 = .ok (.iload_n 3, 1) := by decide +kernel
theorem sa1_d55 : decode jdk_2529_method_13_code 55 = .ok (.iload 4, 2) := by decide +kernel
theorem sa1_d57 : decode jdk_2529_method_13_code 57 = .ok (.invokestatic 105, 3) := by decide +kernel
theorem sa1_d60 : decode jdk_2529_method_13_code 60 = .ok (.return_, 1) := by decide +kernel
theorem own_pn_sa1 : plainFor (⟨"java/util/DualPivotQuicksort", "sort", "(Ljava/util/DualPivotQuicksort$Sorter;[JIII)V"⟩ : MethodName) = true := plainFor_of_name (by first | (simp [plainName, overriddenIn]; done) | decide +kernel)
theorem own_ef_sa1 (m : MethodId) (o1 : Addr) (i2 : Int32) (i3 : Int32) (i4 : Int32) : entryFrame m #[.null, (.ref o1), (.int i2), (.int i3), (.int i4)] 25 = (mkF m 0 #[.val .null, .val (.ref o1), .val (.int i2), .val (.int i3), .val (.int i4), .unset, .unset, .unset, .unset, .unset, .unset, .unset, .unset, .unset, .unset, .unset, .unset, .unset, .unset, .unset, .unset, .unset, .unset, .unset, .unset] []) := by first | (simp [entryFrame, mkF, argsToLocals, Value.category]; done) | rfl
set_option maxRecDepth 65536 in
set_option maxHeartbeats 40000000 in
theorem sa1_go {p : Program} {l : Launch} {e : Env} {s : State} {m : MethodId} {args : Array Value} {below : List Frame} {meth : Method} {c : Code} {T : State} {Z : State} {a0 : Array Value} {h : Heap} (X : Stand p l e (⟨1, 0, 0, 18⟩ : Room) s m args below meth c T [] 0 0) (B : Bdy p s m meth c Z a0 "java/util/DualPivotQuicksort" "sort" jdk_2529_method_13_code 25 none tables_1) (eT : T.heap = h) (o1 : Addr) (i2 : Int32) (i3 : Int32) (i4 : Int32) (x : Int64) (y : Int64) (z : Int64) (n0 : Nat) (Zs : n0 ≤ h.size) (ga : n0 ≤ o1) (Aw : Ax Z h o1 .long 1 (own_g3 x y z)) (hlo : i3 = (0 : Int32)) (hhi : i4 = (1 : Int32)) (hx2 : i2 = (0 : Int32)) :
    Go p e below s 0 0 (fun v h2 L => v = none ∧ Fr n0 L ∧ Keep h h2 [o1] ∧ Ax Z h2 o1 .long 1 (own_g3 x y z)) (T.setTop (mkF m 0 #[.val .null, .val (.ref o1), .val (.int i2), .val (.int i3), .val (.int i4), .unset, .unset, .unset, .unset, .unset, .unset, .unset, .unset, .unset, .unset, .unset, .unset, .unset, .unset, .unset, .unset, .unset, .unset, .unset, .unset] [])) := by
  have N := Fr.nil n0
  have K := Keep.refl h [o1]
  subst hlo hhi hx2
  refine g_iload X B sa1_d0 (pc' := 2) rfl (v := (1 : Int32)) rfl ?_
  refine g_iconst X B sa1_d2 (pc' := 3) rfl (v := (1 : Int32)) (by decide) ?_
  refine g_isub X B sa1_d3 (pc' := 4) rfl ?_
  refine g_istore X B sa1_d4 (pc' := 6) rfl (Ls' := #[.val .null, .val (.ref o1), .val (.int (0 : Int32)), .val (.int (0 : Int32)), .val (.int (1 : Int32)), .val (.int ((1 : Int32) - (1 : Int32))), .unset, .unset, .unset, .unset, .unset, .unset, .unset, .unset, .unset, .unset, .unset, .unset, .unset, .unset, .unset, .unset, .unset, .unset, .unset]) rfl ?_
  refine g_iload X B sa1_d6 (pc' := 8) rfl (v := (1 : Int32)) rfl ?_
  refine g_iloadN X B sa1_d8 (pc' := 9) rfl (v := (0 : Int32)) rfl ?_
  refine g_isub X B sa1_d9 (pc' := 10) rfl ?_
  refine g_istore X B sa1_d10 (pc' := 12) rfl (Ls' := #[.val .null, .val (.ref o1), .val (.int (0 : Int32)), .val (.int (0 : Int32)), .val (.int (1 : Int32)), .val (.int ((1 : Int32) - (1 : Int32))), .val (.int ((1 : Int32) - (0 : Int32))), .unset, .unset, .unset, .unset, .unset, .unset, .unset, .unset, .unset, .unset, .unset, .unset, .unset, .unset, .unset, .unset, .unset, .unset]) rfl ?_
  refine g_iload X B sa1_d12 (pc' := 14) rfl (v := ((1 : Int32) - (0 : Int32))) rfl ?_
  refine g_bipush X B sa1_d14 (pc' := 16) rfl (v := (65 : Int32)) (by decide) ?_
  refine g_iloadN X B sa1_d16 (pc' := 17) rfl (v := (0 : Int32)) rfl ?_
  refine g_iadd X B sa1_d17 (pc' := 18) rfl ?_
  refine g_icmp_ge X B sa1_d18 (pcT := 46) (pcF := 21) (by decide) rfl rfl (fun c18_0 => ?_) (fun c18_0 => ?_)
  · refine g_iloadN X B sa1_d21 (pc' := 22) rfl (v := (0 : Int32)) rfl ?_
    refine g_iconst X B sa1_d22 (pc' := 23) rfl (v := (1 : Int32)) (by decide) ?_
    refine g_iand X B sa1_d23 (pc' := 24) rfl ?_
    refine g_if_le X B sa1_d24 (pcT := 46) (pcF := 27) (by decide) rfl rfl (fun c24_1 => ?_) (fun c24_1 => ?_)
    · exact absurd c24_1 (by decide)
    · refine g_iload X B sa1_d46 (pc' := 48) rfl (v := ((1 : Int32) - (0 : Int32))) rfl ?_
      refine g_bipush X B sa1_d48 (pc' := 50) rfl (v := (44 : Int32)) (by decide) ?_
      refine g_icmp_ge X B sa1_d50 (pcT := 61) (pcF := 53) (by decide) rfl rfl (fun c50_2 => ?_) (fun c50_2 => ?_)
      · refine g_aloadN X B sa1_d53 (pc' := 54) rfl (v := (.ref o1)) rfl rfl ?_
        refine g_iloadN X B sa1_d54 (pc' := 55) rfl (v := (0 : Int32)) rfl ?_
        refine g_iload X B sa1_d55 (pc' := 57) rfl (v := (1 : Int32)) rfl ?_
        refine g_callS X B eT 0 (y := (⟨"java/util/DualPivotQuicksort", "insertionSort", "([JII)V"⟩ : MethodName)) (argsL := [(.ref o1), (.int (0 : Int32)), (.int (1 : Int32))]) (rest := []) (B.w 43 rfl) (B.w 44 rfl) (B.w 38 rfl) (B.w 45 rfl) (by decide) (is1_met l Z a0 B.2.2.1 [] h o1 (0 : Int32) (1 : Int32) x y z n0 Zs ga Aw rfl rfl) (by decide) (by decide) (by decide) (by decide) rfl (lenOf own_pd0 rfl) rfl (Nat.le_of_eq rfl) sa1_d57 (pc' := 60) rfl (fun T1 v1 L1 X1 Q1 => ?_)
        obtain ⟨rfl, Nq1, Kq1, Aq1⟩ := Q1
        have N1 := Fr.app N Nq1
        have Zs_1 := Nat.le_trans Zs Kq1.1
        have K_1 := K.trans Kq1 (by intro x hx; simp only [List.mem_cons, List.not_mem_nil, or_false] at hx; subst hx; exact Or.inl (List.mem_of_getElem? (i := 0) rfl))
        show Go p e below s _ _ _ (T1.setTop (mkF m 60 #[.val .null, .val (.ref o1), .val (.int (0 : Int32)), .val (.int (0 : Int32)), .val (.int (1 : Int32)), .val (.int ((1 : Int32) - (1 : Int32))), .val (.int ((1 : Int32) - (0 : Int32))), .unset, .unset, .unset, .unset, .unset, .unset, .unset, .unset, .unset, .unset, .unset, .unset, .unset, .unset, .unset, .unset, .unset, .unset] []))
        exact g_ret0 X1 B rfl sa1_d60 (by decide) (by decide) ⟨rfl, N1, K_1, Aq1⟩
      · exact absurd (by decide) c50_2
  · exact absurd (by decide) c18_0
theorem sa1_met (l : Launch) (Z : State) (a0 : Array Value) (hw : ∀ d ∈ tables_1, d.before a0 Z = true) (ws : List Jvm.Cond) (h : Heap) (o1 : Addr) (i2 : Int32) (i3 : Int32) (i4 : Int32) (x : Int64) (y : Int64) (z : Int64) (n0 : Nat) (Zs : n0 ≤ h.size) (ga : n0 ≤ o1) (Aw : Ax Z h o1 .long 1 (own_g3 x y z)) (hlo : i3 = (0 : Int32)) (hhi : i4 = (1 : Int32)) (hx2 : i2 = (0 : Int32)) :
    Met l Z (⟨"java/util/DualPivotQuicksort", "sort", "(Ljava/util/DualPivotQuicksort$Sorter;[JIII)V"⟩ : MethodName) jdk_2529_method_13_code 25 none ws (⟨1, 0, 0, 18⟩ : Room) #[.null, (.ref o1), (.int i2), (.int i3), (.int i4)] h (fun v h2 L => v = none ∧ Fr n0 L ∧ Keep h h2 [o1] ∧ Ax Z h2 o1 .long 1 (own_g3 x y z)) :=
  met_of own_pn_sa1 hw fun p e s m below meth c T X B eT => Go.top (own_ef_sa1 m o1 i2 i3 i4) (sa1_go X B eT o1 i2 i3 i4 x y z n0 Zs ga Aw hlo hhi hx2)
theorem sb1_d0 : decode jdk_2529_method_12_code 0 = .ok (.iload_n 3, 1) := by decide +kernel
theorem sb1_d1 : decode jdk_2529_method_12_code 1 = .ok (.iload_n 2, 1) := by decide +kernel
theorem sb1_d2 : decode jdk_2529_method_12_code 2 = .ok (.isub, 1) := by decide +kernel
theorem sb1_d3 : decode jdk_2529_method_12_code 3 = .ok (.istore 4, 2) := by decide +kernel
theorem sb1_d5 : decode jdk_2529_method_12_code 5 = .ok (.iload_n 1, 1) := by decide +kernel
theorem sb1_d6 : decode jdk_2529_method_12_code 6 = .ok (.iconst 1, 1) := by decide +kernel
theorem sb1_d7 : decode jdk_2529_method_12_code 7 = .ok (.if_icmp .le 61, 3) := by decide +kernel
theorem sb1_d68 : decode jdk_2529_method_12_code 68 = .ok (.aconst_null, 1) := by decide +kernel
theorem sb1_d69 : decode jdk_2529_method_12_code 69 = .ok (.aload_n 0, 1) := by decide +kernel
theorem sb1_d70 : decode jdk_2529_method_12_code 70 = .ok (.iconst 0, 1) := by decide +kernel
theorem sb1_d71 : decode jdk_2529_method_12_code 71 = .ok (.iload_n 2, 1) := by decide +kernel
theorem sb1_d72 : decode jdk_2529_method_12_code 72 = .ok (.iload_n 3, 1) := by decide +kernel
theorem sb1_d73 : decode jdk_2529_method_12_code 73 = .ok (.invokestatic 99, 3) := by decide +kernel
theorem sb1_d76 : decode jdk_2529_method_12_code 76 = .ok (.return_, 1) := by decide +kernel
theorem own_pn_sb1 : plainFor (⟨"java/util/DualPivotQuicksort", "sort", "([JIII)V"⟩ : MethodName) = true := plainFor_of_name (by first | (simp [plainName, overriddenIn]; done) | decide +kernel)
theorem own_ef_sb1 (m : MethodId) (o0 : Addr) (i1 : Int32) (i2 : Int32) (i3 : Int32) : entryFrame m #[(.ref o0), (.int i1), (.int i2), (.int i3)] 7 = (mkF m 0 #[.val (.ref o0), .val (.int i1), .val (.int i2), .val (.int i3), .unset, .unset, .unset] []) := by first | (simp [entryFrame, mkF, argsToLocals, Value.category]; done) | rfl
set_option maxRecDepth 65536 in
set_option maxHeartbeats 40000000 in
theorem sb1_go {p : Program} {l : Launch} {e : Env} {s : State} {m : MethodId} {args : Array Value} {below : List Frame} {meth : Method} {c : Code} {T : State} {Z : State} {a0 : Array Value} {h : Heap} (X : Stand p l e (⟨2, 0, 0, 60⟩ : Room) s m args below meth c T [] 0 0) (B : Bdy p s m meth c Z a0 "java/util/DualPivotQuicksort" "sort" jdk_2529_method_12_code 7 none tables_1) (eT : T.heap = h) (o0 : Addr) (i1 : Int32) (i2 : Int32) (i3 : Int32) (x : Int64) (y : Int64) (z : Int64) (n0 : Nat) (Zs : n0 ≤ h.size) (ga : n0 ≤ o0) (Aw : Ax Z h o0 .long 1 (own_g3 x y z)) (hlo : i2 = (0 : Int32)) (hhi : i3 = (1 : Int32)) (hx1 : i1 = (0 : Int32)) :
    Go p e below s 0 0 (fun v h2 L => v = none ∧ Fr n0 L ∧ Keep h h2 [o0] ∧ Ax Z h2 o0 .long 1 (own_g3 x y z)) (T.setTop (mkF m 0 #[.val (.ref o0), .val (.int i1), .val (.int i2), .val (.int i3), .unset, .unset, .unset] [])) := by
  have N := Fr.nil n0
  have K := Keep.refl h [o0]
  subst hlo hhi hx1
  refine g_iloadN X B sb1_d0 (pc' := 1) rfl (v := (1 : Int32)) rfl ?_
  refine g_iloadN X B sb1_d1 (pc' := 2) rfl (v := (0 : Int32)) rfl ?_
  refine g_isub X B sb1_d2 (pc' := 3) rfl ?_
  refine g_istore X B sb1_d3 (pc' := 5) rfl (Ls' := #[.val (.ref o0), .val (.int (0 : Int32)), .val (.int (0 : Int32)), .val (.int (1 : Int32)), .val (.int ((1 : Int32) - (0 : Int32))), .unset, .unset]) rfl ?_
  refine g_iloadN X B sb1_d5 (pc' := 6) rfl (v := (0 : Int32)) rfl ?_
  refine g_iconst X B sb1_d6 (pc' := 7) rfl (v := (1 : Int32)) (by decide) ?_
  refine g_icmp_le X B sb1_d7 (pcT := 68) (pcF := 10) (by decide) rfl rfl (fun c7_0 => ?_) (fun c7_0 => ?_)
  · exact absurd c7_0 (by decide)
  · refine g_null X B sb1_d68 (pc' := 69) rfl ?_
    refine g_aloadN X B sb1_d69 (pc' := 70) rfl (v := (.ref o0)) rfl rfl ?_
    refine g_iconst X B sb1_d70 (pc' := 71) rfl (v := (0 : Int32)) (by decide) ?_
    refine g_iloadN X B sb1_d71 (pc' := 72) rfl (v := (0 : Int32)) rfl ?_
    refine g_iloadN X B sb1_d72 (pc' := 73) rfl (v := (1 : Int32)) rfl ?_
    refine g_callS X B eT 0 (y := (⟨"java/util/DualPivotQuicksort", "sort", "(Ljava/util/DualPivotQuicksort$Sorter;[JIII)V"⟩ : MethodName)) (argsL := [.null, (.ref o0), (.int (0 : Int32)), (.int (0 : Int32)), (.int (1 : Int32))]) (rest := []) (B.w 40 rfl) (B.w 41 rfl) (B.w 38 rfl) (B.w 42 rfl) (by decide) (sa1_met l Z a0 B.2.2.1 [] h o0 (0 : Int32) (0 : Int32) (1 : Int32) x y z n0 Zs ga Aw rfl rfl rfl) (by decide) (by decide) (by decide) (by decide) rfl (lenOf own_pd1 rfl) rfl (Nat.le_of_eq rfl) sb1_d73 (pc' := 76) rfl (fun T1 v1 L1 X1 Q1 => ?_)
    obtain ⟨rfl, Nq1, Kq1, Aq1⟩ := Q1
    have N1 := Fr.app N Nq1
    have Zs_1 := Nat.le_trans Zs Kq1.1
    have K_1 := K.trans Kq1 (by intro x hx; simp only [List.mem_cons, List.not_mem_nil, or_false] at hx; subst hx; exact Or.inl (List.mem_of_getElem? (i := 0) rfl))
    show Go p e below s _ _ _ (T1.setTop (mkF m 76 #[.val (.ref o0), .val (.int (0 : Int32)), .val (.int (0 : Int32)), .val (.int (1 : Int32)), .val (.int ((1 : Int32) - (0 : Int32))), .unset, .unset] []))
    exact g_ret0 X1 B rfl sb1_d76 (by decide) (by decide) ⟨rfl, N1, K_1, Aq1⟩
theorem sb1_met (l : Launch) (Z : State) (a0 : Array Value) (hw : ∀ d ∈ tables_1, d.before a0 Z = true) (ws : List Jvm.Cond) (h : Heap) (o0 : Addr) (i1 : Int32) (i2 : Int32) (i3 : Int32) (x : Int64) (y : Int64) (z : Int64) (n0 : Nat) (Zs : n0 ≤ h.size) (ga : n0 ≤ o0) (Aw : Ax Z h o0 .long 1 (own_g3 x y z)) (hlo : i2 = (0 : Int32)) (hhi : i3 = (1 : Int32)) (hx1 : i1 = (0 : Int32)) :
    Met l Z (⟨"java/util/DualPivotQuicksort", "sort", "([JIII)V"⟩ : MethodName) jdk_2529_method_12_code 7 none ws (⟨2, 0, 0, 60⟩ : Room) #[(.ref o0), (.int i1), (.int i2), (.int i3)] h (fun v h2 L => v = none ∧ Fr n0 L ∧ Keep h h2 [o0] ∧ Ax Z h2 o0 .long 1 (own_g3 x y z)) :=
  met_of own_pn_sb1 hw fun p e s m below meth c T X B eT => Go.top (own_ef_sb1 m o0 i1 i2 i3) (sb1_go X B eT o0 i1 i2 i3 x y z n0 Zs ga Aw hlo hhi hx1)
theorem so1_d0 : decode jdk_65_method_5_code 0 = .ok (.aload_n 0, 1) := by decide +kernel
theorem so1_d1 : decode jdk_65_method_5_code 1 = .ok (.arraylength, 1) := by decide +kernel
theorem so1_d2 : decode jdk_65_method_5_code 2 = .ok (.iload_n 1, 1) := by decide +kernel
theorem so1_d3 : decode jdk_65_method_5_code 3 = .ok (.iload_n 2, 1) := by decide +kernel
theorem so1_d4 : decode jdk_65_method_5_code 4 = .ok (.invokestatic 13, 3) := by decide +kernel
theorem so1_d7 : decode jdk_65_method_5_code 7 = .ok (.aload_n 0, 1) := by decide +kernel
theorem so1_d8 : decode jdk_65_method_5_code 8 = .ok (.iconst 0, 1) := by decide +kernel
theorem so1_d9 : decode jdk_65_method_5_code 9 = .ok (.iload_n 1, 1) := by decide +kernel
theorem so1_d10 : decode jdk_65_method_5_code 10 = .ok (.iload_n 2, 1) := by decide +kernel
theorem so1_d11 : decode jdk_65_method_5_code 11 = .ok (.invokestatic 19, 3) := by decide +kernel
theorem so1_d14 : decode jdk_65_method_5_code 14 = .ok (.return_, 1) := by decide +kernel
theorem own_pn_so1 : plainFor (⟨"java/util/Arrays", "sort", "([JII)V"⟩ : MethodName) = true := by decide +kernel
theorem own_ef_so1 (m : MethodId) (o0 : Addr) (i1 : Int32) (i2 : Int32) : entryFrame m #[(.ref o0), (.int i1), (.int i2)] 3 = (mkF m 0 #[.val (.ref o0), .val (.int i1), .val (.int i2)] []) := by first | (simp [entryFrame, mkF, argsToLocals, Value.category]; done) | rfl
set_option maxRecDepth 65536 in
set_option maxHeartbeats 40000000 in
theorem so1_go {p : Program} {l : Launch} {e : Env} {s : State} {m : MethodId} {args : Array Value} {below : List Frame} {meth : Method} {c : Code} {T : State} {Z : State} {a0 : Array Value} {h : Heap} (X : Stand p l e (⟨3, 0, 0, 90⟩ : Room) s m args below meth c T [] 0 0) (B : Bdy p s m meth c Z a0 "java/util/Arrays" "sort" jdk_65_method_5_code 3 none tables_1) (eT : T.heap = h) (o0 : Addr) (i1 : Int32) (i2 : Int32) (x : Int64) (y : Int64) (z : Int64) (n0 : Nat) (Zs : n0 ≤ h.size) (ga : n0 ≤ o0) (Aw : Ax Z h o0 .long 1 (own_g3 x y z)) (hlo : i1 = (0 : Int32)) (hhi : i2 = (1 : Int32)) :
    Go p e below s 0 0 (fun v h2 L => v = none ∧ Fr n0 L ∧ Keep h h2 [o0] ∧ Ax Z h2 o0 .long 1 (own_g3 x y z)) (T.setTop (mkF m 0 #[.val (.ref o0), .val (.int i1), .val (.int i2)] [])) := by
  have N := Fr.nil n0
  have K := Keep.refl h [o0]
  subst hlo hhi
  refine g_aloadN X B so1_d0 (pc' := 1) rfl (v := (.ref o0)) rfl rfl ?_
  refine g_arrlen X B (1 : Int32) eT Aw (by decide) so1_d1 (pc' := 2) rfl ?_
  refine g_iloadN X B so1_d2 (pc' := 3) rfl (v := (0 : Int32)) rfl ?_
  refine g_iloadN X B so1_d3 (pc' := 4) rfl (v := (1 : Int32)) rfl ?_
  refine g_callS X B eT 0 (y := (⟨"java/util/Arrays", "rangeCheck", "(III)V"⟩ : MethodName)) (argsL := [(.int (1 : Int32)), (.int (0 : Int32)), (.int (1 : Int32))]) (rest := []) (B.w 33 rfl) (B.w 34 rfl) (B.w 31 rfl) (B.w 35 rfl) (by decide) (rc1_met l Z a0 B.2.2.1 [] h (1 : Int32) (0 : Int32) (1 : Int32) rfl rfl rfl) (by decide) (by decide) (by decide) (by decide) rfl (lenOf own_pd2 rfl) rfl (Nat.le_of_eq rfl) so1_d4 (pc' := 7) rfl (fun T1 v1 L1 X1 Q1 => ?_)
  obtain ⟨rfl, hh1, rfl⟩ := Q1
  rw [List.append_nil] at X1
  show Go p e below s _ _ _ (T1.setTop (mkF m 7 #[.val (.ref o0), .val (.int (0 : Int32)), .val (.int (1 : Int32))] []))
  refine g_aloadN X1 B so1_d7 (pc' := 8) rfl (v := (.ref o0)) rfl rfl ?_
  refine g_iconst X1 B so1_d8 (pc' := 9) rfl (v := (0 : Int32)) (by decide) ?_
  refine g_iloadN X1 B so1_d9 (pc' := 10) rfl (v := (0 : Int32)) rfl ?_
  refine g_iloadN X1 B so1_d10 (pc' := 11) rfl (v := (1 : Int32)) rfl ?_
  refine g_callS X1 B hh1 0 (y := (⟨"java/util/DualPivotQuicksort", "sort", "([JIII)V"⟩ : MethodName)) (argsL := [(.ref o0), (.int (0 : Int32)), (.int (0 : Int32)), (.int (1 : Int32))]) (rest := []) (B.w 36 rfl) (B.w 37 rfl) (B.w 38 rfl) (B.w 39 rfl) (by decide) (sb1_met l Z a0 B.2.2.1 [] h o0 (0 : Int32) (0 : Int32) (1 : Int32) x y z n0 Zs ga Aw rfl rfl rfl) (by decide) (by decide) (by decide) (by decide) rfl (lenOf own_pd3 rfl) rfl (Nat.le_of_eq rfl) so1_d11 (pc' := 14) rfl (fun T2 v2 L2 X2 Q2 => ?_)
  obtain ⟨rfl, Nq2, Kq2, Aq2⟩ := Q2
  have N2 := Fr.app N Nq2
  have Zs_2 := Nat.le_trans Zs Kq2.1
  have K_2 := K.trans Kq2 (by intro x hx; simp only [List.mem_cons, List.not_mem_nil, or_false] at hx; subst hx; exact Or.inl (List.mem_of_getElem? (i := 0) rfl))
  show Go p e below s _ _ _ (T2.setTop (mkF m 14 #[.val (.ref o0), .val (.int (0 : Int32)), .val (.int (1 : Int32))] []))
  exact g_ret0 X2 B rfl so1_d14 (by decide) (by decide) ⟨rfl, N2, K_2, Aq2⟩
theorem so1_met (l : Launch) (Z : State) (a0 : Array Value) (hw : ∀ d ∈ tables_1, d.before a0 Z = true) (ws : List Jvm.Cond) (h : Heap) (o0 : Addr) (i1 : Int32) (i2 : Int32) (x : Int64) (y : Int64) (z : Int64) (n0 : Nat) (Zs : n0 ≤ h.size) (ga : n0 ≤ o0) (Aw : Ax Z h o0 .long 1 (own_g3 x y z)) (hlo : i1 = (0 : Int32)) (hhi : i2 = (1 : Int32)) :
    Met l Z (⟨"java/util/Arrays", "sort", "([JII)V"⟩ : MethodName) jdk_65_method_5_code 3 none ws (⟨3, 0, 0, 90⟩ : Room) #[(.ref o0), (.int i1), (.int i2)] h (fun v h2 L => v = none ∧ Fr n0 L ∧ Keep h h2 [o0] ∧ Ax Z h2 o0 .long 1 (own_g3 x y z)) :=
  met_of own_pn_so1 hw fun p e s m below meth c T X B eT => Go.top (own_ef_so1 m o0 i1 i2) (so1_go X B eT o0 i1 i2 x y z n0 Zs ga Aw hlo hhi)
def own_B (Z : State) (h : Heap) (b da : Addr) (cs : List Int32) : Prop := Exa Z h b "java/lang/StringBuilder" ∧ Fld Z h b "java/lang/AbstractStringBuilder" "value" "[B" (.ref da) ∧ Fld Z h b "java/lang/AbstractStringBuilder" "coder" "B" (.int (0 : Int32)) ∧ Fld Z h b "java/lang/AbstractStringBuilder" "count" "I" (.int (Int32.ofNat cs.length)) ∧ ∃ w, Ax Z h da .byte 16 w ∧ own_sg w 0 cs ∧ own_ft w
theorem own_ne {a b n0 : Nat} {k : Nat} (h1 : a < k) (h2 : k ≤ n0) (h3 : n0 ≤ b) : a ≠ b := fun e => by subst e; omega
theorem sz_d0 : decode jdk_35_method_15_code 0 = .ok (.iconst 1, 1) := by decide +kernel
theorem sz_d1 : decode jdk_35_method_15_code 1 = .ok (.istore_n 2, 1) := by decide +kernel
theorem sz_d2 : decode jdk_35_method_15_code 2 = .ok (.lload_n 0, 1) := by decide +kernel
theorem sz_d3 : decode jdk_35_method_15_code 3 = .ok (.lconst 0, 1) := by decide +kernel
theorem sz_d4 : decode jdk_35_method_15_code 4 = .ok (.lcmp, 1) := by decide +kernel
theorem sz_d5 : decode jdk_35_method_15_code 5 = .ok (.ifCond .lt 8, 3) := by decide +kernel
theorem sz_d8 : decode jdk_35_method_15_code 8 = .ok (.iconst 0, 1) := by decide +kernel
theorem sz_d9 : decode jdk_35_method_15_code 9 = .ok (.istore_n 2, 1) := by decide +kernel
theorem sz_d10 : decode jdk_35_method_15_code 10 = .ok (.lload_n 0, 1) := by decide +kernel
theorem sz_d11 : decode jdk_35_method_15_code 11 = .ok (.lneg, 1) := by decide +kernel
theorem sz_d12 : decode jdk_35_method_15_code 12 = .ok (.lstore_n 0, 1) := by decide +kernel
theorem sz_d13 : decode jdk_35_method_15_code 13 = .ok (.ldc2_w 140, 3) := by decide +kernel
theorem sz_d16 : decode jdk_35_method_15_code 16 = .ok (.lstore_n 3, 1) := by decide +kernel
theorem sz_d17 : decode jdk_35_method_15_code 17 = .ok (.iconst 1, 1) := by decide +kernel
theorem sz_d18 : decode jdk_35_method_15_code 18 = .ok (.istore 5, 2) := by decide +kernel
theorem sz_d20 : decode jdk_35_method_15_code 20 = .ok (.iload 5, 2) := by decide +kernel
theorem sz_d22 : decode jdk_35_method_15_code 22 = .ok (.bipush 19, 2) := by decide +kernel
theorem sz_d24 : decode jdk_35_method_15_code 24 = .ok (.if_icmp .ge 26, 3) := by decide +kernel
theorem sz_d27 : decode jdk_35_method_15_code 27 = .ok (.lload_n 0, 1) := by decide +kernel
theorem sz_d28 : decode jdk_35_method_15_code 28 = .ok (.lload_n 3, 1) := by decide +kernel
theorem sz_d29 : decode jdk_35_method_15_code 29 = .ok (.lcmp, 1) := by decide +kernel
theorem sz_d30 : decode jdk_35_method_15_code 30 = .ok (.ifCond .le 8, 3) := by decide +kernel
theorem sz_d33 : decode jdk_35_method_15_code 33 = .ok (.iload 5, 2) := by decide +kernel
theorem sz_d35 : decode jdk_35_method_15_code 35 = .ok (.iload_n 2, 1) := by decide +kernel
theorem sz_d36 : decode jdk_35_method_15_code 36 = .ok (.iadd, 1) := by decide +kernel
theorem sz_d37 : decode jdk_35_method_15_code 37 = .ok (.ireturn, 1) := by decide +kernel
theorem sz_d38 : decode jdk_35_method_15_code 38 = .ok (.ldc2_w 53, 3) := by decide +kernel
theorem sz_d41 : decode jdk_35_method_15_code 41 = .ok (.lload_n 3, 1) := by decide +kernel
theorem sz_d42 : decode jdk_35_method_15_code 42 = .ok (.lmul, 1) := by decide +kernel
theorem sz_d43 : decode jdk_35_method_15_code 43 = .ok (.lstore_n 3, 1) := by decide +kernel
theorem sz_d44 : decode jdk_35_method_15_code 44 = .ok (.iinc 5 1, 3) := by decide +kernel
theorem sz_d47 : decode jdk_35_method_15_code 47 = .ok (.goto (-27), 3) := by decide +kernel
theorem own_pn_sz : plainFor (⟨"java/lang/Long", "stringSize", "(J)I"⟩ : MethodName) = true := plainFor_of_name (by first | (simp [plainName, overriddenIn]; done) | decide +kernel)
theorem own_ef_sz (m : MethodId) (j0 : Int64) : entryFrame m #[(.long j0)] 6 = (mkF m 0 #[.val (.long j0), .second, .unset, .unset, .unset, .unset] []) := by first | (simp [entryFrame, mkF, argsToLocals, Value.category]; done) | rfl
set_option maxRecDepth 65536 in
set_option maxHeartbeats 40000000 in
theorem sz_go {p : Program} {l : Launch} {e : Env} {s : State} {m : MethodId} {args : Array Value} {below : List Frame} {meth : Method} {c : Code} {T : State} {Z : State} {a0 : Array Value} {h : Heap} (X : Stand p l e (⟨0, 0, 0, 0⟩ : Room) s m args below meth c T [] 0 0) (B : Bdy p s m meth c Z a0 "java/lang/Long" "stringSize" jdk_35_method_15_code 6 (some .int) tables_1) (eT : T.heap = h) (j0 : Int64) (M : Nat) (hM : j0.toInt = (M : Int)) (hM13 : M < 10000000000000) :
    Go p e below s 0 0 (PQ (some (.int (Int32.ofNat (own_ds M).length))) h []) (T.setTop (mkF m 0 #[.val (.long j0), .second, .unset, .unset, .unset, .unset] [])) := by
  refine g_iconst X B sz_d0 (pc' := 1) rfl (v := (1 : Int32)) (by decide) ?_
  refine g_istoreN X B sz_d1 (pc' := 2) rfl (Ls' := #[.val (.long j0), .second, .val (.int (1 : Int32)), .unset, .unset, .unset]) rfl ?_
  refine g_lloadN X B sz_d2 (pc' := 3) rfl (v := j0) rfl ?_
  refine g_lconst X B sz_d3 (pc' := 4) rfl (v := (0 : Int64)) (by decide) ?_
  refine g_lcmp_lt X B sz_d4 sz_d5 (pcT := 13) (pcF := 8) (by decide) rfl rfl (fun c4_0 => ?_) (fun c4_0 => ?_)
  · exfalso; rw [Int64.lt_iff_toInt_lt] at c4_0; have k0 : (0 : Int64).toInt = 0 := rfl; omega
  · refine g_iconst X B sz_d8 (pc' := 9) rfl (v := (0 : Int32)) (by decide) ?_
    refine g_istoreN X B sz_d9 (pc' := 10) rfl (Ls' := #[.val (.long j0), .second, .val (.int (0 : Int32)), .unset, .unset, .unset]) rfl ?_
    refine g_lloadN X B sz_d10 (pc' := 11) rfl (v := j0) rfl ?_
    refine g_lneg X B sz_d11 (pc' := 12) rfl ?_
    refine g_lstoreN X B sz_d12 (pc' := 13) rfl (Ls' := #[.val (.long ((-j0))), .second, .val (.int (0 : Int32)), .unset, .unset, .unset]) rfl ?_
    obtain ⟨jn, g_jn⟩ : ∃ z, z = ((-j0)) := ⟨_, rfl⟩
    rw [← g_jn]
    have hjn : jn.toInt = -(M : Int) := by rw [g_jn]; exact own_lnd hM
    refine g_ldc2 X B (B.w 90 rfl) sz_d13 (pc' := 16) rfl ?_
    refine g_lstoreN X B sz_d16 (pc' := 17) rfl (Ls' := #[.val (.long jn), .second, .val (.int (0 : Int32)), .val (.long (-10 : Int64)), .second, .unset]) rfl ?_
    refine g_iconst X B sz_d17 (pc' := 18) rfl (v := (1 : Int32)) (by decide) ?_
    refine g_istore X B sz_d18 (pc' := 20) rfl (Ls' := #[.val (.long jn), .second, .val (.int (0 : Int32)), .val (.long (-10 : Int64)), .second, .val (.int (1 : Int32))]) rfl ?_
    refine g_iload X B sz_d20 (pc' := 22) rfl (v := (1 : Int32)) rfl ?_
    refine g_bipush X B sz_d22 (pc' := 24) rfl (v := (19 : Int32)) (by decide) ?_
    refine g_icmp_ge X B sz_d24 (pcT := 50) (pcF := 27) (by decide) rfl rfl (fun c24_1 => ?_) (fun c24_1 => ?_)
    · refine g_lloadN X B sz_d27 (pc' := 28) rfl (v := jn) rfl ?_
      refine g_lloadN X B sz_d28 (pc' := 29) rfl (v := (-10 : Int64)) rfl ?_
      refine g_lcmp_le X B sz_d29 sz_d30 (pcT := 38) (pcF := 33) (by decide) rfl rfl (fun c29_2 => ?_) (fun c29_2 => ?_)
      · refine g_iload X B sz_d33 (pc' := 35) rfl (v := (1 : Int32)) rfl ?_
        refine g_iloadN X B sz_d35 (pc' := 36) rfl (v := (0 : Int32)) rfl ?_
        refine g_iadd X B sz_d36 (pc' := 37) rfl ?_
        rw [Int64.lt_iff_toInt_lt] at c29_2
        have k1 : (-10 : Int64).toInt = -10 := (by decide)
        have hl : (own_ds M).length = 1 := by rw [own_dl0 (by omega)]
        exact g_retI X B rfl sz_d37 (by decide) (by decide) ⟨congrArg (fun q => some (Value.int q)) ((by decide : ((1 : Int32) + (0 : Int32)) = Int32.ofNat 1).trans (congrArg Int32.ofNat hl.symm)), eT, rfl⟩
      · refine g_ldc2 X B (B.w 230 rfl) sz_d38 (pc' := 41) rfl ?_
        refine g_lloadN X B sz_d41 (pc' := 42) rfl (v := (-10 : Int64)) rfl ?_
        refine g_lmul X B sz_d42 (pc' := 43) rfl ?_
        refine g_lstoreN X B sz_d43 (pc' := 44) rfl (Ls' := #[.val (.long jn), .second, .val (.int (0 : Int32)), .val (.long ((10 : Int64) * (-10 : Int64))), .second, .val (.int (1 : Int32))]) rfl ?_
        rw [show ((10 : Int64) * (-10 : Int64)) = (-100 : Int64) from by decide]
        refine g_iinc X B sz_d44 (pc' := 47) rfl (v := (1 : Int32)) rfl (Ls' := #[.val (.long jn), .second, .val (.int (0 : Int32)), .val (.long (-100 : Int64)), .second, .val (.int ((1 : Int32) + (1 : Int32)))]) rfl ?_
        refine g_goto X B sz_d47 (pc' := 20) (by decide) rfl ?_
        refine g_iload X B sz_d20 (pc' := 22) rfl (v := ((1 : Int32) + (1 : Int32))) rfl ?_
        refine g_bipush X B sz_d22 (pc' := 24) rfl (v := (19 : Int32)) (by decide) ?_
        refine g_icmp_ge X B sz_d24 (pcT := 50) (pcF := 27) (by decide) rfl rfl (fun c24_3 => ?_) (fun c24_3 => ?_)
        · refine g_lloadN X B sz_d27 (pc' := 28) rfl (v := jn) rfl ?_
          refine g_lloadN X B sz_d28 (pc' := 29) rfl (v := (-100 : Int64)) rfl ?_
          refine g_lcmp_le X B sz_d29 sz_d30 (pcT := 38) (pcF := 33) (by decide) rfl rfl (fun c29_4 => ?_) (fun c29_4 => ?_)
          · refine g_iload X B sz_d33 (pc' := 35) rfl (v := ((1 : Int32) + (1 : Int32))) rfl ?_
            refine g_iloadN X B sz_d35 (pc' := 36) rfl (v := (0 : Int32)) rfl ?_
            refine g_iadd X B sz_d36 (pc' := 37) rfl ?_
            rw [Int64.lt_iff_toInt_lt] at c29_2 c29_4
            have k1 : (-10 : Int64).toInt = -10 := (by decide); have k2 : (-100 : Int64).toInt = -100 := (by decide)
            have hl : (own_ds M).length = 2 := by rw [own_dlS (by omega), own_dl0 (by omega)]
            exact g_retI X B rfl sz_d37 (by decide) (by decide) ⟨congrArg (fun q => some (Value.int q)) ((by decide : (((1 : Int32) + (1 : Int32)) + (0 : Int32)) = Int32.ofNat 2).trans (congrArg Int32.ofNat hl.symm)), eT, rfl⟩
          · refine g_ldc2 X B (B.w 230 rfl) sz_d38 (pc' := 41) rfl ?_
            refine g_lloadN X B sz_d41 (pc' := 42) rfl (v := (-100 : Int64)) rfl ?_
            refine g_lmul X B sz_d42 (pc' := 43) rfl ?_
            refine g_lstoreN X B sz_d43 (pc' := 44) rfl (Ls' := #[.val (.long jn), .second, .val (.int (0 : Int32)), .val (.long ((10 : Int64) * (-100 : Int64))), .second, .val (.int ((1 : Int32) + (1 : Int32)))]) rfl ?_
            rw [show ((10 : Int64) * (-100 : Int64)) = (-1000 : Int64) from by decide]
            refine g_iinc X B sz_d44 (pc' := 47) rfl (v := ((1 : Int32) + (1 : Int32))) rfl (Ls' := #[.val (.long jn), .second, .val (.int (0 : Int32)), .val (.long (-1000 : Int64)), .second, .val (.int (((1 : Int32) + (1 : Int32)) + (1 : Int32)))]) rfl ?_
            refine g_goto X B sz_d47 (pc' := 20) (by decide) rfl ?_
            refine g_iload X B sz_d20 (pc' := 22) rfl (v := (((1 : Int32) + (1 : Int32)) + (1 : Int32))) rfl ?_
            refine g_bipush X B sz_d22 (pc' := 24) rfl (v := (19 : Int32)) (by decide) ?_
            refine g_icmp_ge X B sz_d24 (pcT := 50) (pcF := 27) (by decide) rfl rfl (fun c24_5 => ?_) (fun c24_5 => ?_)
            · refine g_lloadN X B sz_d27 (pc' := 28) rfl (v := jn) rfl ?_
              refine g_lloadN X B sz_d28 (pc' := 29) rfl (v := (-1000 : Int64)) rfl ?_
              refine g_lcmp_le X B sz_d29 sz_d30 (pcT := 38) (pcF := 33) (by decide) rfl rfl (fun c29_6 => ?_) (fun c29_6 => ?_)
              · refine g_iload X B sz_d33 (pc' := 35) rfl (v := (((1 : Int32) + (1 : Int32)) + (1 : Int32))) rfl ?_
                refine g_iloadN X B sz_d35 (pc' := 36) rfl (v := (0 : Int32)) rfl ?_
                refine g_iadd X B sz_d36 (pc' := 37) rfl ?_
                rw [Int64.lt_iff_toInt_lt] at c29_2 c29_4 c29_6
                have k1 : (-10 : Int64).toInt = -10 := (by decide); have k2 : (-100 : Int64).toInt = -100 := (by decide); have k3 : (-1000 : Int64).toInt = -1000 := (by decide)
                have hl : (own_ds M).length = 3 := by rw [own_dlS (by omega), own_dlS (by omega), own_dl0 (by omega)]
                exact g_retI X B rfl sz_d37 (by decide) (by decide) ⟨congrArg (fun q => some (Value.int q)) ((by decide : ((((1 : Int32) + (1 : Int32)) + (1 : Int32)) + (0 : Int32)) = Int32.ofNat 3).trans (congrArg Int32.ofNat hl.symm)), eT, rfl⟩
              · refine g_ldc2 X B (B.w 230 rfl) sz_d38 (pc' := 41) rfl ?_
                refine g_lloadN X B sz_d41 (pc' := 42) rfl (v := (-1000 : Int64)) rfl ?_
                refine g_lmul X B sz_d42 (pc' := 43) rfl ?_
                refine g_lstoreN X B sz_d43 (pc' := 44) rfl (Ls' := #[.val (.long jn), .second, .val (.int (0 : Int32)), .val (.long ((10 : Int64) * (-1000 : Int64))), .second, .val (.int (((1 : Int32) + (1 : Int32)) + (1 : Int32)))]) rfl ?_
                rw [show ((10 : Int64) * (-1000 : Int64)) = (-10000 : Int64) from by decide]
                refine g_iinc X B sz_d44 (pc' := 47) rfl (v := (((1 : Int32) + (1 : Int32)) + (1 : Int32))) rfl (Ls' := #[.val (.long jn), .second, .val (.int (0 : Int32)), .val (.long (-10000 : Int64)), .second, .val (.int ((((1 : Int32) + (1 : Int32)) + (1 : Int32)) + (1 : Int32)))]) rfl ?_
                refine g_goto X B sz_d47 (pc' := 20) (by decide) rfl ?_
                refine g_iload X B sz_d20 (pc' := 22) rfl (v := ((((1 : Int32) + (1 : Int32)) + (1 : Int32)) + (1 : Int32))) rfl ?_
                refine g_bipush X B sz_d22 (pc' := 24) rfl (v := (19 : Int32)) (by decide) ?_
                refine g_icmp_ge X B sz_d24 (pcT := 50) (pcF := 27) (by decide) rfl rfl (fun c24_7 => ?_) (fun c24_7 => ?_)
                · refine g_lloadN X B sz_d27 (pc' := 28) rfl (v := jn) rfl ?_
                  refine g_lloadN X B sz_d28 (pc' := 29) rfl (v := (-10000 : Int64)) rfl ?_
                  refine g_lcmp_le X B sz_d29 sz_d30 (pcT := 38) (pcF := 33) (by decide) rfl rfl (fun c29_8 => ?_) (fun c29_8 => ?_)
                  · refine g_iload X B sz_d33 (pc' := 35) rfl (v := ((((1 : Int32) + (1 : Int32)) + (1 : Int32)) + (1 : Int32))) rfl ?_
                    refine g_iloadN X B sz_d35 (pc' := 36) rfl (v := (0 : Int32)) rfl ?_
                    refine g_iadd X B sz_d36 (pc' := 37) rfl ?_
                    rw [Int64.lt_iff_toInt_lt] at c29_2 c29_4 c29_6 c29_8
                    have k1 : (-10 : Int64).toInt = -10 := (by decide); have k2 : (-100 : Int64).toInt = -100 := (by decide); have k3 : (-1000 : Int64).toInt = -1000 := (by decide); have k4 : (-10000 : Int64).toInt = -10000 := (by decide)
                    have hl : (own_ds M).length = 4 := by rw [own_dlS (by omega), own_dlS (by omega), own_dlS (by omega), own_dl0 (by omega)]
                    exact g_retI X B rfl sz_d37 (by decide) (by decide) ⟨congrArg (fun q => some (Value.int q)) ((by decide : (((((1 : Int32) + (1 : Int32)) + (1 : Int32)) + (1 : Int32)) + (0 : Int32)) = Int32.ofNat 4).trans (congrArg Int32.ofNat hl.symm)), eT, rfl⟩
                  · refine g_ldc2 X B (B.w 230 rfl) sz_d38 (pc' := 41) rfl ?_
                    refine g_lloadN X B sz_d41 (pc' := 42) rfl (v := (-10000 : Int64)) rfl ?_
                    refine g_lmul X B sz_d42 (pc' := 43) rfl ?_
                    refine g_lstoreN X B sz_d43 (pc' := 44) rfl (Ls' := #[.val (.long jn), .second, .val (.int (0 : Int32)), .val (.long ((10 : Int64) * (-10000 : Int64))), .second, .val (.int ((((1 : Int32) + (1 : Int32)) + (1 : Int32)) + (1 : Int32)))]) rfl ?_
                    rw [show ((10 : Int64) * (-10000 : Int64)) = (-100000 : Int64) from by decide]
                    refine g_iinc X B sz_d44 (pc' := 47) rfl (v := ((((1 : Int32) + (1 : Int32)) + (1 : Int32)) + (1 : Int32))) rfl (Ls' := #[.val (.long jn), .second, .val (.int (0 : Int32)), .val (.long (-100000 : Int64)), .second, .val (.int (((((1 : Int32) + (1 : Int32)) + (1 : Int32)) + (1 : Int32)) + (1 : Int32)))]) rfl ?_
                    refine g_goto X B sz_d47 (pc' := 20) (by decide) rfl ?_
                    refine g_iload X B sz_d20 (pc' := 22) rfl (v := (((((1 : Int32) + (1 : Int32)) + (1 : Int32)) + (1 : Int32)) + (1 : Int32))) rfl ?_
                    refine g_bipush X B sz_d22 (pc' := 24) rfl (v := (19 : Int32)) (by decide) ?_
                    refine g_icmp_ge X B sz_d24 (pcT := 50) (pcF := 27) (by decide) rfl rfl (fun c24_9 => ?_) (fun c24_9 => ?_)
                    · refine g_lloadN X B sz_d27 (pc' := 28) rfl (v := jn) rfl ?_
                      refine g_lloadN X B sz_d28 (pc' := 29) rfl (v := (-100000 : Int64)) rfl ?_
                      refine g_lcmp_le X B sz_d29 sz_d30 (pcT := 38) (pcF := 33) (by decide) rfl rfl (fun c29_10 => ?_) (fun c29_10 => ?_)
                      · refine g_iload X B sz_d33 (pc' := 35) rfl (v := (((((1 : Int32) + (1 : Int32)) + (1 : Int32)) + (1 : Int32)) + (1 : Int32))) rfl ?_
                        refine g_iloadN X B sz_d35 (pc' := 36) rfl (v := (0 : Int32)) rfl ?_
                        refine g_iadd X B sz_d36 (pc' := 37) rfl ?_
                        rw [Int64.lt_iff_toInt_lt] at c29_2 c29_4 c29_6 c29_8 c29_10
                        have k1 : (-10 : Int64).toInt = -10 := (by decide); have k2 : (-100 : Int64).toInt = -100 := (by decide); have k3 : (-1000 : Int64).toInt = -1000 := (by decide); have k4 : (-10000 : Int64).toInt = -10000 := (by decide); have k5 : (-100000 : Int64).toInt = -100000 := (by decide)
                        have hl : (own_ds M).length = 5 := by rw [own_dlS (by omega), own_dlS (by omega), own_dlS (by omega), own_dlS (by omega), own_dl0 (by omega)]
                        exact g_retI X B rfl sz_d37 (by decide) (by decide) ⟨congrArg (fun q => some (Value.int q)) ((by decide : ((((((1 : Int32) + (1 : Int32)) + (1 : Int32)) + (1 : Int32)) + (1 : Int32)) + (0 : Int32)) = Int32.ofNat 5).trans (congrArg Int32.ofNat hl.symm)), eT, rfl⟩
                      · refine g_ldc2 X B (B.w 230 rfl) sz_d38 (pc' := 41) rfl ?_
                        refine g_lloadN X B sz_d41 (pc' := 42) rfl (v := (-100000 : Int64)) rfl ?_
                        refine g_lmul X B sz_d42 (pc' := 43) rfl ?_
                        refine g_lstoreN X B sz_d43 (pc' := 44) rfl (Ls' := #[.val (.long jn), .second, .val (.int (0 : Int32)), .val (.long ((10 : Int64) * (-100000 : Int64))), .second, .val (.int (((((1 : Int32) + (1 : Int32)) + (1 : Int32)) + (1 : Int32)) + (1 : Int32)))]) rfl ?_
                        rw [show ((10 : Int64) * (-100000 : Int64)) = (-1000000 : Int64) from by decide]
                        refine g_iinc X B sz_d44 (pc' := 47) rfl (v := (((((1 : Int32) + (1 : Int32)) + (1 : Int32)) + (1 : Int32)) + (1 : Int32))) rfl (Ls' := #[.val (.long jn), .second, .val (.int (0 : Int32)), .val (.long (-1000000 : Int64)), .second, .val (.int ((((((1 : Int32) + (1 : Int32)) + (1 : Int32)) + (1 : Int32)) + (1 : Int32)) + (1 : Int32)))]) rfl ?_
                        refine g_goto X B sz_d47 (pc' := 20) (by decide) rfl ?_
                        refine g_iload X B sz_d20 (pc' := 22) rfl (v := ((((((1 : Int32) + (1 : Int32)) + (1 : Int32)) + (1 : Int32)) + (1 : Int32)) + (1 : Int32))) rfl ?_
                        refine g_bipush X B sz_d22 (pc' := 24) rfl (v := (19 : Int32)) (by decide) ?_
                        refine g_icmp_ge X B sz_d24 (pcT := 50) (pcF := 27) (by decide) rfl rfl (fun c24_11 => ?_) (fun c24_11 => ?_)
                        · refine g_lloadN X B sz_d27 (pc' := 28) rfl (v := jn) rfl ?_
                          refine g_lloadN X B sz_d28 (pc' := 29) rfl (v := (-1000000 : Int64)) rfl ?_
                          refine g_lcmp_le X B sz_d29 sz_d30 (pcT := 38) (pcF := 33) (by decide) rfl rfl (fun c29_12 => ?_) (fun c29_12 => ?_)
                          · refine g_iload X B sz_d33 (pc' := 35) rfl (v := ((((((1 : Int32) + (1 : Int32)) + (1 : Int32)) + (1 : Int32)) + (1 : Int32)) + (1 : Int32))) rfl ?_
                            refine g_iloadN X B sz_d35 (pc' := 36) rfl (v := (0 : Int32)) rfl ?_
                            refine g_iadd X B sz_d36 (pc' := 37) rfl ?_
                            rw [Int64.lt_iff_toInt_lt] at c29_2 c29_4 c29_6 c29_8 c29_10 c29_12
                            have k1 : (-10 : Int64).toInt = -10 := (by decide); have k2 : (-100 : Int64).toInt = -100 := (by decide); have k3 : (-1000 : Int64).toInt = -1000 := (by decide); have k4 : (-10000 : Int64).toInt = -10000 := (by decide); have k5 : (-100000 : Int64).toInt = -100000 := (by decide); have k6 : (-1000000 : Int64).toInt = -1000000 := (by decide)
                            have hl : (own_ds M).length = 6 := by rw [own_dlS (by omega), own_dlS (by omega), own_dlS (by omega), own_dlS (by omega), own_dlS (by omega), own_dl0 (by omega)]
                            exact g_retI X B rfl sz_d37 (by decide) (by decide) ⟨congrArg (fun q => some (Value.int q)) ((by decide : (((((((1 : Int32) + (1 : Int32)) + (1 : Int32)) + (1 : Int32)) + (1 : Int32)) + (1 : Int32)) + (0 : Int32)) = Int32.ofNat 6).trans (congrArg Int32.ofNat hl.symm)), eT, rfl⟩
                          · refine g_ldc2 X B (B.w 230 rfl) sz_d38 (pc' := 41) rfl ?_
                            refine g_lloadN X B sz_d41 (pc' := 42) rfl (v := (-1000000 : Int64)) rfl ?_
                            refine g_lmul X B sz_d42 (pc' := 43) rfl ?_
                            refine g_lstoreN X B sz_d43 (pc' := 44) rfl (Ls' := #[.val (.long jn), .second, .val (.int (0 : Int32)), .val (.long ((10 : Int64) * (-1000000 : Int64))), .second, .val (.int ((((((1 : Int32) + (1 : Int32)) + (1 : Int32)) + (1 : Int32)) + (1 : Int32)) + (1 : Int32)))]) rfl ?_
                            rw [show ((10 : Int64) * (-1000000 : Int64)) = (-10000000 : Int64) from by decide]
                            refine g_iinc X B sz_d44 (pc' := 47) rfl (v := ((((((1 : Int32) + (1 : Int32)) + (1 : Int32)) + (1 : Int32)) + (1 : Int32)) + (1 : Int32))) rfl (Ls' := #[.val (.long jn), .second, .val (.int (0 : Int32)), .val (.long (-10000000 : Int64)), .second, .val (.int (((((((1 : Int32) + (1 : Int32)) + (1 : Int32)) + (1 : Int32)) + (1 : Int32)) + (1 : Int32)) + (1 : Int32)))]) rfl ?_
                            refine g_goto X B sz_d47 (pc' := 20) (by decide) rfl ?_
                            refine g_iload X B sz_d20 (pc' := 22) rfl (v := (((((((1 : Int32) + (1 : Int32)) + (1 : Int32)) + (1 : Int32)) + (1 : Int32)) + (1 : Int32)) + (1 : Int32))) rfl ?_
                            refine g_bipush X B sz_d22 (pc' := 24) rfl (v := (19 : Int32)) (by decide) ?_
                            refine g_icmp_ge X B sz_d24 (pcT := 50) (pcF := 27) (by decide) rfl rfl (fun c24_13 => ?_) (fun c24_13 => ?_)
                            · refine g_lloadN X B sz_d27 (pc' := 28) rfl (v := jn) rfl ?_
                              refine g_lloadN X B sz_d28 (pc' := 29) rfl (v := (-10000000 : Int64)) rfl ?_
                              refine g_lcmp_le X B sz_d29 sz_d30 (pcT := 38) (pcF := 33) (by decide) rfl rfl (fun c29_14 => ?_) (fun c29_14 => ?_)
                              · refine g_iload X B sz_d33 (pc' := 35) rfl (v := (((((((1 : Int32) + (1 : Int32)) + (1 : Int32)) + (1 : Int32)) + (1 : Int32)) + (1 : Int32)) + (1 : Int32))) rfl ?_
                                refine g_iloadN X B sz_d35 (pc' := 36) rfl (v := (0 : Int32)) rfl ?_
                                refine g_iadd X B sz_d36 (pc' := 37) rfl ?_
                                rw [Int64.lt_iff_toInt_lt] at c29_2 c29_4 c29_6 c29_8 c29_10 c29_12 c29_14
                                have k1 : (-10 : Int64).toInt = -10 := (by decide); have k2 : (-100 : Int64).toInt = -100 := (by decide); have k3 : (-1000 : Int64).toInt = -1000 := (by decide); have k4 : (-10000 : Int64).toInt = -10000 := (by decide); have k5 : (-100000 : Int64).toInt = -100000 := (by decide); have k6 : (-1000000 : Int64).toInt = -1000000 := (by decide); have k7 : (-10000000 : Int64).toInt = -10000000 := (by decide)
                                have hl : (own_ds M).length = 7 := by rw [own_dlS (by omega), own_dlS (by omega), own_dlS (by omega), own_dlS (by omega), own_dlS (by omega), own_dlS (by omega), own_dl0 (by omega)]
                                exact g_retI X B rfl sz_d37 (by decide) (by decide) ⟨congrArg (fun q => some (Value.int q)) ((by decide : ((((((((1 : Int32) + (1 : Int32)) + (1 : Int32)) + (1 : Int32)) + (1 : Int32)) + (1 : Int32)) + (1 : Int32)) + (0 : Int32)) = Int32.ofNat 7).trans (congrArg Int32.ofNat hl.symm)), eT, rfl⟩
                              · refine g_ldc2 X B (B.w 230 rfl) sz_d38 (pc' := 41) rfl ?_
                                refine g_lloadN X B sz_d41 (pc' := 42) rfl (v := (-10000000 : Int64)) rfl ?_
                                refine g_lmul X B sz_d42 (pc' := 43) rfl ?_
                                refine g_lstoreN X B sz_d43 (pc' := 44) rfl (Ls' := #[.val (.long jn), .second, .val (.int (0 : Int32)), .val (.long ((10 : Int64) * (-10000000 : Int64))), .second, .val (.int (((((((1 : Int32) + (1 : Int32)) + (1 : Int32)) + (1 : Int32)) + (1 : Int32)) + (1 : Int32)) + (1 : Int32)))]) rfl ?_
                                rw [show ((10 : Int64) * (-10000000 : Int64)) = (-100000000 : Int64) from by decide]
                                refine g_iinc X B sz_d44 (pc' := 47) rfl (v := (((((((1 : Int32) + (1 : Int32)) + (1 : Int32)) + (1 : Int32)) + (1 : Int32)) + (1 : Int32)) + (1 : Int32))) rfl (Ls' := #[.val (.long jn), .second, .val (.int (0 : Int32)), .val (.long (-100000000 : Int64)), .second, .val (.int ((((((((1 : Int32) + (1 : Int32)) + (1 : Int32)) + (1 : Int32)) + (1 : Int32)) + (1 : Int32)) + (1 : Int32)) + (1 : Int32)))]) rfl ?_
                                refine g_goto X B sz_d47 (pc' := 20) (by decide) rfl ?_
                                refine g_iload X B sz_d20 (pc' := 22) rfl (v := ((((((((1 : Int32) + (1 : Int32)) + (1 : Int32)) + (1 : Int32)) + (1 : Int32)) + (1 : Int32)) + (1 : Int32)) + (1 : Int32))) rfl ?_
                                refine g_bipush X B sz_d22 (pc' := 24) rfl (v := (19 : Int32)) (by decide) ?_
                                refine g_icmp_ge X B sz_d24 (pcT := 50) (pcF := 27) (by decide) rfl rfl (fun c24_15 => ?_) (fun c24_15 => ?_)
                                · refine g_lloadN X B sz_d27 (pc' := 28) rfl (v := jn) rfl ?_
                                  refine g_lloadN X B sz_d28 (pc' := 29) rfl (v := (-100000000 : Int64)) rfl ?_
                                  refine g_lcmp_le X B sz_d29 sz_d30 (pcT := 38) (pcF := 33) (by decide) rfl rfl (fun c29_16 => ?_) (fun c29_16 => ?_)
                                  · refine g_iload X B sz_d33 (pc' := 35) rfl (v := ((((((((1 : Int32) + (1 : Int32)) + (1 : Int32)) + (1 : Int32)) + (1 : Int32)) + (1 : Int32)) + (1 : Int32)) + (1 : Int32))) rfl ?_
                                    refine g_iloadN X B sz_d35 (pc' := 36) rfl (v := (0 : Int32)) rfl ?_
                                    refine g_iadd X B sz_d36 (pc' := 37) rfl ?_
                                    rw [Int64.lt_iff_toInt_lt] at c29_2 c29_4 c29_6 c29_8 c29_10 c29_12 c29_14 c29_16
                                    have k1 : (-10 : Int64).toInt = -10 := (by decide); have k2 : (-100 : Int64).toInt = -100 := (by decide); have k3 : (-1000 : Int64).toInt = -1000 := (by decide); have k4 : (-10000 : Int64).toInt = -10000 := (by decide); have k5 : (-100000 : Int64).toInt = -100000 := (by decide); have k6 : (-1000000 : Int64).toInt = -1000000 := (by decide); have k7 : (-10000000 : Int64).toInt = -10000000 := (by decide); have k8 : (-100000000 : Int64).toInt = -100000000 := (by decide)
                                    have hl : (own_ds M).length = 8 := by rw [own_dlS (by omega), own_dlS (by omega), own_dlS (by omega), own_dlS (by omega), own_dlS (by omega), own_dlS (by omega), own_dlS (by omega), own_dl0 (by omega)]
                                    exact g_retI X B rfl sz_d37 (by decide) (by decide) ⟨congrArg (fun q => some (Value.int q)) ((by decide : (((((((((1 : Int32) + (1 : Int32)) + (1 : Int32)) + (1 : Int32)) + (1 : Int32)) + (1 : Int32)) + (1 : Int32)) + (1 : Int32)) + (0 : Int32)) = Int32.ofNat 8).trans (congrArg Int32.ofNat hl.symm)), eT, rfl⟩
                                  · refine g_ldc2 X B (B.w 230 rfl) sz_d38 (pc' := 41) rfl ?_
                                    refine g_lloadN X B sz_d41 (pc' := 42) rfl (v := (-100000000 : Int64)) rfl ?_
                                    refine g_lmul X B sz_d42 (pc' := 43) rfl ?_
                                    refine g_lstoreN X B sz_d43 (pc' := 44) rfl (Ls' := #[.val (.long jn), .second, .val (.int (0 : Int32)), .val (.long ((10 : Int64) * (-100000000 : Int64))), .second, .val (.int ((((((((1 : Int32) + (1 : Int32)) + (1 : Int32)) + (1 : Int32)) + (1 : Int32)) + (1 : Int32)) + (1 : Int32)) + (1 : Int32)))]) rfl ?_
                                    rw [show ((10 : Int64) * (-100000000 : Int64)) = (-1000000000 : Int64) from by decide]
                                    refine g_iinc X B sz_d44 (pc' := 47) rfl (v := ((((((((1 : Int32) + (1 : Int32)) + (1 : Int32)) + (1 : Int32)) + (1 : Int32)) + (1 : Int32)) + (1 : Int32)) + (1 : Int32))) rfl (Ls' := #[.val (.long jn), .second, .val (.int (0 : Int32)), .val (.long (-1000000000 : Int64)), .second, .val (.int (((((((((1 : Int32) + (1 : Int32)) + (1 : Int32)) + (1 : Int32)) + (1 : Int32)) + (1 : Int32)) + (1 : Int32)) + (1 : Int32)) + (1 : Int32)))]) rfl ?_
                                    refine g_goto X B sz_d47 (pc' := 20) (by decide) rfl ?_
                                    refine g_iload X B sz_d20 (pc' := 22) rfl (v := (((((((((1 : Int32) + (1 : Int32)) + (1 : Int32)) + (1 : Int32)) + (1 : Int32)) + (1 : Int32)) + (1 : Int32)) + (1 : Int32)) + (1 : Int32))) rfl ?_
                                    refine g_bipush X B sz_d22 (pc' := 24) rfl (v := (19 : Int32)) (by decide) ?_
                                    refine g_icmp_ge X B sz_d24 (pcT := 50) (pcF := 27) (by decide) rfl rfl (fun c24_17 => ?_) (fun c24_17 => ?_)
                                    · refine g_lloadN X B sz_d27 (pc' := 28) rfl (v := jn) rfl ?_
                                      refine g_lloadN X B sz_d28 (pc' := 29) rfl (v := (-1000000000 : Int64)) rfl ?_
                                      refine g_lcmp_le X B sz_d29 sz_d30 (pcT := 38) (pcF := 33) (by decide) rfl rfl (fun c29_18 => ?_) (fun c29_18 => ?_)
                                      · refine g_iload X B sz_d33 (pc' := 35) rfl (v := (((((((((1 : Int32) + (1 : Int32)) + (1 : Int32)) + (1 : Int32)) + (1 : Int32)) + (1 : Int32)) + (1 : Int32)) + (1 : Int32)) + (1 : Int32))) rfl ?_
                                        refine g_iloadN X B sz_d35 (pc' := 36) rfl (v := (0 : Int32)) rfl ?_
                                        refine g_iadd X B sz_d36 (pc' := 37) rfl ?_
                                        rw [Int64.lt_iff_toInt_lt] at c29_2 c29_4 c29_6 c29_8 c29_10 c29_12 c29_14 c29_16 c29_18
                                        have k1 : (-10 : Int64).toInt = -10 := (by decide); have k2 : (-100 : Int64).toInt = -100 := (by decide); have k3 : (-1000 : Int64).toInt = -1000 := (by decide); have k4 : (-10000 : Int64).toInt = -10000 := (by decide); have k5 : (-100000 : Int64).toInt = -100000 := (by decide); have k6 : (-1000000 : Int64).toInt = -1000000 := (by decide); have k7 : (-10000000 : Int64).toInt = -10000000 := (by decide); have k8 : (-100000000 : Int64).toInt = -100000000 := (by decide); have k9 : (-1000000000 : Int64).toInt = -1000000000 := (by decide)
                                        have hl : (own_ds M).length = 9 := by rw [own_dlS (by omega), own_dlS (by omega), own_dlS (by omega), own_dlS (by omega), own_dlS (by omega), own_dlS (by omega), own_dlS (by omega), own_dlS (by omega), own_dl0 (by omega)]
                                        exact g_retI X B rfl sz_d37 (by decide) (by decide) ⟨congrArg (fun q => some (Value.int q)) ((by decide : ((((((((((1 : Int32) + (1 : Int32)) + (1 : Int32)) + (1 : Int32)) + (1 : Int32)) + (1 : Int32)) + (1 : Int32)) + (1 : Int32)) + (1 : Int32)) + (0 : Int32)) = Int32.ofNat 9).trans (congrArg Int32.ofNat hl.symm)), eT, rfl⟩
                                      · refine g_ldc2 X B (B.w 230 rfl) sz_d38 (pc' := 41) rfl ?_
                                        refine g_lloadN X B sz_d41 (pc' := 42) rfl (v := (-1000000000 : Int64)) rfl ?_
                                        refine g_lmul X B sz_d42 (pc' := 43) rfl ?_
                                        refine g_lstoreN X B sz_d43 (pc' := 44) rfl (Ls' := #[.val (.long jn), .second, .val (.int (0 : Int32)), .val (.long ((10 : Int64) * (-1000000000 : Int64))), .second, .val (.int (((((((((1 : Int32) + (1 : Int32)) + (1 : Int32)) + (1 : Int32)) + (1 : Int32)) + (1 : Int32)) + (1 : Int32)) + (1 : Int32)) + (1 : Int32)))]) rfl ?_
                                        rw [show ((10 : Int64) * (-1000000000 : Int64)) = (-10000000000 : Int64) from by decide]
                                        refine g_iinc X B sz_d44 (pc' := 47) rfl (v := (((((((((1 : Int32) + (1 : Int32)) + (1 : Int32)) + (1 : Int32)) + (1 : Int32)) + (1 : Int32)) + (1 : Int32)) + (1 : Int32)) + (1 : Int32))) rfl (Ls' := #[.val (.long jn), .second, .val (.int (0 : Int32)), .val (.long (-10000000000 : Int64)), .second, .val (.int ((((((((((1 : Int32) + (1 : Int32)) + (1 : Int32)) + (1 : Int32)) + (1 : Int32)) + (1 : Int32)) + (1 : Int32)) + (1 : Int32)) + (1 : Int32)) + (1 : Int32)))]) rfl ?_
                                        refine g_goto X B sz_d47 (pc' := 20) (by decide) rfl ?_
                                        refine g_iload X B sz_d20 (pc' := 22) rfl (v := ((((((((((1 : Int32) + (1 : Int32)) + (1 : Int32)) + (1 : Int32)) + (1 : Int32)) + (1 : Int32)) + (1 : Int32)) + (1 : Int32)) + (1 : Int32)) + (1 : Int32))) rfl ?_
                                        refine g_bipush X B sz_d22 (pc' := 24) rfl (v := (19 : Int32)) (by decide) ?_
                                        refine g_icmp_ge X B sz_d24 (pcT := 50) (pcF := 27) (by decide) rfl rfl (fun c24_19 => ?_) (fun c24_19 => ?_)
                                        · refine g_lloadN X B sz_d27 (pc' := 28) rfl (v := jn) rfl ?_
                                          refine g_lloadN X B sz_d28 (pc' := 29) rfl (v := (-10000000000 : Int64)) rfl ?_
                                          refine g_lcmp_le X B sz_d29 sz_d30 (pcT := 38) (pcF := 33) (by decide) rfl rfl (fun c29_20 => ?_) (fun c29_20 => ?_)
                                          · refine g_iload X B sz_d33 (pc' := 35) rfl (v := ((((((((((1 : Int32) + (1 : Int32)) + (1 : Int32)) + (1 : Int32)) + (1 : Int32)) + (1 : Int32)) + (1 : Int32)) + (1 : Int32)) + (1 : Int32)) + (1 : Int32))) rfl ?_
                                            refine g_iloadN X B sz_d35 (pc' := 36) rfl (v := (0 : Int32)) rfl ?_
                                            refine g_iadd X B sz_d36 (pc' := 37) rfl ?_
                                            rw [Int64.lt_iff_toInt_lt] at c29_2 c29_4 c29_6 c29_8 c29_10 c29_12 c29_14 c29_16 c29_18 c29_20
                                            have k1 : (-10 : Int64).toInt = -10 := (by decide); have k2 : (-100 : Int64).toInt = -100 := (by decide); have k3 : (-1000 : Int64).toInt = -1000 := (by decide); have k4 : (-10000 : Int64).toInt = -10000 := (by decide); have k5 : (-100000 : Int64).toInt = -100000 := (by decide); have k6 : (-1000000 : Int64).toInt = -1000000 := (by decide); have k7 : (-10000000 : Int64).toInt = -10000000 := (by decide); have k8 : (-100000000 : Int64).toInt = -100000000 := (by decide); have k9 : (-1000000000 : Int64).toInt = -1000000000 := (by decide); have k10 : (-10000000000 : Int64).toInt = -10000000000 := (by decide)
                                            have hl : (own_ds M).length = 10 := by rw [own_dlS (by omega), own_dlS (by omega), own_dlS (by omega), own_dlS (by omega), own_dlS (by omega), own_dlS (by omega), own_dlS (by omega), own_dlS (by omega), own_dlS (by omega), own_dl0 (by omega)]
                                            exact g_retI X B rfl sz_d37 (by decide) (by decide) ⟨congrArg (fun q => some (Value.int q)) ((by decide : (((((((((((1 : Int32) + (1 : Int32)) + (1 : Int32)) + (1 : Int32)) + (1 : Int32)) + (1 : Int32)) + (1 : Int32)) + (1 : Int32)) + (1 : Int32)) + (1 : Int32)) + (0 : Int32)) = Int32.ofNat 10).trans (congrArg Int32.ofNat hl.symm)), eT, rfl⟩
                                          · refine g_ldc2 X B (B.w 230 rfl) sz_d38 (pc' := 41) rfl ?_
                                            refine g_lloadN X B sz_d41 (pc' := 42) rfl (v := (-10000000000 : Int64)) rfl ?_
                                            refine g_lmul X B sz_d42 (pc' := 43) rfl ?_
                                            refine g_lstoreN X B sz_d43 (pc' := 44) rfl (Ls' := #[.val (.long jn), .second, .val (.int (0 : Int32)), .val (.long ((10 : Int64) * (-10000000000 : Int64))), .second, .val (.int ((((((((((1 : Int32) + (1 : Int32)) + (1 : Int32)) + (1 : Int32)) + (1 : Int32)) + (1 : Int32)) + (1 : Int32)) + (1 : Int32)) + (1 : Int32)) + (1 : Int32)))]) rfl ?_
                                            rw [show ((10 : Int64) * (-10000000000 : Int64)) = (-100000000000 : Int64) from by decide]
                                            refine g_iinc X B sz_d44 (pc' := 47) rfl (v := ((((((((((1 : Int32) + (1 : Int32)) + (1 : Int32)) + (1 : Int32)) + (1 : Int32)) + (1 : Int32)) + (1 : Int32)) + (1 : Int32)) + (1 : Int32)) + (1 : Int32))) rfl (Ls' := #[.val (.long jn), .second, .val (.int (0 : Int32)), .val (.long (-100000000000 : Int64)), .second, .val (.int (((((((((((1 : Int32) + (1 : Int32)) + (1 : Int32)) + (1 : Int32)) + (1 : Int32)) + (1 : Int32)) + (1 : Int32)) + (1 : Int32)) + (1 : Int32)) + (1 : Int32)) + (1 : Int32)))]) rfl ?_
                                            refine g_goto X B sz_d47 (pc' := 20) (by decide) rfl ?_
                                            refine g_iload X B sz_d20 (pc' := 22) rfl (v := (((((((((((1 : Int32) + (1 : Int32)) + (1 : Int32)) + (1 : Int32)) + (1 : Int32)) + (1 : Int32)) + (1 : Int32)) + (1 : Int32)) + (1 : Int32)) + (1 : Int32)) + (1 : Int32))) rfl ?_
                                            refine g_bipush X B sz_d22 (pc' := 24) rfl (v := (19 : Int32)) (by decide) ?_
                                            refine g_icmp_ge X B sz_d24 (pcT := 50) (pcF := 27) (by decide) rfl rfl (fun c24_21 => ?_) (fun c24_21 => ?_)
                                            · refine g_lloadN X B sz_d27 (pc' := 28) rfl (v := jn) rfl ?_
                                              refine g_lloadN X B sz_d28 (pc' := 29) rfl (v := (-100000000000 : Int64)) rfl ?_
                                              refine g_lcmp_le X B sz_d29 sz_d30 (pcT := 38) (pcF := 33) (by decide) rfl rfl (fun c29_22 => ?_) (fun c29_22 => ?_)
                                              · refine g_iload X B sz_d33 (pc' := 35) rfl (v := (((((((((((1 : Int32) + (1 : Int32)) + (1 : Int32)) + (1 : Int32)) + (1 : Int32)) + (1 : Int32)) + (1 : Int32)) + (1 : Int32)) + (1 : Int32)) + (1 : Int32)) + (1 : Int32))) rfl ?_
                                                refine g_iloadN X B sz_d35 (pc' := 36) rfl (v := (0 : Int32)) rfl ?_
                                                refine g_iadd X B sz_d36 (pc' := 37) rfl ?_
                                                rw [Int64.lt_iff_toInt_lt] at c29_2 c29_4 c29_6 c29_8 c29_10 c29_12 c29_14 c29_16 c29_18 c29_20 c29_22
                                                have k1 : (-10 : Int64).toInt = -10 := (by decide); have k2 : (-100 : Int64).toInt = -100 := (by decide); have k3 : (-1000 : Int64).toInt = -1000 := (by decide); have k4 : (-10000 : Int64).toInt = -10000 := (by decide); have k5 : (-100000 : Int64).toInt = -100000 := (by decide); have k6 : (-1000000 : Int64).toInt = -1000000 := (by decide); have k7 : (-10000000 : Int64).toInt = -10000000 := (by decide); have k8 : (-100000000 : Int64).toInt = -100000000 := (by decide); have k9 : (-1000000000 : Int64).toInt = -1000000000 := (by decide); have k10 : (-10000000000 : Int64).toInt = -10000000000 := (by decide); have k11 : (-100000000000 : Int64).toInt = -100000000000 := (by decide)
                                                have hl : (own_ds M).length = 11 := by rw [own_dlS (by omega), own_dlS (by omega), own_dlS (by omega), own_dlS (by omega), own_dlS (by omega), own_dlS (by omega), own_dlS (by omega), own_dlS (by omega), own_dlS (by omega), own_dlS (by omega), own_dl0 (by omega)]
                                                exact g_retI X B rfl sz_d37 (by decide) (by decide) ⟨congrArg (fun q => some (Value.int q)) ((by decide : ((((((((((((1 : Int32) + (1 : Int32)) + (1 : Int32)) + (1 : Int32)) + (1 : Int32)) + (1 : Int32)) + (1 : Int32)) + (1 : Int32)) + (1 : Int32)) + (1 : Int32)) + (1 : Int32)) + (0 : Int32)) = Int32.ofNat 11).trans (congrArg Int32.ofNat hl.symm)), eT, rfl⟩
                                              · refine g_ldc2 X B (B.w 230 rfl) sz_d38 (pc' := 41) rfl ?_
                                                refine g_lloadN X B sz_d41 (pc' := 42) rfl (v := (-100000000000 : Int64)) rfl ?_
                                                refine g_lmul X B sz_d42 (pc' := 43) rfl ?_
                                                refine g_lstoreN X B sz_d43 (pc' := 44) rfl (Ls' := #[.val (.long jn), .second, .val (.int (0 : Int32)), .val (.long ((10 : Int64) * (-100000000000 : Int64))), .second, .val (.int (((((((((((1 : Int32) + (1 : Int32)) + (1 : Int32)) + (1 : Int32)) + (1 : Int32)) + (1 : Int32)) + (1 : Int32)) + (1 : Int32)) + (1 : Int32)) + (1 : Int32)) + (1 : Int32)))]) rfl ?_
                                                rw [show ((10 : Int64) * (-100000000000 : Int64)) = (-1000000000000 : Int64) from by decide]
                                                refine g_iinc X B sz_d44 (pc' := 47) rfl (v := (((((((((((1 : Int32) + (1 : Int32)) + (1 : Int32)) + (1 : Int32)) + (1 : Int32)) + (1 : Int32)) + (1 : Int32)) + (1 : Int32)) + (1 : Int32)) + (1 : Int32)) + (1 : Int32))) rfl (Ls' := #[.val (.long jn), .second, .val (.int (0 : Int32)), .val (.long (-1000000000000 : Int64)), .second, .val (.int ((((((((((((1 : Int32) + (1 : Int32)) + (1 : Int32)) + (1 : Int32)) + (1 : Int32)) + (1 : Int32)) + (1 : Int32)) + (1 : Int32)) + (1 : Int32)) + (1 : Int32)) + (1 : Int32)) + (1 : Int32)))]) rfl ?_
                                                refine g_goto X B sz_d47 (pc' := 20) (by decide) rfl ?_
                                                refine g_iload X B sz_d20 (pc' := 22) rfl (v := ((((((((((((1 : Int32) + (1 : Int32)) + (1 : Int32)) + (1 : Int32)) + (1 : Int32)) + (1 : Int32)) + (1 : Int32)) + (1 : Int32)) + (1 : Int32)) + (1 : Int32)) + (1 : Int32)) + (1 : Int32))) rfl ?_
                                                refine g_bipush X B sz_d22 (pc' := 24) rfl (v := (19 : Int32)) (by decide) ?_
                                                refine g_icmp_ge X B sz_d24 (pcT := 50) (pcF := 27) (by decide) rfl rfl (fun c24_23 => ?_) (fun c24_23 => ?_)
                                                · refine g_lloadN X B sz_d27 (pc' := 28) rfl (v := jn) rfl ?_
                                                  refine g_lloadN X B sz_d28 (pc' := 29) rfl (v := (-1000000000000 : Int64)) rfl ?_
                                                  refine g_lcmp_le X B sz_d29 sz_d30 (pcT := 38) (pcF := 33) (by decide) rfl rfl (fun c29_24 => ?_) (fun c29_24 => ?_)
                                                  · refine g_iload X B sz_d33 (pc' := 35) rfl (v := ((((((((((((1 : Int32) + (1 : Int32)) + (1 : Int32)) + (1 : Int32)) + (1 : Int32)) + (1 : Int32)) + (1 : Int32)) + (1 : Int32)) + (1 : Int32)) + (1 : Int32)) + (1 : Int32)) + (1 : Int32))) rfl ?_
                                                    refine g_iloadN X B sz_d35 (pc' := 36) rfl (v := (0 : Int32)) rfl ?_
                                                    refine g_iadd X B sz_d36 (pc' := 37) rfl ?_
                                                    rw [Int64.lt_iff_toInt_lt] at c29_2 c29_4 c29_6 c29_8 c29_10 c29_12 c29_14 c29_16 c29_18 c29_20 c29_22 c29_24
                                                    have k1 : (-10 : Int64).toInt = -10 := (by decide); have k2 : (-100 : Int64).toInt = -100 := (by decide); have k3 : (-1000 : Int64).toInt = -1000 := (by decide); have k4 : (-10000 : Int64).toInt = -10000 := (by decide); have k5 : (-100000 : Int64).toInt = -100000 := (by decide); have k6 : (-1000000 : Int64).toInt = -1000000 := (by decide); have k7 : (-10000000 : Int64).toInt = -10000000 := (by decide); have k8 : (-100000000 : Int64).toInt = -100000000 := (by decide); have k9 : (-1000000000 : Int64).toInt = -1000000000 := (by decide); have k10 : (-10000000000 : Int64).toInt = -10000000000 := (by decide); have k11 : (-100000000000 : Int64).toInt = -100000000000 := (by decide); have k12 : (-1000000000000 : Int64).toInt = -1000000000000 := (by decide)
                                                    have hl : (own_ds M).length = 12 := by rw [own_dlS (by omega), own_dlS (by omega), own_dlS (by omega), own_dlS (by omega), own_dlS (by omega), own_dlS (by omega), own_dlS (by omega), own_dlS (by omega), own_dlS (by omega), own_dlS (by omega), own_dlS (by omega), own_dl0 (by omega)]
                                                    exact g_retI X B rfl sz_d37 (by decide) (by decide) ⟨congrArg (fun q => some (Value.int q)) ((by decide : (((((((((((((1 : Int32) + (1 : Int32)) + (1 : Int32)) + (1 : Int32)) + (1 : Int32)) + (1 : Int32)) + (1 : Int32)) + (1 : Int32)) + (1 : Int32)) + (1 : Int32)) + (1 : Int32)) + (1 : Int32)) + (0 : Int32)) = Int32.ofNat 12).trans (congrArg Int32.ofNat hl.symm)), eT, rfl⟩
                                                  · refine g_ldc2 X B (B.w 230 rfl) sz_d38 (pc' := 41) rfl ?_
                                                    refine g_lloadN X B sz_d41 (pc' := 42) rfl (v := (-1000000000000 : Int64)) rfl ?_
                                                    refine g_lmul X B sz_d42 (pc' := 43) rfl ?_
                                                    refine g_lstoreN X B sz_d43 (pc' := 44) rfl (Ls' := #[.val (.long jn), .second, .val (.int (0 : Int32)), .val (.long ((10 : Int64) * (-1000000000000 : Int64))), .second, .val (.int ((((((((((((1 : Int32) + (1 : Int32)) + (1 : Int32)) + (1 : Int32)) + (1 : Int32)) + (1 : Int32)) + (1 : Int32)) + (1 : Int32)) + (1 : Int32)) + (1 : Int32)) + (1 : Int32)) + (1 : Int32)))]) rfl ?_
                                                    rw [show ((10 : Int64) * (-1000000000000 : Int64)) = (-10000000000000 : Int64) from by decide]
                                                    refine g_iinc X B sz_d44 (pc' := 47) rfl (v := ((((((((((((1 : Int32) + (1 : Int32)) + (1 : Int32)) + (1 : Int32)) + (1 : Int32)) + (1 : Int32)) + (1 : Int32)) + (1 : Int32)) + (1 : Int32)) + (1 : Int32)) + (1 : Int32)) + (1 : Int32))) rfl (Ls' := #[.val (.long jn), .second, .val (.int (0 : Int32)), .val (.long (-10000000000000 : Int64)), .second, .val (.int (((((((((((((1 : Int32) + (1 : Int32)) + (1 : Int32)) + (1 : Int32)) + (1 : Int32)) + (1 : Int32)) + (1 : Int32)) + (1 : Int32)) + (1 : Int32)) + (1 : Int32)) + (1 : Int32)) + (1 : Int32)) + (1 : Int32)))]) rfl ?_
                                                    refine g_goto X B sz_d47 (pc' := 20) (by decide) rfl ?_
                                                    refine g_iload X B sz_d20 (pc' := 22) rfl (v := (((((((((((((1 : Int32) + (1 : Int32)) + (1 : Int32)) + (1 : Int32)) + (1 : Int32)) + (1 : Int32)) + (1 : Int32)) + (1 : Int32)) + (1 : Int32)) + (1 : Int32)) + (1 : Int32)) + (1 : Int32)) + (1 : Int32))) rfl ?_
                                                    refine g_bipush X B sz_d22 (pc' := 24) rfl (v := (19 : Int32)) (by decide) ?_
                                                    refine g_icmp_ge X B sz_d24 (pcT := 50) (pcF := 27) (by decide) rfl rfl (fun c24_25 => ?_) (fun c24_25 => ?_)
                                                    · refine g_lloadN X B sz_d27 (pc' := 28) rfl (v := jn) rfl ?_
                                                      refine g_lloadN X B sz_d28 (pc' := 29) rfl (v := (-10000000000000 : Int64)) rfl ?_
                                                      refine g_lcmp_le X B sz_d29 sz_d30 (pcT := 38) (pcF := 33) (by decide) rfl rfl (fun c29_26 => ?_) (fun c29_26 => ?_)
                                                      · refine g_iload X B sz_d33 (pc' := 35) rfl (v := (((((((((((((1 : Int32) + (1 : Int32)) + (1 : Int32)) + (1 : Int32)) + (1 : Int32)) + (1 : Int32)) + (1 : Int32)) + (1 : Int32)) + (1 : Int32)) + (1 : Int32)) + (1 : Int32)) + (1 : Int32)) + (1 : Int32))) rfl ?_
                                                        refine g_iloadN X B sz_d35 (pc' := 36) rfl (v := (0 : Int32)) rfl ?_
                                                        refine g_iadd X B sz_d36 (pc' := 37) rfl ?_
                                                        rw [Int64.lt_iff_toInt_lt] at c29_2 c29_4 c29_6 c29_8 c29_10 c29_12 c29_14 c29_16 c29_18 c29_20 c29_22 c29_24 c29_26
                                                        have k1 : (-10 : Int64).toInt = -10 := (by decide); have k2 : (-100 : Int64).toInt = -100 := (by decide); have k3 : (-1000 : Int64).toInt = -1000 := (by decide); have k4 : (-10000 : Int64).toInt = -10000 := (by decide); have k5 : (-100000 : Int64).toInt = -100000 := (by decide); have k6 : (-1000000 : Int64).toInt = -1000000 := (by decide); have k7 : (-10000000 : Int64).toInt = -10000000 := (by decide); have k8 : (-100000000 : Int64).toInt = -100000000 := (by decide); have k9 : (-1000000000 : Int64).toInt = -1000000000 := (by decide); have k10 : (-10000000000 : Int64).toInt = -10000000000 := (by decide); have k11 : (-100000000000 : Int64).toInt = -100000000000 := (by decide); have k12 : (-1000000000000 : Int64).toInt = -1000000000000 := (by decide); have k13 : (-10000000000000 : Int64).toInt = -10000000000000 := (by decide)
                                                        have hl : (own_ds M).length = 13 := by rw [own_dlS (by omega), own_dlS (by omega), own_dlS (by omega), own_dlS (by omega), own_dlS (by omega), own_dlS (by omega), own_dlS (by omega), own_dlS (by omega), own_dlS (by omega), own_dlS (by omega), own_dlS (by omega), own_dlS (by omega), own_dl0 (by omega)]
                                                        exact g_retI X B rfl sz_d37 (by decide) (by decide) ⟨congrArg (fun q => some (Value.int q)) ((by decide : ((((((((((((((1 : Int32) + (1 : Int32)) + (1 : Int32)) + (1 : Int32)) + (1 : Int32)) + (1 : Int32)) + (1 : Int32)) + (1 : Int32)) + (1 : Int32)) + (1 : Int32)) + (1 : Int32)) + (1 : Int32)) + (1 : Int32)) + (0 : Int32)) = Int32.ofNat 13).trans (congrArg Int32.ofNat hl.symm)), eT, rfl⟩
                                                      · exfalso; rw [Int64.lt_iff_toInt_lt] at c29_26; have k13 : (-10000000000000 : Int64).toInt = -10000000000000 := (by decide); omega
                                                    · exact absurd (by decide) c24_25
                                                · exact absurd (by decide) c24_23
                                            · exact absurd (by decide) c24_21
                                        · exact absurd (by decide) c24_19
                                    · exact absurd (by decide) c24_17
                                · exact absurd (by decide) c24_15
                            · exact absurd (by decide) c24_13
                        · exact absurd (by decide) c24_11
                    · exact absurd (by decide) c24_9
                · exact absurd (by decide) c24_7
            · exact absurd (by decide) c24_5
        · exact absurd (by decide) c24_3
    · exact absurd (by decide) c24_1
theorem sz_met (l : Launch) (Z : State) (a0 : Array Value) (hw : ∀ d ∈ tables_1, d.before a0 Z = true) (ws : List Jvm.Cond) (h : Heap) (j0 : Int64) (M : Nat) (hM : j0.toInt = (M : Int)) (hM13 : M < 10000000000000) :
    Met l Z (⟨"java/lang/Long", "stringSize", "(J)I"⟩ : MethodName) jdk_35_method_15_code 6 (some .int) ws (⟨0, 0, 0, 0⟩ : Room) #[(.long j0)] h (PQ (some (.int (Int32.ofNat (own_ds M).length))) h []) :=
  met_of own_pn_sz hw fun p e s m below meth c T X B eT => Go.top (own_ef_sz m j0) (sz_go X B eT j0 M hM hM13)
theorem gc_d0 : decode jdk_35_method_14_code 0 = .ok (.iload_n 2, 1) := by decide +kernel
theorem gc_d1 : decode jdk_35_method_14_code 1 = .ok (.istore 7, 2) := by decide +kernel
theorem gc_d3 : decode jdk_35_method_14_code 3 = .ok (.lload_n 0, 1) := by decide +kernel
theorem gc_d4 : decode jdk_35_method_14_code 4 = .ok (.lconst 0, 1) := by decide +kernel
theorem gc_d5 : decode jdk_35_method_14_code 5 = .ok (.lcmp, 1) := by decide +kernel
theorem gc_d6 : decode jdk_35_method_14_code 6 = .ok (.ifCond .ge 7, 3) := by decide +kernel
theorem gc_d13 : decode jdk_35_method_14_code 13 = .ok (.iconst 0, 1) := by decide +kernel
theorem gc_d14 : decode jdk_35_method_14_code 14 = .ok (.istore 8, 2) := by decide +kernel
theorem gc_d16 : decode jdk_35_method_14_code 16 = .ok (.iload 8, 2) := by decide +kernel
theorem gc_d18 : decode jdk_35_method_14_code 18 = .ok (.ifCond .ne 6, 3) := by decide +kernel
theorem gc_d21 : decode jdk_35_method_14_code 21 = .ok (.lload_n 0, 1) := by decide +kernel
theorem gc_d22 : decode jdk_35_method_14_code 22 = .ok (.lneg, 1) := by decide +kernel
theorem gc_d23 : decode jdk_35_method_14_code 23 = .ok (.lstore_n 0, 1) := by decide +kernel
theorem gc_d24 : decode jdk_35_method_14_code 24 = .ok (.lload_n 0, 1) := by decide +kernel
theorem gc_d25 : decode jdk_35_method_14_code 25 = .ok (.ldc2_w 129, 3) := by decide +kernel
theorem gc_d28 : decode jdk_35_method_14_code 28 = .ok (.lcmp, 1) := by decide +kernel
theorem gc_d29 : decode jdk_35_method_14_code 29 = .ok (.ifCond .gt 53, 3) := by decide +kernel
theorem gc_d32 : decode jdk_35_method_14_code 32 = .ok (.lload_n 0, 1) := by decide +kernel
theorem gc_d33 : decode jdk_35_method_14_code 33 = .ok (.ldc2_w 131, 3) := by decide +kernel
theorem gc_d36 : decode jdk_35_method_14_code 36 = .ok (.ldiv, 1) := by decide +kernel
theorem gc_d37 : decode jdk_35_method_14_code 37 = .ok (.lstore 4, 2) := by decide +kernel
theorem gc_d39 : decode jdk_35_method_14_code 39 = .ok (.lload 4, 2) := by decide +kernel
theorem gc_d41 : decode jdk_35_method_14_code 41 = .ok (.ldc2_w 131, 3) := by decide +kernel
theorem gc_d44 : decode jdk_35_method_14_code 44 = .ok (.lmul, 1) := by decide +kernel
theorem gc_d45 : decode jdk_35_method_14_code 45 = .ok (.lload_n 0, 1) := by decide +kernel
theorem gc_d46 : decode jdk_35_method_14_code 46 = .ok (.lsub, 1) := by decide +kernel
theorem gc_d47 : decode jdk_35_method_14_code 47 = .ok (.l2i, 1) := by decide +kernel
theorem gc_d48 : decode jdk_35_method_14_code 48 = .ok (.istore 6, 2) := by decide +kernel
theorem gc_d50 : decode jdk_35_method_14_code 50 = .ok (.lload 4, 2) := by decide +kernel
theorem gc_d52 : decode jdk_35_method_14_code 52 = .ok (.lstore_n 0, 1) := by decide +kernel
theorem gc_d53 : decode jdk_35_method_14_code 53 = .ok (.aload_n 3, 1) := by decide +kernel
theorem gc_d54 : decode jdk_35_method_14_code 54 = .ok (.iinc 7 (-1), 3) := by decide +kernel
theorem gc_d57 : decode jdk_35_method_14_code 57 = .ok (.iload 7, 2) := by decide +kernel
theorem gc_d59 : decode jdk_35_method_14_code 59 = .ok (.getstatic 133, 3) := by decide +kernel
theorem gc_d62 : decode jdk_35_method_14_code 62 = .ok (.iload 6, 2) := by decide +kernel
theorem gc_d64 : decode jdk_35_method_14_code 64 = .ok (.baload, 1) := by decide +kernel
theorem gc_d65 : decode jdk_35_method_14_code 65 = .ok (.bastore, 1) := by decide +kernel
theorem gc_d66 : decode jdk_35_method_14_code 66 = .ok (.aload_n 3, 1) := by decide +kernel
theorem gc_d67 : decode jdk_35_method_14_code 67 = .ok (.iinc 7 (-1), 3) := by decide +kernel
theorem gc_d70 : decode jdk_35_method_14_code 70 = .ok (.iload 7, 2) := by decide +kernel
theorem gc_d72 : decode jdk_35_method_14_code 72 = .ok (.getstatic 137, 3) := by decide +kernel
theorem gc_d75 : decode jdk_35_method_14_code 75 = .ok (.iload 6, 2) := by decide +kernel
theorem gc_d77 : decode jdk_35_method_14_code 77 = .ok (.baload, 1) := by decide +kernel
theorem gc_d78 : decode jdk_35_method_14_code 78 = .ok (.bastore, 1) := by decide +kernel
theorem gc_d79 : decode jdk_35_method_14_code 79 = .ok (.goto (-55), 3) := by decide +kernel
theorem gc_d82 : decode jdk_35_method_14_code 82 = .ok (.lload_n 0, 1) := by decide +kernel
theorem gc_d83 : decode jdk_35_method_14_code 83 = .ok (.l2i, 1) := by decide +kernel
theorem gc_d84 : decode jdk_35_method_14_code 84 = .ok (.istore 10, 2) := by decide +kernel
theorem gc_d86 : decode jdk_35_method_14_code 86 = .ok (.iload 10, 2) := by decide +kernel
theorem gc_d88 : decode jdk_35_method_14_code 88 = .ok (.bipush (-100), 2) := by decide +kernel
theorem gc_d90 : decode jdk_35_method_14_code 90 = .ok (.if_icmp .gt 53, 3) := by decide +kernel
theorem gc_d93 : decode jdk_35_method_14_code 93 = .ok (.iload 10, 2) := by decide +kernel
theorem gc_d95 : decode jdk_35_method_14_code 95 = .ok (.bipush 100, 2) := by decide +kernel
theorem gc_d97 : decode jdk_35_method_14_code 97 = .ok (.idiv, 1) := by decide +kernel
theorem gc_d98 : decode jdk_35_method_14_code 98 = .ok (.istore 9, 2) := by decide +kernel
theorem gc_d100 : decode jdk_35_method_14_code 100 = .ok (.iload 9, 2) := by decide +kernel
theorem gc_d102 : decode jdk_35_method_14_code 102 = .ok (.bipush 100, 2) := by decide +kernel
theorem gc_d104 : decode jdk_35_method_14_code 104 = .ok (.imul, 1) := by decide +kernel
theorem gc_d105 : decode jdk_35_method_14_code 105 = .ok (.iload 10, 2) := by decide +kernel
theorem gc_d107 : decode jdk_35_method_14_code 107 = .ok (.isub, 1) := by decide +kernel
theorem gc_d108 : decode jdk_35_method_14_code 108 = .ok (.istore 6, 2) := by decide +kernel
theorem gc_d110 : decode jdk_35_method_14_code 110 = .ok (.iload 9, 2) := by decide +kernel
theorem gc_d112 : decode jdk_35_method_14_code 112 = .ok (.istore 10, 2) := by decide +kernel
theorem gc_d114 : decode jdk_35_method_14_code 114 = .ok (.aload_n 3, 1) := by decide +kernel
theorem gc_d115 : decode jdk_35_method_14_code 115 = .ok (.iinc 7 (-1), 3) := by decide +kernel
theorem gc_d118 : decode jdk_35_method_14_code 118 = .ok (.iload 7, 2) := by decide +kernel
theorem gc_d120 : decode jdk_35_method_14_code 120 = .ok (.getstatic 133, 3) := by decide +kernel
theorem gc_d123 : decode jdk_35_method_14_code 123 = .ok (.iload 6, 2) := by decide +kernel
theorem gc_d125 : decode jdk_35_method_14_code 125 = .ok (.baload, 1) := by decide +kernel
theorem gc_d126 : decode jdk_35_method_14_code 126 = .ok (.bastore, 1) := by decide +kernel
theorem gc_d127 : decode jdk_35_method_14_code 127 = .ok (.aload_n 3, 1) := by decide +kernel
theorem gc_d128 : decode jdk_35_method_14_code 128 = .ok (.iinc 7 (-1), 3) := by decide +kernel
theorem gc_d131 : decode jdk_35_method_14_code 131 = .ok (.iload 7, 2) := by decide +kernel
theorem gc_d133 : decode jdk_35_method_14_code 133 = .ok (.getstatic 137, 3) := by decide +kernel
theorem gc_d136 : decode jdk_35_method_14_code 136 = .ok (.iload 6, 2) := by decide +kernel
theorem gc_d138 : decode jdk_35_method_14_code 138 = .ok (.baload, 1) := by decide +kernel
theorem gc_d139 : decode jdk_35_method_14_code 139 = .ok (.bastore, 1) := by decide +kernel
theorem gc_d140 : decode jdk_35_method_14_code 140 = .ok (.goto (-54), 3) := by decide +kernel
theorem gc_d143 : decode jdk_35_method_14_code 143 = .ok (.aload_n 3, 1) := by decide +kernel
theorem gc_d144 : decode jdk_35_method_14_code 144 = .ok (.iinc 7 (-1), 3) := by decide +kernel
theorem gc_d147 : decode jdk_35_method_14_code 147 = .ok (.iload 7, 2) := by decide +kernel
theorem gc_d149 : decode jdk_35_method_14_code 149 = .ok (.getstatic 133, 3) := by decide +kernel
theorem gc_d152 : decode jdk_35_method_14_code 152 = .ok (.iload 10, 2) := by decide +kernel
theorem gc_d154 : decode jdk_35_method_14_code 154 = .ok (.ineg, 1) := by decide +kernel
theorem gc_d155 : decode jdk_35_method_14_code 155 = .ok (.baload, 1) := by decide +kernel
theorem gc_d156 : decode jdk_35_method_14_code 156 = .ok (.bastore, 1) := by decide +kernel
theorem gc_d157 : decode jdk_35_method_14_code 157 = .ok (.iload 10, 2) := by decide +kernel
theorem gc_d159 : decode jdk_35_method_14_code 159 = .ok (.bipush (-9), 2) := by decide +kernel
theorem gc_d161 : decode jdk_35_method_14_code 161 = .ok (.if_icmp .ge 17, 3) := by decide +kernel
theorem gc_d164 : decode jdk_35_method_14_code 164 = .ok (.aload_n 3, 1) := by decide +kernel
theorem gc_d165 : decode jdk_35_method_14_code 165 = .ok (.iinc 7 (-1), 3) := by decide +kernel
theorem gc_d168 : decode jdk_35_method_14_code 168 = .ok (.iload 7, 2) := by decide +kernel
theorem gc_d170 : decode jdk_35_method_14_code 170 = .ok (.getstatic 137, 3) := by decide +kernel
theorem gc_d173 : decode jdk_35_method_14_code 173 = .ok (.iload 10, 2) := by decide +kernel
theorem gc_d175 : decode jdk_35_method_14_code 175 = .ok (.ineg, 1) := by decide +kernel
theorem gc_d176 : decode jdk_35_method_14_code 176 = .ok (.baload, 1) := by decide +kernel
theorem gc_d177 : decode jdk_35_method_14_code 177 = .ok (.bastore, 1) := by decide +kernel
theorem gc_d178 : decode jdk_35_method_14_code 178 = .ok (.iload 8, 2) := by decide +kernel
theorem gc_d180 : decode jdk_35_method_14_code 180 = .ok (.ifCond .eq 12, 3) := by decide +kernel
theorem gc_d192 : decode jdk_35_method_14_code 192 = .ok (.iload 7, 2) := by decide +kernel
theorem gc_d194 : decode jdk_35_method_14_code 194 = .ok (.ireturn, 1) := by decide +kernel
set_option maxRecDepth 65536 in
set_option maxHeartbeats 40000000 in
theorem gi_J {p : Program} {l : Launch} {e : Env} {s : State} {m : MethodId} {args : Array Value} {below : List Frame} {meth : Method} {c : Code} {T : State} {Z : State} {a0 : Array Value} {h : Heap} {locs : List Loc} (X : Stand p l e (⟨0, 0, 0, 0⟩ : Room) s m args below meth c T locs 0 0) (B : Bdy p s m meth c Z a0 "java/lang/Long" "getChars" jdk_35_method_14_code 11 (some .int) tables_1) (eT : T.heap = h) (n0 : Nat) (Zs : n0 ≤ h.size) (N : Fr n0 locs) (j0 : Int64) (i2 : Int32) (o3 : Addr) (j4 : Int64) (i6 : Int32) (i7 : Int32) (i8 : Int32) (i9 : Int32) (i10 : Int32) (M : Nat) (K : Nat) (w : Nat → Value) (ts : List Int32) (M0 : Nat) (k : Nat) (w0 : Nat → Value) (h0 : Heap) (a1 : Addr) (a2 : Addr) (hi8 : i8 = (0 : Int32)) (hM : i10.toInt = -(M : Int)) (hM31 : M < 2147483648) (hK : i7.toInt = (K : Int)) (hI : own_I M0 k w0 w M K ts) (ga : n0 ≤ o3) (Aw : Ax Z h o3 .byte 16 w) (KK : Keep h0 h [o3]) (S1 : Sta Z h "java/lang/Integer" "DigitOnes" "[B" (.ref a1)) (S2 : Sta Z h "java/lang/Integer" "DigitTens" "[B" (.ref a2)) (Da1 : Ax Z h a1 .byte 100 own_d1) (Da2 : Ax Z h a2 .byte 100 own_d2) (n1 : a1 ≠ o3) (n2 : a2 ≠ o3) :
    Go p e below s 0 0 (fun v h2 L => (∃ z, v = some (.int z)) ∧ Fr n0 L ∧ Keep h0 h2 [o3] ∧ ∃ w', Ax Z h2 o3 .byte 16 w' ∧ own_R M0 k w0 w') (T.setTop (mkF m 86 #[.val (.long j0), .second, .val (.int i2), .val (.ref o3), .val (.long j4), .second, .val (.int i6), .val (.int i7), .val (.int i8), .val (.int i9), .val (.int i10)] [])) := by
  subst hi8
  obtain ⟨k1, k2, k3⟩ := own_Kp hI
  refine g_iload X B gc_d86 (pc' := 88) rfl (v := i10) rfl ?_
  refine g_bipush X B gc_d88 (pc' := 90) rfl (v := (-100 : Int32)) (by decide) ?_
  refine g_icmp_gt X B gc_d90 (pcT := 143) (pcF := 93) (by decide) rfl rfl (fun c90_0 => ?_) (fun c90_0 => ?_)
  · rw [Int32.lt_iff_toInt_lt] at c90_0
    have k0 : (-100 : Int32).toInt = -100 := (by decide)
    have hlt : M < 100 := by omega
    refine g_aloadN X B gc_d143 (pc' := 144) rfl (v := (.ref o3)) rfl rfl ?_
    refine g_iinc X B gc_d144 (pc' := 147) rfl (v := i7) rfl (Ls' := #[.val (.long j0), .second, .val (.int i2), .val (.ref o3), .val (.long j4), .second, .val (.int i6), .val (.int (i7 + (-1 : Int32))), .val (.int (0 : Int32)), .val (.int i9), .val (.int i10)]) rfl ?_
    refine g_iload X B gc_d147 (pc' := 149) rfl (v := (i7 + (-1 : Int32))) rfl ?_
    refine g_getS X B (B.w 105 rfl) Via.refl eT S1 gc_d149 (pc' := 152) rfl (fun T1 X1 e1 => ?_)
    refine g_iload X1 B gc_d152 (pc' := 154) rfl (v := i10) rfl ?_
    refine g_ineg X1 B gc_d154 (pc' := 155) rfl ?_
    refine g_baloadB X1 B M e1 Da1 (own_ind hM hM31) (by omega) (v := (.int (Int32.ofNat (48 + M % 10)))) rfl gc_d155 (pc' := 156) rfl ?_
    refine g_bastoreB X1 B (K - 1) e1 Aw (own_dec hK k1) (by omega) gc_d156 (pc' := 157) rfl (fun T2 h2 X2 e2 W2 => ?_)
    have N2 := Fr.snoc X2 N ga
    have A_o3_2 := Aw.set W2
    have A_a1_2 := Da1.other W2 n1
    have A_a2_2 := Da2.other W2 n2
    have St_DigitOnes_2 := S1.wr W2
    have St_DigitTens_2 := S2.wr W2
    have Zs_2 := Nat.le_trans Zs (Keep.of_wr W2).1
    have K_2 := KK.wr W2 (Or.inl (List.mem_of_getElem? (i := 0) rfl))
    refine g_iload X2 B gc_d157 (pc' := 159) rfl (v := i10) rfl ?_
    refine g_bipush X2 B gc_d159 (pc' := 161) rfl (v := (-9 : Int32)) (by decide) ?_
    refine g_icmp_ge X2 B gc_d161 (pcT := 178) (pcF := 164) (by decide) rfl rfl (fun c161_1 => ?_) (fun c161_1 => ?_)
    · rw [Int32.lt_iff_toInt_lt] at c161_1
      have k9 : (-9 : Int32).toInt = -9 := (by decide)
      have hge9 : 10 ≤ M := by omega
      have k4 : 2 ≤ K := k3 (by omega)
      refine g_aloadN X2 B gc_d164 (pc' := 165) rfl (v := (.ref o3)) rfl rfl ?_
      refine g_iinc X2 B gc_d165 (pc' := 168) rfl (v := (i7 + (-1 : Int32))) rfl (Ls' := #[.val (.long j0), .second, .val (.int i2), .val (.ref o3), .val (.long j4), .second, .val (.int i6), .val (.int ((i7 + (-1 : Int32)) + (-1 : Int32))), .val (.int (0 : Int32)), .val (.int i9), .val (.int i10)]) rfl ?_
      refine g_iload X2 B gc_d168 (pc' := 170) rfl (v := ((i7 + (-1 : Int32)) + (-1 : Int32))) rfl ?_
      refine g_getS X2 B (B.w 231 rfl) Via.refl e2 St_DigitTens_2 gc_d170 (pc' := 173) rfl (fun T3 X3 e3 => ?_)
      refine g_iload X3 B gc_d173 (pc' := 175) rfl (v := i10) rfl ?_
      refine g_ineg X3 B gc_d175 (pc' := 176) rfl ?_
      refine g_baloadB X3 B M e3 A_a2_2 (own_ind hM hM31) (by omega) (v := (.int (Int32.ofNat (48 + M / 10)))) rfl gc_d176 (pc' := 177) rfl ?_
      refine g_bastoreB X3 B (K - 1 - 1) e3 A_o3_2 (own_dec (own_dec hK k1) (by omega)) (by omega) gc_d177 (pc' := 178) rfl (fun T4 h4 X4 e4 W4 => ?_)
      have N4 := Fr.snoc X4 N2 ga
      have A_o3_4 := A_o3_2.set W4
      have A_a1_4 := A_a1_2.other W4 n1
      have A_a2_4 := A_a2_2.other W4 n2
      have St_DigitOnes_4 := St_DigitOnes_2.wr W4
      have St_DigitTens_4 := St_DigitTens_2.wr W4
      have Zs_4 := Nat.le_trans Zs_2 (Keep.of_wr W4).1
      have K_4 := K_2.wr W4 (Or.inl (List.mem_of_getElem? (i := 0) rfl))
      refine g_iload X4 B gc_d178 (pc' := 180) rfl (v := (0 : Int32)) rfl ?_
      refine g_if_eq X4 B gc_d180 (pcT := 192) (pcF := 183) (by decide) rfl rfl (fun c180_2 => ?_) (fun c180_2 => ?_)
      · refine g_iload X4 B gc_d192 (pc' := 194) rfl (v := ((i7 + (-1 : Int32)) + (-1 : Int32))) rfl ?_
        exact g_retI X4 B rfl gc_d194 (by decide) (by decide) (by rw [e4]; exact ⟨⟨_, rfl⟩, N4, K_4, _, A_o3_4, own_I0 hI hge9 hlt⟩)
      · exact absurd (by decide) c180_2
    · rw [Int32.lt_iff_toInt_lt] at c161_1
      have k9 : (-9 : Int32).toInt = -9 := (by decide)
      have hlt9 : M < 10 := by omega
      refine g_iload X2 B gc_d178 (pc' := 180) rfl (v := (0 : Int32)) rfl ?_
      refine g_if_eq X2 B gc_d180 (pcT := 192) (pcF := 183) (by decide) rfl rfl (fun c180_2 => ?_) (fun c180_2 => ?_)
      · refine g_iload X2 B gc_d192 (pc' := 194) rfl (v := (i7 + (-1 : Int32))) rfl ?_
        exact g_retI X2 B rfl gc_d194 (by decide) (by decide) (by rw [e2]; exact ⟨⟨_, rfl⟩, N2, K_2, _, A_o3_2, own_I1 hI hlt9⟩)
      · exact absurd (by decide) c180_2
  · rw [Int32.lt_iff_toInt_lt] at c90_0
    have k0 : (-100 : Int32).toInt = -100 := (by decide)
    have hge : 100 ≤ M := by omega
    have k4 : 2 ≤ K := k3 (by omega)
    have hdec : M / 100 < M := by omega
    refine g_iload X B gc_d93 (pc' := 95) rfl (v := i10) rfl ?_
    refine g_bipush X B gc_d95 (pc' := 97) rfl (v := (100 : Int32)) (by decide) ?_
    refine g_idiv X B (by decide) gc_d97 (pc' := 98) rfl ?_
    refine g_istore X B gc_d98 (pc' := 100) rfl (Ls' := #[.val (.long j0), .second, .val (.int i2), .val (.ref o3), .val (.long j4), .second, .val (.int i6), .val (.int i7), .val (.int (0 : Int32)), .val (.int (i10 / (100 : Int32))), .val (.int i10)]) rfl ?_
    obtain ⟨i9q, g_i9q⟩ : ∃ z, z = (i10 / (100 : Int32)) := ⟨_, rfl⟩
    rw [← g_i9q]
    have hq9 : i9q.toInt = -((M / 100 : Nat) : Int) := by rw [g_i9q]; exact own_q100 hM
    refine g_iload X B gc_d100 (pc' := 102) rfl (v := i9q) rfl ?_
    refine g_bipush X B gc_d102 (pc' := 104) rfl (v := (100 : Int32)) (by decide) ?_
    refine g_imul X B gc_d104 (pc' := 105) rfl ?_
    refine g_iload X B gc_d105 (pc' := 107) rfl (v := i10) rfl ?_
    refine g_isub X B gc_d107 (pc' := 108) rfl ?_
    refine g_istore X B gc_d108 (pc' := 110) rfl (Ls' := #[.val (.long j0), .second, .val (.int i2), .val (.ref o3), .val (.long j4), .second, .val (.int ((i9q * (100 : Int32)) - i10)), .val (.int i7), .val (.int (0 : Int32)), .val (.int i9q), .val (.int i10)]) rfl ?_
    obtain ⟨i6q, g_i6q⟩ : ∃ z, z = ((i9q * (100 : Int32)) - i10) := ⟨_, rfl⟩
    rw [← g_i6q]
    have hr6 : i6q.toInt = ((M % 100 : Nat) : Int) := by rw [g_i6q, g_i9q]; exact own_r100 hM hM31
    refine g_iload X B gc_d110 (pc' := 112) rfl (v := i9q) rfl ?_
    refine g_istore X B gc_d112 (pc' := 114) rfl (Ls' := #[.val (.long j0), .second, .val (.int i2), .val (.ref o3), .val (.long j4), .second, .val (.int i6q), .val (.int i7), .val (.int (0 : Int32)), .val (.int i9q), .val (.int i9q)]) rfl ?_
    refine g_aloadN X B gc_d114 (pc' := 115) rfl (v := (.ref o3)) rfl rfl ?_
    refine g_iinc X B gc_d115 (pc' := 118) rfl (v := i7) rfl (Ls' := #[.val (.long j0), .second, .val (.int i2), .val (.ref o3), .val (.long j4), .second, .val (.int i6q), .val (.int (i7 + (-1 : Int32))), .val (.int (0 : Int32)), .val (.int i9q), .val (.int i9q)]) rfl ?_
    refine g_iload X B gc_d118 (pc' := 120) rfl (v := (i7 + (-1 : Int32))) rfl ?_
    refine g_getS X B (B.w 105 rfl) Via.refl eT S1 gc_d120 (pc' := 123) rfl (fun T5 X5 e5 => ?_)
    refine g_iload X5 B gc_d123 (pc' := 125) rfl (v := i6q) rfl ?_
    refine g_baloadB X5 B (M % 100) e5 Da1 hr6 (Nat.mod_lt _ (by decide)) (v := (.int (Int32.ofNat (48 + M % 100 % 10)))) rfl gc_d125 (pc' := 126) rfl ?_
    refine g_bastoreB X5 B (K - 1) e5 Aw (own_dec hK k1) (by omega) gc_d126 (pc' := 127) rfl (fun T6 h6 X6 e6 W6 => ?_)
    have N6 := Fr.snoc X6 N ga
    have A_o3_6 := Aw.set W6
    have A_a1_6 := Da1.other W6 n1
    have A_a2_6 := Da2.other W6 n2
    have St_DigitOnes_6 := S1.wr W6
    have St_DigitTens_6 := S2.wr W6
    have Zs_6 := Nat.le_trans Zs (Keep.of_wr W6).1
    have K_6 := KK.wr W6 (Or.inl (List.mem_of_getElem? (i := 0) rfl))
    refine g_aloadN X6 B gc_d127 (pc' := 128) rfl (v := (.ref o3)) rfl rfl ?_
    refine g_iinc X6 B gc_d128 (pc' := 131) rfl (v := (i7 + (-1 : Int32))) rfl (Ls' := #[.val (.long j0), .second, .val (.int i2), .val (.ref o3), .val (.long j4), .second, .val (.int i6q), .val (.int ((i7 + (-1 : Int32)) + (-1 : Int32))), .val (.int (0 : Int32)), .val (.int i9q), .val (.int i9q)]) rfl ?_
    refine g_iload X6 B gc_d131 (pc' := 133) rfl (v := ((i7 + (-1 : Int32)) + (-1 : Int32))) rfl ?_
    refine g_getS X6 B (B.w 231 rfl) Via.refl e6 St_DigitTens_6 gc_d133 (pc' := 136) rfl (fun T7 X7 e7 => ?_)
    refine g_iload X7 B gc_d136 (pc' := 138) rfl (v := i6q) rfl ?_
    refine g_baloadB X7 B (M % 100) e7 A_a2_6 hr6 (Nat.mod_lt _ (by decide)) (v := (.int (Int32.ofNat (48 + M % 100 / 10)))) rfl gc_d138 (pc' := 139) rfl ?_
    refine g_bastoreB X7 B (K - 1 - 1) e7 A_o3_6 (own_dec (own_dec hK k1) (by omega)) (by omega) gc_d139 (pc' := 140) rfl (fun T8 h8 X8 e8 W8 => ?_)
    have N8 := Fr.snoc X8 N6 ga
    have A_o3_8 := A_o3_6.set W8
    have A_a1_8 := A_a1_6.other W8 n1
    have A_a2_8 := A_a2_6.other W8 n2
    have St_DigitOnes_8 := St_DigitOnes_6.wr W8
    have St_DigitTens_8 := St_DigitTens_6.wr W8
    have Zs_8 := Nat.le_trans Zs_6 (Keep.of_wr W8).1
    have K_8 := K_6.wr W8 (Or.inl (List.mem_of_getElem? (i := 0) rfl))
    refine g_goto X8 B gc_d140 (pc' := 86) (by decide) rfl ?_
    have hI2 := own_I2 hI hge
    exact gi_J X8 B e8 n0 Zs_8 N8 (j0) (i2) (o3) (j4) (i6q) (((i7 + (-1 : Int32)) + (-1 : Int32))) ((0 : Int32)) (i9q) (i9q) (M / 100) (K - 1 - 1) _ _ M0 k w0 h0 a1 a2 rfl hq9 (by omega) (own_dec (own_dec hK k1) (by omega)) hI2 ga A_o3_8 K_8 St_DigitOnes_8 St_DigitTens_8 A_a1_8 A_a2_8 n1 n2
termination_by M
decreasing_by all_goals exact hdec
set_option maxRecDepth 65536 in
set_option maxHeartbeats 40000000 in
theorem fi_J {p : Program} {l : Launch} {e : Env} {s : State} {m : MethodId} {args : Array Value} {below : List Frame} {meth : Method} {c : Code} {T : State} {Z : State} {a0 : Array Value} {h : Heap} {locs : List Loc} (X : Stand p l e (⟨0, 0, 0, 0⟩ : Room) s m args below meth c T locs 0 0) (B : Bdy p s m meth c Z a0 "java/lang/Long" "getChars" jdk_35_method_14_code 11 (some .int) tables_1) (eT : T.heap = h) (n0 : Nat) (Zs : n0 ≤ h.size) (N : Fr n0 locs) (j0 : Int64) (i2 : Int32) (o3 : Addr) (j4 : Int64) (i6 : Int32) (i7 : Int32) (i8 : Int32) (i10 : Int32) (M : Nat) (K : Nat) (w : Nat → Value) (ts : List Int32) (M0 : Nat) (k : Nat) (w0 : Nat → Value) (h0 : Heap) (a1 : Addr) (a2 : Addr) (hi8 : i8 = (0 : Int32)) (hM : i10.toInt = -(M : Int)) (hM31 : M < 2147483648) (hK : i7.toInt = (K : Int)) (hI : own_I M0 k w0 w M K ts) (ga : n0 ≤ o3) (Aw : Ax Z h o3 .byte 16 w) (KK : Keep h0 h [o3]) (S1 : Sta Z h "java/lang/Integer" "DigitOnes" "[B" (.ref a1)) (S2 : Sta Z h "java/lang/Integer" "DigitTens" "[B" (.ref a2)) (Da1 : Ax Z h a1 .byte 100 own_d1) (Da2 : Ax Z h a2 .byte 100 own_d2) (n1 : a1 ≠ o3) (n2 : a2 ≠ o3) :
    Go p e below s 0 0 (fun v h2 L => (∃ z, v = some (.int z)) ∧ Fr n0 L ∧ Keep h0 h2 [o3] ∧ ∃ w', Ax Z h2 o3 .byte 16 w' ∧ own_R M0 k w0 w') (T.setTop (mkF m 86 #[.val (.long j0), .second, .val (.int i2), .val (.ref o3), .val (.long j4), .second, .val (.int i6), .val (.int i7), .val (.int i8), .unset, .val (.int i10)] [])) := by
  subst hi8
  obtain ⟨k1, k2, k3⟩ := own_Kp hI
  refine g_iload X B gc_d86 (pc' := 88) rfl (v := i10) rfl ?_
  refine g_bipush X B gc_d88 (pc' := 90) rfl (v := (-100 : Int32)) (by decide) ?_
  refine g_icmp_gt X B gc_d90 (pcT := 143) (pcF := 93) (by decide) rfl rfl (fun c90_0 => ?_) (fun c90_0 => ?_)
  · rw [Int32.lt_iff_toInt_lt] at c90_0
    have k0 : (-100 : Int32).toInt = -100 := (by decide)
    have hlt : M < 100 := by omega
    refine g_aloadN X B gc_d143 (pc' := 144) rfl (v := (.ref o3)) rfl rfl ?_
    refine g_iinc X B gc_d144 (pc' := 147) rfl (v := i7) rfl (Ls' := #[.val (.long j0), .second, .val (.int i2), .val (.ref o3), .val (.long j4), .second, .val (.int i6), .val (.int (i7 + (-1 : Int32))), .val (.int (0 : Int32)), .unset, .val (.int i10)]) rfl ?_
    refine g_iload X B gc_d147 (pc' := 149) rfl (v := (i7 + (-1 : Int32))) rfl ?_
    refine g_getS X B (B.w 105 rfl) Via.refl eT S1 gc_d149 (pc' := 152) rfl (fun T1 X1 e1 => ?_)
    refine g_iload X1 B gc_d152 (pc' := 154) rfl (v := i10) rfl ?_
    refine g_ineg X1 B gc_d154 (pc' := 155) rfl ?_
    refine g_baloadB X1 B M e1 Da1 (own_ind hM hM31) (by omega) (v := (.int (Int32.ofNat (48 + M % 10)))) rfl gc_d155 (pc' := 156) rfl ?_
    refine g_bastoreB X1 B (K - 1) e1 Aw (own_dec hK k1) (by omega) gc_d156 (pc' := 157) rfl (fun T2 h2 X2 e2 W2 => ?_)
    have N2 := Fr.snoc X2 N ga
    have A_o3_2 := Aw.set W2
    have A_a1_2 := Da1.other W2 n1
    have A_a2_2 := Da2.other W2 n2
    have St_DigitOnes_2 := S1.wr W2
    have St_DigitTens_2 := S2.wr W2
    have Zs_2 := Nat.le_trans Zs (Keep.of_wr W2).1
    have K_2 := KK.wr W2 (Or.inl (List.mem_of_getElem? (i := 0) rfl))
    refine g_iload X2 B gc_d157 (pc' := 159) rfl (v := i10) rfl ?_
    refine g_bipush X2 B gc_d159 (pc' := 161) rfl (v := (-9 : Int32)) (by decide) ?_
    refine g_icmp_ge X2 B gc_d161 (pcT := 178) (pcF := 164) (by decide) rfl rfl (fun c161_1 => ?_) (fun c161_1 => ?_)
    · rw [Int32.lt_iff_toInt_lt] at c161_1
      have k9 : (-9 : Int32).toInt = -9 := (by decide)
      have hge9 : 10 ≤ M := by omega
      have k4 : 2 ≤ K := k3 (by omega)
      refine g_aloadN X2 B gc_d164 (pc' := 165) rfl (v := (.ref o3)) rfl rfl ?_
      refine g_iinc X2 B gc_d165 (pc' := 168) rfl (v := (i7 + (-1 : Int32))) rfl (Ls' := #[.val (.long j0), .second, .val (.int i2), .val (.ref o3), .val (.long j4), .second, .val (.int i6), .val (.int ((i7 + (-1 : Int32)) + (-1 : Int32))), .val (.int (0 : Int32)), .unset, .val (.int i10)]) rfl ?_
      refine g_iload X2 B gc_d168 (pc' := 170) rfl (v := ((i7 + (-1 : Int32)) + (-1 : Int32))) rfl ?_
      refine g_getS X2 B (B.w 231 rfl) Via.refl e2 St_DigitTens_2 gc_d170 (pc' := 173) rfl (fun T3 X3 e3 => ?_)
      refine g_iload X3 B gc_d173 (pc' := 175) rfl (v := i10) rfl ?_
      refine g_ineg X3 B gc_d175 (pc' := 176) rfl ?_
      refine g_baloadB X3 B M e3 A_a2_2 (own_ind hM hM31) (by omega) (v := (.int (Int32.ofNat (48 + M / 10)))) rfl gc_d176 (pc' := 177) rfl ?_
      refine g_bastoreB X3 B (K - 1 - 1) e3 A_o3_2 (own_dec (own_dec hK k1) (by omega)) (by omega) gc_d177 (pc' := 178) rfl (fun T4 h4 X4 e4 W4 => ?_)
      have N4 := Fr.snoc X4 N2 ga
      have A_o3_4 := A_o3_2.set W4
      have A_a1_4 := A_a1_2.other W4 n1
      have A_a2_4 := A_a2_2.other W4 n2
      have St_DigitOnes_4 := St_DigitOnes_2.wr W4
      have St_DigitTens_4 := St_DigitTens_2.wr W4
      have Zs_4 := Nat.le_trans Zs_2 (Keep.of_wr W4).1
      have K_4 := K_2.wr W4 (Or.inl (List.mem_of_getElem? (i := 0) rfl))
      refine g_iload X4 B gc_d178 (pc' := 180) rfl (v := (0 : Int32)) rfl ?_
      refine g_if_eq X4 B gc_d180 (pcT := 192) (pcF := 183) (by decide) rfl rfl (fun c180_2 => ?_) (fun c180_2 => ?_)
      · refine g_iload X4 B gc_d192 (pc' := 194) rfl (v := ((i7 + (-1 : Int32)) + (-1 : Int32))) rfl ?_
        exact g_retI X4 B rfl gc_d194 (by decide) (by decide) (by rw [e4]; exact ⟨⟨_, rfl⟩, N4, K_4, _, A_o3_4, own_I0 hI hge9 hlt⟩)
      · exact absurd (by decide) c180_2
    · rw [Int32.lt_iff_toInt_lt] at c161_1
      have k9 : (-9 : Int32).toInt = -9 := (by decide)
      have hlt9 : M < 10 := by omega
      refine g_iload X2 B gc_d178 (pc' := 180) rfl (v := (0 : Int32)) rfl ?_
      refine g_if_eq X2 B gc_d180 (pcT := 192) (pcF := 183) (by decide) rfl rfl (fun c180_2 => ?_) (fun c180_2 => ?_)
      · refine g_iload X2 B gc_d192 (pc' := 194) rfl (v := (i7 + (-1 : Int32))) rfl ?_
        exact g_retI X2 B rfl gc_d194 (by decide) (by decide) (by rw [e2]; exact ⟨⟨_, rfl⟩, N2, K_2, _, A_o3_2, own_I1 hI hlt9⟩)
      · exact absurd (by decide) c180_2
  · rw [Int32.lt_iff_toInt_lt] at c90_0
    have k0 : (-100 : Int32).toInt = -100 := (by decide)
    have hge : 100 ≤ M := by omega
    have k4 : 2 ≤ K := k3 (by omega)
    have hdec : M / 100 < M := by omega
    refine g_iload X B gc_d93 (pc' := 95) rfl (v := i10) rfl ?_
    refine g_bipush X B gc_d95 (pc' := 97) rfl (v := (100 : Int32)) (by decide) ?_
    refine g_idiv X B (by decide) gc_d97 (pc' := 98) rfl ?_
    refine g_istore X B gc_d98 (pc' := 100) rfl (Ls' := #[.val (.long j0), .second, .val (.int i2), .val (.ref o3), .val (.long j4), .second, .val (.int i6), .val (.int i7), .val (.int (0 : Int32)), .val (.int (i10 / (100 : Int32))), .val (.int i10)]) rfl ?_
    obtain ⟨i9q, g_i9q⟩ : ∃ z, z = (i10 / (100 : Int32)) := ⟨_, rfl⟩
    rw [← g_i9q]
    have hq9 : i9q.toInt = -((M / 100 : Nat) : Int) := by rw [g_i9q]; exact own_q100 hM
    refine g_iload X B gc_d100 (pc' := 102) rfl (v := i9q) rfl ?_
    refine g_bipush X B gc_d102 (pc' := 104) rfl (v := (100 : Int32)) (by decide) ?_
    refine g_imul X B gc_d104 (pc' := 105) rfl ?_
    refine g_iload X B gc_d105 (pc' := 107) rfl (v := i10) rfl ?_
    refine g_isub X B gc_d107 (pc' := 108) rfl ?_
    refine g_istore X B gc_d108 (pc' := 110) rfl (Ls' := #[.val (.long j0), .second, .val (.int i2), .val (.ref o3), .val (.long j4), .second, .val (.int ((i9q * (100 : Int32)) - i10)), .val (.int i7), .val (.int (0 : Int32)), .val (.int i9q), .val (.int i10)]) rfl ?_
    obtain ⟨i6q, g_i6q⟩ : ∃ z, z = ((i9q * (100 : Int32)) - i10) := ⟨_, rfl⟩
    rw [← g_i6q]
    have hr6 : i6q.toInt = ((M % 100 : Nat) : Int) := by rw [g_i6q, g_i9q]; exact own_r100 hM hM31
    refine g_iload X B gc_d110 (pc' := 112) rfl (v := i9q) rfl ?_
    refine g_istore X B gc_d112 (pc' := 114) rfl (Ls' := #[.val (.long j0), .second, .val (.int i2), .val (.ref o3), .val (.long j4), .second, .val (.int i6q), .val (.int i7), .val (.int (0 : Int32)), .val (.int i9q), .val (.int i9q)]) rfl ?_
    refine g_aloadN X B gc_d114 (pc' := 115) rfl (v := (.ref o3)) rfl rfl ?_
    refine g_iinc X B gc_d115 (pc' := 118) rfl (v := i7) rfl (Ls' := #[.val (.long j0), .second, .val (.int i2), .val (.ref o3), .val (.long j4), .second, .val (.int i6q), .val (.int (i7 + (-1 : Int32))), .val (.int (0 : Int32)), .val (.int i9q), .val (.int i9q)]) rfl ?_
    refine g_iload X B gc_d118 (pc' := 120) rfl (v := (i7 + (-1 : Int32))) rfl ?_
    refine g_getS X B (B.w 105 rfl) Via.refl eT S1 gc_d120 (pc' := 123) rfl (fun T5 X5 e5 => ?_)
    refine g_iload X5 B gc_d123 (pc' := 125) rfl (v := i6q) rfl ?_
    refine g_baloadB X5 B (M % 100) e5 Da1 hr6 (Nat.mod_lt _ (by decide)) (v := (.int (Int32.ofNat (48 + M % 100 % 10)))) rfl gc_d125 (pc' := 126) rfl ?_
    refine g_bastoreB X5 B (K - 1) e5 Aw (own_dec hK k1) (by omega) gc_d126 (pc' := 127) rfl (fun T6 h6 X6 e6 W6 => ?_)
    have N6 := Fr.snoc X6 N ga
    have A_o3_6 := Aw.set W6
    have A_a1_6 := Da1.other W6 n1
    have A_a2_6 := Da2.other W6 n2
    have St_DigitOnes_6 := S1.wr W6
    have St_DigitTens_6 := S2.wr W6
    have Zs_6 := Nat.le_trans Zs (Keep.of_wr W6).1
    have K_6 := KK.wr W6 (Or.inl (List.mem_of_getElem? (i := 0) rfl))
    refine g_aloadN X6 B gc_d127 (pc' := 128) rfl (v := (.ref o3)) rfl rfl ?_
    refine g_iinc X6 B gc_d128 (pc' := 131) rfl (v := (i7 + (-1 : Int32))) rfl (Ls' := #[.val (.long j0), .second, .val (.int i2), .val (.ref o3), .val (.long j4), .second, .val (.int i6q), .val (.int ((i7 + (-1 : Int32)) + (-1 : Int32))), .val (.int (0 : Int32)), .val (.int i9q), .val (.int i9q)]) rfl ?_
    refine g_iload X6 B gc_d131 (pc' := 133) rfl (v := ((i7 + (-1 : Int32)) + (-1 : Int32))) rfl ?_
    refine g_getS X6 B (B.w 231 rfl) Via.refl e6 St_DigitTens_6 gc_d133 (pc' := 136) rfl (fun T7 X7 e7 => ?_)
    refine g_iload X7 B gc_d136 (pc' := 138) rfl (v := i6q) rfl ?_
    refine g_baloadB X7 B (M % 100) e7 A_a2_6 hr6 (Nat.mod_lt _ (by decide)) (v := (.int (Int32.ofNat (48 + M % 100 / 10)))) rfl gc_d138 (pc' := 139) rfl ?_
    refine g_bastoreB X7 B (K - 1 - 1) e7 A_o3_6 (own_dec (own_dec hK k1) (by omega)) (by omega) gc_d139 (pc' := 140) rfl (fun T8 h8 X8 e8 W8 => ?_)
    have N8 := Fr.snoc X8 N6 ga
    have A_o3_8 := A_o3_6.set W8
    have A_a1_8 := A_a1_6.other W8 n1
    have A_a2_8 := A_a2_6.other W8 n2
    have St_DigitOnes_8 := St_DigitOnes_6.wr W8
    have St_DigitTens_8 := St_DigitTens_6.wr W8
    have Zs_8 := Nat.le_trans Zs_6 (Keep.of_wr W8).1
    have K_8 := K_6.wr W8 (Or.inl (List.mem_of_getElem? (i := 0) rfl))
    refine g_goto X8 B gc_d140 (pc' := 86) (by decide) rfl ?_
    have hI2 := own_I2 hI hge
    exact gi_J X8 B e8 n0 Zs_8 N8 (j0) (i2) (o3) (j4) (i6q) (((i7 + (-1 : Int32)) + (-1 : Int32))) ((0 : Int32)) (i9q) (i9q) (M / 100) (K - 1 - 1) _ _ M0 k w0 h0 a1 a2 rfl hq9 (by omega) (own_dec (own_dec hK k1) (by omega)) hI2 ga A_o3_8 K_8 St_DigitOnes_8 St_DigitTens_8 A_a1_8 A_a2_8 n1 n2
set_option maxRecDepth 65536 in
set_option maxHeartbeats 40000000 in
theorem gi_U {p : Program} {l : Launch} {e : Env} {s : State} {m : MethodId} {args : Array Value} {below : List Frame} {meth : Method} {c : Code} {T : State} {Z : State} {a0 : Array Value} {h : Heap} {locs : List Loc} (X : Stand p l e (⟨0, 0, 0, 0⟩ : Room) s m args below meth c T locs 0 0) (B : Bdy p s m meth c Z a0 "java/lang/Long" "getChars" jdk_35_method_14_code 11 (some .int) tables_1) (eT : T.heap = h) (n0 : Nat) (Zs : n0 ≤ h.size) (N : Fr n0 locs) (j0 : Int64) (i2 : Int32) (o3 : Addr) (i6 : Int32) (i7 : Int32) (i8 : Int32) (i9 : Int32) (i10 : Int32) (M : Nat) (K : Nat) (w : Nat → Value) (ts : List Int32) (M0 : Nat) (k : Nat) (w0 : Nat → Value) (h0 : Heap) (a1 : Addr) (a2 : Addr) (hi8 : i8 = (0 : Int32)) (hM : i10.toInt = -(M : Int)) (hM31 : M < 2147483648) (hK : i7.toInt = (K : Int)) (hI : own_I M0 k w0 w M K ts) (ga : n0 ≤ o3) (Aw : Ax Z h o3 .byte 16 w) (KK : Keep h0 h [o3]) (S1 : Sta Z h "java/lang/Integer" "DigitOnes" "[B" (.ref a1)) (S2 : Sta Z h "java/lang/Integer" "DigitTens" "[B" (.ref a2)) (Da1 : Ax Z h a1 .byte 100 own_d1) (Da2 : Ax Z h a2 .byte 100 own_d2) (n1 : a1 ≠ o3) (n2 : a2 ≠ o3) :
    Go p e below s 0 0 (fun v h2 L => (∃ z, v = some (.int z)) ∧ Fr n0 L ∧ Keep h0 h2 [o3] ∧ ∃ w', Ax Z h2 o3 .byte 16 w' ∧ own_R M0 k w0 w') (T.setTop (mkF m 86 #[.val (.long j0), .second, .val (.int i2), .val (.ref o3), .unset, .unset, .val (.int i6), .val (.int i7), .val (.int i8), .val (.int i9), .val (.int i10)] [])) := by
  subst hi8
  obtain ⟨k1, k2, k3⟩ := own_Kp hI
  refine g_iload X B gc_d86 (pc' := 88) rfl (v := i10) rfl ?_
  refine g_bipush X B gc_d88 (pc' := 90) rfl (v := (-100 : Int32)) (by decide) ?_
  refine g_icmp_gt X B gc_d90 (pcT := 143) (pcF := 93) (by decide) rfl rfl (fun c90_0 => ?_) (fun c90_0 => ?_)
  · rw [Int32.lt_iff_toInt_lt] at c90_0
    have k0 : (-100 : Int32).toInt = -100 := (by decide)
    have hlt : M < 100 := by omega
    refine g_aloadN X B gc_d143 (pc' := 144) rfl (v := (.ref o3)) rfl rfl ?_
    refine g_iinc X B gc_d144 (pc' := 147) rfl (v := i7) rfl (Ls' := #[.val (.long j0), .second, .val (.int i2), .val (.ref o3), .unset, .unset, .val (.int i6), .val (.int (i7 + (-1 : Int32))), .val (.int (0 : Int32)), .val (.int i9), .val (.int i10)]) rfl ?_
    refine g_iload X B gc_d147 (pc' := 149) rfl (v := (i7 + (-1 : Int32))) rfl ?_
    refine g_getS X B (B.w 105 rfl) Via.refl eT S1 gc_d149 (pc' := 152) rfl (fun T1 X1 e1 => ?_)
    refine g_iload X1 B gc_d152 (pc' := 154) rfl (v := i10) rfl ?_
    refine g_ineg X1 B gc_d154 (pc' := 155) rfl ?_
    refine g_baloadB X1 B M e1 Da1 (own_ind hM hM31) (by omega) (v := (.int (Int32.ofNat (48 + M % 10)))) rfl gc_d155 (pc' := 156) rfl ?_
    refine g_bastoreB X1 B (K - 1) e1 Aw (own_dec hK k1) (by omega) gc_d156 (pc' := 157) rfl (fun T2 h2 X2 e2 W2 => ?_)
    have N2 := Fr.snoc X2 N ga
    have A_o3_2 := Aw.set W2
    have A_a1_2 := Da1.other W2 n1
    have A_a2_2 := Da2.other W2 n2
    have St_DigitOnes_2 := S1.wr W2
    have St_DigitTens_2 := S2.wr W2
    have Zs_2 := Nat.le_trans Zs (Keep.of_wr W2).1
    have K_2 := KK.wr W2 (Or.inl (List.mem_of_getElem? (i := 0) rfl))
    refine g_iload X2 B gc_d157 (pc' := 159) rfl (v := i10) rfl ?_
    refine g_bipush X2 B gc_d159 (pc' := 161) rfl (v := (-9 : Int32)) (by decide) ?_
    refine g_icmp_ge X2 B gc_d161 (pcT := 178) (pcF := 164) (by decide) rfl rfl (fun c161_1 => ?_) (fun c161_1 => ?_)
    · rw [Int32.lt_iff_toInt_lt] at c161_1
      have k9 : (-9 : Int32).toInt = -9 := (by decide)
      have hge9 : 10 ≤ M := by omega
      have k4 : 2 ≤ K := k3 (by omega)
      refine g_aloadN X2 B gc_d164 (pc' := 165) rfl (v := (.ref o3)) rfl rfl ?_
      refine g_iinc X2 B gc_d165 (pc' := 168) rfl (v := (i7 + (-1 : Int32))) rfl (Ls' := #[.val (.long j0), .second, .val (.int i2), .val (.ref o3), .unset, .unset, .val (.int i6), .val (.int ((i7 + (-1 : Int32)) + (-1 : Int32))), .val (.int (0 : Int32)), .val (.int i9), .val (.int i10)]) rfl ?_
      refine g_iload X2 B gc_d168 (pc' := 170) rfl (v := ((i7 + (-1 : Int32)) + (-1 : Int32))) rfl ?_
      refine g_getS X2 B (B.w 231 rfl) Via.refl e2 St_DigitTens_2 gc_d170 (pc' := 173) rfl (fun T3 X3 e3 => ?_)
      refine g_iload X3 B gc_d173 (pc' := 175) rfl (v := i10) rfl ?_
      refine g_ineg X3 B gc_d175 (pc' := 176) rfl ?_
      refine g_baloadB X3 B M e3 A_a2_2 (own_ind hM hM31) (by omega) (v := (.int (Int32.ofNat (48 + M / 10)))) rfl gc_d176 (pc' := 177) rfl ?_
      refine g_bastoreB X3 B (K - 1 - 1) e3 A_o3_2 (own_dec (own_dec hK k1) (by omega)) (by omega) gc_d177 (pc' := 178) rfl (fun T4 h4 X4 e4 W4 => ?_)
      have N4 := Fr.snoc X4 N2 ga
      have A_o3_4 := A_o3_2.set W4
      have A_a1_4 := A_a1_2.other W4 n1
      have A_a2_4 := A_a2_2.other W4 n2
      have St_DigitOnes_4 := St_DigitOnes_2.wr W4
      have St_DigitTens_4 := St_DigitTens_2.wr W4
      have Zs_4 := Nat.le_trans Zs_2 (Keep.of_wr W4).1
      have K_4 := K_2.wr W4 (Or.inl (List.mem_of_getElem? (i := 0) rfl))
      refine g_iload X4 B gc_d178 (pc' := 180) rfl (v := (0 : Int32)) rfl ?_
      refine g_if_eq X4 B gc_d180 (pcT := 192) (pcF := 183) (by decide) rfl rfl (fun c180_2 => ?_) (fun c180_2 => ?_)
      · refine g_iload X4 B gc_d192 (pc' := 194) rfl (v := ((i7 + (-1 : Int32)) + (-1 : Int32))) rfl ?_
        exact g_retI X4 B rfl gc_d194 (by decide) (by decide) (by rw [e4]; exact ⟨⟨_, rfl⟩, N4, K_4, _, A_o3_4, own_I0 hI hge9 hlt⟩)
      · exact absurd (by decide) c180_2
    · rw [Int32.lt_iff_toInt_lt] at c161_1
      have k9 : (-9 : Int32).toInt = -9 := (by decide)
      have hlt9 : M < 10 := by omega
      refine g_iload X2 B gc_d178 (pc' := 180) rfl (v := (0 : Int32)) rfl ?_
      refine g_if_eq X2 B gc_d180 (pcT := 192) (pcF := 183) (by decide) rfl rfl (fun c180_2 => ?_) (fun c180_2 => ?_)
      · refine g_iload X2 B gc_d192 (pc' := 194) rfl (v := (i7 + (-1 : Int32))) rfl ?_
        exact g_retI X2 B rfl gc_d194 (by decide) (by decide) (by rw [e2]; exact ⟨⟨_, rfl⟩, N2, K_2, _, A_o3_2, own_I1 hI hlt9⟩)
      · exact absurd (by decide) c180_2
  · rw [Int32.lt_iff_toInt_lt] at c90_0
    have k0 : (-100 : Int32).toInt = -100 := (by decide)
    have hge : 100 ≤ M := by omega
    have k4 : 2 ≤ K := k3 (by omega)
    have hdec : M / 100 < M := by omega
    refine g_iload X B gc_d93 (pc' := 95) rfl (v := i10) rfl ?_
    refine g_bipush X B gc_d95 (pc' := 97) rfl (v := (100 : Int32)) (by decide) ?_
    refine g_idiv X B (by decide) gc_d97 (pc' := 98) rfl ?_
    refine g_istore X B gc_d98 (pc' := 100) rfl (Ls' := #[.val (.long j0), .second, .val (.int i2), .val (.ref o3), .unset, .unset, .val (.int i6), .val (.int i7), .val (.int (0 : Int32)), .val (.int (i10 / (100 : Int32))), .val (.int i10)]) rfl ?_
    obtain ⟨i9q, g_i9q⟩ : ∃ z, z = (i10 / (100 : Int32)) := ⟨_, rfl⟩
    rw [← g_i9q]
    have hq9 : i9q.toInt = -((M / 100 : Nat) : Int) := by rw [g_i9q]; exact own_q100 hM
    refine g_iload X B gc_d100 (pc' := 102) rfl (v := i9q) rfl ?_
    refine g_bipush X B gc_d102 (pc' := 104) rfl (v := (100 : Int32)) (by decide) ?_
    refine g_imul X B gc_d104 (pc' := 105) rfl ?_
    refine g_iload X B gc_d105 (pc' := 107) rfl (v := i10) rfl ?_
    refine g_isub X B gc_d107 (pc' := 108) rfl ?_
    refine g_istore X B gc_d108 (pc' := 110) rfl (Ls' := #[.val (.long j0), .second, .val (.int i2), .val (.ref o3), .unset, .unset, .val (.int ((i9q * (100 : Int32)) - i10)), .val (.int i7), .val (.int (0 : Int32)), .val (.int i9q), .val (.int i10)]) rfl ?_
    obtain ⟨i6q, g_i6q⟩ : ∃ z, z = ((i9q * (100 : Int32)) - i10) := ⟨_, rfl⟩
    rw [← g_i6q]
    have hr6 : i6q.toInt = ((M % 100 : Nat) : Int) := by rw [g_i6q, g_i9q]; exact own_r100 hM hM31
    refine g_iload X B gc_d110 (pc' := 112) rfl (v := i9q) rfl ?_
    refine g_istore X B gc_d112 (pc' := 114) rfl (Ls' := #[.val (.long j0), .second, .val (.int i2), .val (.ref o3), .unset, .unset, .val (.int i6q), .val (.int i7), .val (.int (0 : Int32)), .val (.int i9q), .val (.int i9q)]) rfl ?_
    refine g_aloadN X B gc_d114 (pc' := 115) rfl (v := (.ref o3)) rfl rfl ?_
    refine g_iinc X B gc_d115 (pc' := 118) rfl (v := i7) rfl (Ls' := #[.val (.long j0), .second, .val (.int i2), .val (.ref o3), .unset, .unset, .val (.int i6q), .val (.int (i7 + (-1 : Int32))), .val (.int (0 : Int32)), .val (.int i9q), .val (.int i9q)]) rfl ?_
    refine g_iload X B gc_d118 (pc' := 120) rfl (v := (i7 + (-1 : Int32))) rfl ?_
    refine g_getS X B (B.w 105 rfl) Via.refl eT S1 gc_d120 (pc' := 123) rfl (fun T5 X5 e5 => ?_)
    refine g_iload X5 B gc_d123 (pc' := 125) rfl (v := i6q) rfl ?_
    refine g_baloadB X5 B (M % 100) e5 Da1 hr6 (Nat.mod_lt _ (by decide)) (v := (.int (Int32.ofNat (48 + M % 100 % 10)))) rfl gc_d125 (pc' := 126) rfl ?_
    refine g_bastoreB X5 B (K - 1) e5 Aw (own_dec hK k1) (by omega) gc_d126 (pc' := 127) rfl (fun T6 h6 X6 e6 W6 => ?_)
    have N6 := Fr.snoc X6 N ga
    have A_o3_6 := Aw.set W6
    have A_a1_6 := Da1.other W6 n1
    have A_a2_6 := Da2.other W6 n2
    have St_DigitOnes_6 := S1.wr W6
    have St_DigitTens_6 := S2.wr W6
    have Zs_6 := Nat.le_trans Zs (Keep.of_wr W6).1
    have K_6 := KK.wr W6 (Or.inl (List.mem_of_getElem? (i := 0) rfl))
    refine g_aloadN X6 B gc_d127 (pc' := 128) rfl (v := (.ref o3)) rfl rfl ?_
    refine g_iinc X6 B gc_d128 (pc' := 131) rfl (v := (i7 + (-1 : Int32))) rfl (Ls' := #[.val (.long j0), .second, .val (.int i2), .val (.ref o3), .unset, .unset, .val (.int i6q), .val (.int ((i7 + (-1 : Int32)) + (-1 : Int32))), .val (.int (0 : Int32)), .val (.int i9q), .val (.int i9q)]) rfl ?_
    refine g_iload X6 B gc_d131 (pc' := 133) rfl (v := ((i7 + (-1 : Int32)) + (-1 : Int32))) rfl ?_
    refine g_getS X6 B (B.w 231 rfl) Via.refl e6 St_DigitTens_6 gc_d133 (pc' := 136) rfl (fun T7 X7 e7 => ?_)
    refine g_iload X7 B gc_d136 (pc' := 138) rfl (v := i6q) rfl ?_
    refine g_baloadB X7 B (M % 100) e7 A_a2_6 hr6 (Nat.mod_lt _ (by decide)) (v := (.int (Int32.ofNat (48 + M % 100 / 10)))) rfl gc_d138 (pc' := 139) rfl ?_
    refine g_bastoreB X7 B (K - 1 - 1) e7 A_o3_6 (own_dec (own_dec hK k1) (by omega)) (by omega) gc_d139 (pc' := 140) rfl (fun T8 h8 X8 e8 W8 => ?_)
    have N8 := Fr.snoc X8 N6 ga
    have A_o3_8 := A_o3_6.set W8
    have A_a1_8 := A_a1_6.other W8 n1
    have A_a2_8 := A_a2_6.other W8 n2
    have St_DigitOnes_8 := St_DigitOnes_6.wr W8
    have St_DigitTens_8 := St_DigitTens_6.wr W8
    have Zs_8 := Nat.le_trans Zs_6 (Keep.of_wr W8).1
    have K_8 := K_6.wr W8 (Or.inl (List.mem_of_getElem? (i := 0) rfl))
    refine g_goto X8 B gc_d140 (pc' := 86) (by decide) rfl ?_
    have hI2 := own_I2 hI hge
    exact gi_U X8 B e8 n0 Zs_8 N8 (j0) (i2) (o3) (i6q) (((i7 + (-1 : Int32)) + (-1 : Int32))) ((0 : Int32)) (i9q) (i9q) (M / 100) (K - 1 - 1) _ _ M0 k w0 h0 a1 a2 rfl hq9 (by omega) (own_dec (own_dec hK k1) (by omega)) hI2 ga A_o3_8 K_8 St_DigitOnes_8 St_DigitTens_8 A_a1_8 A_a2_8 n1 n2
termination_by M
decreasing_by all_goals exact hdec
set_option maxRecDepth 65536 in
set_option maxHeartbeats 40000000 in
theorem fi_U {p : Program} {l : Launch} {e : Env} {s : State} {m : MethodId} {args : Array Value} {below : List Frame} {meth : Method} {c : Code} {T : State} {Z : State} {a0 : Array Value} {h : Heap} {locs : List Loc} (X : Stand p l e (⟨0, 0, 0, 0⟩ : Room) s m args below meth c T locs 0 0) (B : Bdy p s m meth c Z a0 "java/lang/Long" "getChars" jdk_35_method_14_code 11 (some .int) tables_1) (eT : T.heap = h) (n0 : Nat) (Zs : n0 ≤ h.size) (N : Fr n0 locs) (j0 : Int64) (i2 : Int32) (o3 : Addr) (i7 : Int32) (i8 : Int32) (i10 : Int32) (M : Nat) (K : Nat) (w : Nat → Value) (ts : List Int32) (M0 : Nat) (k : Nat) (w0 : Nat → Value) (h0 : Heap) (a1 : Addr) (a2 : Addr) (hi8 : i8 = (0 : Int32)) (hM : i10.toInt = -(M : Int)) (hM31 : M < 2147483648) (hK : i7.toInt = (K : Int)) (hI : own_I M0 k w0 w M K ts) (ga : n0 ≤ o3) (Aw : Ax Z h o3 .byte 16 w) (KK : Keep h0 h [o3]) (S1 : Sta Z h "java/lang/Integer" "DigitOnes" "[B" (.ref a1)) (S2 : Sta Z h "java/lang/Integer" "DigitTens" "[B" (.ref a2)) (Da1 : Ax Z h a1 .byte 100 own_d1) (Da2 : Ax Z h a2 .byte 100 own_d2) (n1 : a1 ≠ o3) (n2 : a2 ≠ o3) :
    Go p e below s 0 0 (fun v h2 L => (∃ z, v = some (.int z)) ∧ Fr n0 L ∧ Keep h0 h2 [o3] ∧ ∃ w', Ax Z h2 o3 .byte 16 w' ∧ own_R M0 k w0 w') (T.setTop (mkF m 86 #[.val (.long j0), .second, .val (.int i2), .val (.ref o3), .unset, .unset, .unset, .val (.int i7), .val (.int i8), .unset, .val (.int i10)] [])) := by
  subst hi8
  obtain ⟨k1, k2, k3⟩ := own_Kp hI
  refine g_iload X B gc_d86 (pc' := 88) rfl (v := i10) rfl ?_
  refine g_bipush X B gc_d88 (pc' := 90) rfl (v := (-100 : Int32)) (by decide) ?_
  refine g_icmp_gt X B gc_d90 (pcT := 143) (pcF := 93) (by decide) rfl rfl (fun c90_0 => ?_) (fun c90_0 => ?_)
  · rw [Int32.lt_iff_toInt_lt] at c90_0
    have k0 : (-100 : Int32).toInt = -100 := (by decide)
    have hlt : M < 100 := by omega
    refine g_aloadN X B gc_d143 (pc' := 144) rfl (v := (.ref o3)) rfl rfl ?_
    refine g_iinc X B gc_d144 (pc' := 147) rfl (v := i7) rfl (Ls' := #[.val (.long j0), .second, .val (.int i2), .val (.ref o3), .unset, .unset, .unset, .val (.int (i7 + (-1 : Int32))), .val (.int (0 : Int32)), .unset, .val (.int i10)]) rfl ?_
    refine g_iload X B gc_d147 (pc' := 149) rfl (v := (i7 + (-1 : Int32))) rfl ?_
    refine g_getS X B (B.w 105 rfl) Via.refl eT S1 gc_d149 (pc' := 152) rfl (fun T1 X1 e1 => ?_)
    refine g_iload X1 B gc_d152 (pc' := 154) rfl (v := i10) rfl ?_
    refine g_ineg X1 B gc_d154 (pc' := 155) rfl ?_
    refine g_baloadB X1 B M e1 Da1 (own_ind hM hM31) (by omega) (v := (.int (Int32.ofNat (48 + M % 10)))) rfl gc_d155 (pc' := 156) rfl ?_
    refine g_bastoreB X1 B (K - 1) e1 Aw (own_dec hK k1) (by omega) gc_d156 (pc' := 157) rfl (fun T2 h2 X2 e2 W2 => ?_)
    have N2 := Fr.snoc X2 N ga
    have A_o3_2 := Aw.set W2
    have A_a1_2 := Da1.other W2 n1
    have A_a2_2 := Da2.other W2 n2
    have St_DigitOnes_2 := S1.wr W2
    have St_DigitTens_2 := S2.wr W2
    have Zs_2 := Nat.le_trans Zs (Keep.of_wr W2).1
    have K_2 := KK.wr W2 (Or.inl (List.mem_of_getElem? (i := 0) rfl))
    refine g_iload X2 B gc_d157 (pc' := 159) rfl (v := i10) rfl ?_
    refine g_bipush X2 B gc_d159 (pc' := 161) rfl (v := (-9 : Int32)) (by decide) ?_
    refine g_icmp_ge X2 B gc_d161 (pcT := 178) (pcF := 164) (by decide) rfl rfl (fun c161_1 => ?_) (fun c161_1 => ?_)
    · rw [Int32.lt_iff_toInt_lt] at c161_1
      have k9 : (-9 : Int32).toInt = -9 := (by decide)
      have hge9 : 10 ≤ M := by omega
      have k4 : 2 ≤ K := k3 (by omega)
      refine g_aloadN X2 B gc_d164 (pc' := 165) rfl (v := (.ref o3)) rfl rfl ?_
      refine g_iinc X2 B gc_d165 (pc' := 168) rfl (v := (i7 + (-1 : Int32))) rfl (Ls' := #[.val (.long j0), .second, .val (.int i2), .val (.ref o3), .unset, .unset, .unset, .val (.int ((i7 + (-1 : Int32)) + (-1 : Int32))), .val (.int (0 : Int32)), .unset, .val (.int i10)]) rfl ?_
      refine g_iload X2 B gc_d168 (pc' := 170) rfl (v := ((i7 + (-1 : Int32)) + (-1 : Int32))) rfl ?_
      refine g_getS X2 B (B.w 231 rfl) Via.refl e2 St_DigitTens_2 gc_d170 (pc' := 173) rfl (fun T3 X3 e3 => ?_)
      refine g_iload X3 B gc_d173 (pc' := 175) rfl (v := i10) rfl ?_
      refine g_ineg X3 B gc_d175 (pc' := 176) rfl ?_
      refine g_baloadB X3 B M e3 A_a2_2 (own_ind hM hM31) (by omega) (v := (.int (Int32.ofNat (48 + M / 10)))) rfl gc_d176 (pc' := 177) rfl ?_
      refine g_bastoreB X3 B (K - 1 - 1) e3 A_o3_2 (own_dec (own_dec hK k1) (by omega)) (by omega) gc_d177 (pc' := 178) rfl (fun T4 h4 X4 e4 W4 => ?_)
      have N4 := Fr.snoc X4 N2 ga
      have A_o3_4 := A_o3_2.set W4
      have A_a1_4 := A_a1_2.other W4 n1
      have A_a2_4 := A_a2_2.other W4 n2
      have St_DigitOnes_4 := St_DigitOnes_2.wr W4
      have St_DigitTens_4 := St_DigitTens_2.wr W4
      have Zs_4 := Nat.le_trans Zs_2 (Keep.of_wr W4).1
      have K_4 := K_2.wr W4 (Or.inl (List.mem_of_getElem? (i := 0) rfl))
      refine g_iload X4 B gc_d178 (pc' := 180) rfl (v := (0 : Int32)) rfl ?_
      refine g_if_eq X4 B gc_d180 (pcT := 192) (pcF := 183) (by decide) rfl rfl (fun c180_2 => ?_) (fun c180_2 => ?_)
      · refine g_iload X4 B gc_d192 (pc' := 194) rfl (v := ((i7 + (-1 : Int32)) + (-1 : Int32))) rfl ?_
        exact g_retI X4 B rfl gc_d194 (by decide) (by decide) (by rw [e4]; exact ⟨⟨_, rfl⟩, N4, K_4, _, A_o3_4, own_I0 hI hge9 hlt⟩)
      · exact absurd (by decide) c180_2
    · rw [Int32.lt_iff_toInt_lt] at c161_1
      have k9 : (-9 : Int32).toInt = -9 := (by decide)
      have hlt9 : M < 10 := by omega
      refine g_iload X2 B gc_d178 (pc' := 180) rfl (v := (0 : Int32)) rfl ?_
      refine g_if_eq X2 B gc_d180 (pcT := 192) (pcF := 183) (by decide) rfl rfl (fun c180_2 => ?_) (fun c180_2 => ?_)
      · refine g_iload X2 B gc_d192 (pc' := 194) rfl (v := (i7 + (-1 : Int32))) rfl ?_
        exact g_retI X2 B rfl gc_d194 (by decide) (by decide) (by rw [e2]; exact ⟨⟨_, rfl⟩, N2, K_2, _, A_o3_2, own_I1 hI hlt9⟩)
      · exact absurd (by decide) c180_2
  · rw [Int32.lt_iff_toInt_lt] at c90_0
    have k0 : (-100 : Int32).toInt = -100 := (by decide)
    have hge : 100 ≤ M := by omega
    have k4 : 2 ≤ K := k3 (by omega)
    have hdec : M / 100 < M := by omega
    refine g_iload X B gc_d93 (pc' := 95) rfl (v := i10) rfl ?_
    refine g_bipush X B gc_d95 (pc' := 97) rfl (v := (100 : Int32)) (by decide) ?_
    refine g_idiv X B (by decide) gc_d97 (pc' := 98) rfl ?_
    refine g_istore X B gc_d98 (pc' := 100) rfl (Ls' := #[.val (.long j0), .second, .val (.int i2), .val (.ref o3), .unset, .unset, .unset, .val (.int i7), .val (.int (0 : Int32)), .val (.int (i10 / (100 : Int32))), .val (.int i10)]) rfl ?_
    obtain ⟨i9q, g_i9q⟩ : ∃ z, z = (i10 / (100 : Int32)) := ⟨_, rfl⟩
    rw [← g_i9q]
    have hq9 : i9q.toInt = -((M / 100 : Nat) : Int) := by rw [g_i9q]; exact own_q100 hM
    refine g_iload X B gc_d100 (pc' := 102) rfl (v := i9q) rfl ?_
    refine g_bipush X B gc_d102 (pc' := 104) rfl (v := (100 : Int32)) (by decide) ?_
    refine g_imul X B gc_d104 (pc' := 105) rfl ?_
    refine g_iload X B gc_d105 (pc' := 107) rfl (v := i10) rfl ?_
    refine g_isub X B gc_d107 (pc' := 108) rfl ?_
    refine g_istore X B gc_d108 (pc' := 110) rfl (Ls' := #[.val (.long j0), .second, .val (.int i2), .val (.ref o3), .unset, .unset, .val (.int ((i9q * (100 : Int32)) - i10)), .val (.int i7), .val (.int (0 : Int32)), .val (.int i9q), .val (.int i10)]) rfl ?_
    obtain ⟨i6q, g_i6q⟩ : ∃ z, z = ((i9q * (100 : Int32)) - i10) := ⟨_, rfl⟩
    rw [← g_i6q]
    have hr6 : i6q.toInt = ((M % 100 : Nat) : Int) := by rw [g_i6q, g_i9q]; exact own_r100 hM hM31
    refine g_iload X B gc_d110 (pc' := 112) rfl (v := i9q) rfl ?_
    refine g_istore X B gc_d112 (pc' := 114) rfl (Ls' := #[.val (.long j0), .second, .val (.int i2), .val (.ref o3), .unset, .unset, .val (.int i6q), .val (.int i7), .val (.int (0 : Int32)), .val (.int i9q), .val (.int i9q)]) rfl ?_
    refine g_aloadN X B gc_d114 (pc' := 115) rfl (v := (.ref o3)) rfl rfl ?_
    refine g_iinc X B gc_d115 (pc' := 118) rfl (v := i7) rfl (Ls' := #[.val (.long j0), .second, .val (.int i2), .val (.ref o3), .unset, .unset, .val (.int i6q), .val (.int (i7 + (-1 : Int32))), .val (.int (0 : Int32)), .val (.int i9q), .val (.int i9q)]) rfl ?_
    refine g_iload X B gc_d118 (pc' := 120) rfl (v := (i7 + (-1 : Int32))) rfl ?_
    refine g_getS X B (B.w 105 rfl) Via.refl eT S1 gc_d120 (pc' := 123) rfl (fun T5 X5 e5 => ?_)
    refine g_iload X5 B gc_d123 (pc' := 125) rfl (v := i6q) rfl ?_
    refine g_baloadB X5 B (M % 100) e5 Da1 hr6 (Nat.mod_lt _ (by decide)) (v := (.int (Int32.ofNat (48 + M % 100 % 10)))) rfl gc_d125 (pc' := 126) rfl ?_
    refine g_bastoreB X5 B (K - 1) e5 Aw (own_dec hK k1) (by omega) gc_d126 (pc' := 127) rfl (fun T6 h6 X6 e6 W6 => ?_)
    have N6 := Fr.snoc X6 N ga
    have A_o3_6 := Aw.set W6
    have A_a1_6 := Da1.other W6 n1
    have A_a2_6 := Da2.other W6 n2
    have St_DigitOnes_6 := S1.wr W6
    have St_DigitTens_6 := S2.wr W6
    have Zs_6 := Nat.le_trans Zs (Keep.of_wr W6).1
    have K_6 := KK.wr W6 (Or.inl (List.mem_of_getElem? (i := 0) rfl))
    refine g_aloadN X6 B gc_d127 (pc' := 128) rfl (v := (.ref o3)) rfl rfl ?_
    refine g_iinc X6 B gc_d128 (pc' := 131) rfl (v := (i7 + (-1 : Int32))) rfl (Ls' := #[.val (.long j0), .second, .val (.int i2), .val (.ref o3), .unset, .unset, .val (.int i6q), .val (.int ((i7 + (-1 : Int32)) + (-1 : Int32))), .val (.int (0 : Int32)), .val (.int i9q), .val (.int i9q)]) rfl ?_
    refine g_iload X6 B gc_d131 (pc' := 133) rfl (v := ((i7 + (-1 : Int32)) + (-1 : Int32))) rfl ?_
    refine g_getS X6 B (B.w 231 rfl) Via.refl e6 St_DigitTens_6 gc_d133 (pc' := 136) rfl (fun T7 X7 e7 => ?_)
    refine g_iload X7 B gc_d136 (pc' := 138) rfl (v := i6q) rfl ?_
    refine g_baloadB X7 B (M % 100) e7 A_a2_6 hr6 (Nat.mod_lt _ (by decide)) (v := (.int (Int32.ofNat (48 + M % 100 / 10)))) rfl gc_d138 (pc' := 139) rfl ?_
    refine g_bastoreB X7 B (K - 1 - 1) e7 A_o3_6 (own_dec (own_dec hK k1) (by omega)) (by omega) gc_d139 (pc' := 140) rfl (fun T8 h8 X8 e8 W8 => ?_)
    have N8 := Fr.snoc X8 N6 ga
    have A_o3_8 := A_o3_6.set W8
    have A_a1_8 := A_a1_6.other W8 n1
    have A_a2_8 := A_a2_6.other W8 n2
    have St_DigitOnes_8 := St_DigitOnes_6.wr W8
    have St_DigitTens_8 := St_DigitTens_6.wr W8
    have Zs_8 := Nat.le_trans Zs_6 (Keep.of_wr W8).1
    have K_8 := K_6.wr W8 (Or.inl (List.mem_of_getElem? (i := 0) rfl))
    refine g_goto X8 B gc_d140 (pc' := 86) (by decide) rfl ?_
    have hI2 := own_I2 hI hge
    exact gi_U X8 B e8 n0 Zs_8 N8 (j0) (i2) (o3) (i6q) (((i7 + (-1 : Int32)) + (-1 : Int32))) ((0 : Int32)) (i9q) (i9q) (M / 100) (K - 1 - 1) _ _ M0 k w0 h0 a1 a2 rfl hq9 (by omega) (own_dec (own_dec hK k1) (by omega)) hI2 ga A_o3_8 K_8 St_DigitOnes_8 St_DigitTens_8 A_a1_8 A_a2_8 n1 n2
set_option maxRecDepth 65536 in
set_option maxHeartbeats 40000000 in
theorem gl24 {p : Program} {l : Launch} {e : Env} {s : State} {m : MethodId} {args : Array Value} {below : List Frame} {meth : Method} {c : Code} {T : State} {Z : State} {a0 : Array Value} {h : Heap} {locs : List Loc} (X : Stand p l e (⟨0, 0, 0, 0⟩ : Room) s m args below meth c T locs 0 0) (B : Bdy p s m meth c Z a0 "java/lang/Long" "getChars" jdk_35_method_14_code 11 (some .int) tables_1) (eT : T.heap = h) (n0 : Nat) (Zs : n0 ≤ h.size) (N : Fr n0 locs) (j0 : Int64) (i2 : Int32) (o3 : Addr) (j4 : Int64) (i6 : Int32) (i7 : Int32) (i8 : Int32) (M : Nat) (K : Nat) (w : Nat → Value) (ts : List Int32) (M0 : Nat) (k : Nat) (w0 : Nat → Value) (h0 : Heap) (a1 : Addr) (a2 : Addr) (hi8 : i8 = (0 : Int32)) (hM : j0.toInt = -(M : Int)) (hM13 : M < 10000000000000) (hK : i7.toInt = (K : Int)) (hI : own_I M0 k w0 w M K ts) (ga : n0 ≤ o3) (Aw : Ax Z h o3 .byte 16 w) (KK : Keep h0 h [o3]) (S1 : Sta Z h "java/lang/Integer" "DigitOnes" "[B" (.ref a1)) (S2 : Sta Z h "java/lang/Integer" "DigitTens" "[B" (.ref a2)) (Da1 : Ax Z h a1 .byte 100 own_d1) (Da2 : Ax Z h a2 .byte 100 own_d2) (n1 : a1 ≠ o3) (n2 : a2 ≠ o3) :
    Go p e below s 0 0 (fun v h2 L => (∃ z, v = some (.int z)) ∧ Fr n0 L ∧ Keep h0 h2 [o3] ∧ ∃ w', Ax Z h2 o3 .byte 16 w' ∧ own_R M0 k w0 w') (T.setTop (mkF m 24 #[.val (.long j0), .second, .val (.int i2), .val (.ref o3), .val (.long j4), .second, .val (.int i6), .val (.int i7), .val (.int i8), .unset, .unset] [])) := by
  subst hi8
  obtain ⟨k1, k2, k3⟩ := own_Kp hI
  refine g_lloadN X B gc_d24 (pc' := 25) rfl (v := j0) rfl ?_
  refine g_ldc2 X B (B.w 104 rfl) gc_d25 (pc' := 28) rfl ?_
  refine g_lcmp_gt X B gc_d28 gc_d29 (pcT := 82) (pcF := 32) (by decide) rfl rfl (fun c28_0 => ?_) (fun c28_0 => ?_)
  · rw [Int64.lt_iff_toInt_lt] at c28_0
    have k0 : (-2147483648 : Int64).toInt = -2147483648 := (by decide)
    have hlt : M < 2147483648 := by omega
    refine g_lloadN X B gc_d82 (pc' := 83) rfl (v := j0) rfl ?_
    refine g_l2i X B gc_d83 (pc' := 84) rfl ?_
    refine g_istore X B gc_d84 (pc' := 86) rfl (Ls' := #[.val (.long j0), .second, .val (.int i2), .val (.ref o3), .val (.long j4), .second, .val (.int i6), .val (.int i7), .val (.int (0 : Int32)), .unset, .val (.int (j0.toInt32))]) rfl ?_
    exact fi_J X B eT n0 Zs N (j0) (i2) (o3) (j4) (i6) (i7) ((0 : Int32)) ((j0.toInt32)) M K w ts M0 k w0 h0 a1 a2 rfl (own_n2i hM hlt) hlt hK hI ga Aw KK S1 S2 Da1 Da2 n1 n2
  · rw [Int64.lt_iff_toInt_lt] at c28_0
    have k0 : (-2147483648 : Int64).toInt = -2147483648 := (by decide)
    have hge : 100 ≤ M := by omega
    have k4 : 2 ≤ K := k3 (by omega)
    have hdec : M / 100 < M := by omega
    refine g_lloadN X B gc_d32 (pc' := 33) rfl (v := j0) rfl ?_
    refine g_ldc2 X B (B.w 233 rfl) gc_d33 (pc' := 36) rfl ?_
    refine g_ldiv X B (by decide) gc_d36 (pc' := 37) rfl ?_
    refine g_lstore X B gc_d37 (pc' := 39) rfl (Ls' := #[.val (.long j0), .second, .val (.int i2), .val (.ref o3), .val (.long (j0 / (100 : Int64))), .second, .val (.int i6), .val (.int i7), .val (.int (0 : Int32)), .unset, .unset]) rfl ?_
    obtain ⟨jq, g_jq⟩ : ∃ z, z = (j0 / (100 : Int64)) := ⟨_, rfl⟩
    rw [← g_jq]
    have hjq : jq.toInt = -((M / 100 : Nat) : Int) := by rw [g_jq]; exact own_q100L hM
    refine g_lload X B gc_d39 (pc' := 41) rfl (v := jq) rfl ?_
    refine g_ldc2 X B (B.w 233 rfl) gc_d41 (pc' := 44) rfl ?_
    refine g_lmul X B gc_d44 (pc' := 45) rfl ?_
    refine g_lloadN X B gc_d45 (pc' := 46) rfl (v := j0) rfl ?_
    refine g_lsub X B gc_d46 (pc' := 47) rfl ?_
    refine g_l2i X B gc_d47 (pc' := 48) rfl ?_
    refine g_istore X B gc_d48 (pc' := 50) rfl (Ls' := #[.val (.long j0), .second, .val (.int i2), .val (.ref o3), .val (.long jq), .second, .val (.int (((jq * (100 : Int64)) - j0).toInt32)), .val (.int i7), .val (.int (0 : Int32)), .unset, .unset]) rfl ?_
    obtain ⟨i6q, g_i6q⟩ : ∃ z, z = (((jq * (100 : Int64)) - j0).toInt32) := ⟨_, rfl⟩
    rw [← g_i6q]
    have hr6 : i6q.toInt = ((M % 100 : Nat) : Int) := by rw [g_i6q, g_jq]; exact own_r100L hM hM13
    refine g_lload X B gc_d50 (pc' := 52) rfl (v := jq) rfl ?_
    refine g_lstoreN X B gc_d52 (pc' := 53) rfl (Ls' := #[.val (.long jq), .second, .val (.int i2), .val (.ref o3), .val (.long jq), .second, .val (.int i6q), .val (.int i7), .val (.int (0 : Int32)), .unset, .unset]) rfl ?_
    refine g_aloadN X B gc_d53 (pc' := 54) rfl (v := (.ref o3)) rfl rfl ?_
    refine g_iinc X B gc_d54 (pc' := 57) rfl (v := i7) rfl (Ls' := #[.val (.long jq), .second, .val (.int i2), .val (.ref o3), .val (.long jq), .second, .val (.int i6q), .val (.int (i7 + (-1 : Int32))), .val (.int (0 : Int32)), .unset, .unset]) rfl ?_
    refine g_iload X B gc_d57 (pc' := 59) rfl (v := (i7 + (-1 : Int32))) rfl ?_
    refine g_getS X B (B.w 105 rfl) Via.refl eT S1 gc_d59 (pc' := 62) rfl (fun T1 X1 e1 => ?_)
    refine g_iload X1 B gc_d62 (pc' := 64) rfl (v := i6q) rfl ?_
    refine g_baloadB X1 B (M % 100) e1 Da1 hr6 (Nat.mod_lt _ (by decide)) (v := (.int (Int32.ofNat (48 + M % 100 % 10)))) rfl gc_d64 (pc' := 65) rfl ?_
    refine g_bastoreB X1 B (K - 1) e1 Aw (own_dec hK k1) (by omega) gc_d65 (pc' := 66) rfl (fun T2 h2 X2 e2 W2 => ?_)
    have N2 := Fr.snoc X2 N ga
    have A_o3_2 := Aw.set W2
    have A_a1_2 := Da1.other W2 n1
    have A_a2_2 := Da2.other W2 n2
    have St_DigitOnes_2 := S1.wr W2
    have St_DigitTens_2 := S2.wr W2
    have Zs_2 := Nat.le_trans Zs (Keep.of_wr W2).1
    have K_2 := KK.wr W2 (Or.inl (List.mem_of_getElem? (i := 0) rfl))
    refine g_aloadN X2 B gc_d66 (pc' := 67) rfl (v := (.ref o3)) rfl rfl ?_
    refine g_iinc X2 B gc_d67 (pc' := 70) rfl (v := (i7 + (-1 : Int32))) rfl (Ls' := #[.val (.long jq), .second, .val (.int i2), .val (.ref o3), .val (.long jq), .second, .val (.int i6q), .val (.int ((i7 + (-1 : Int32)) + (-1 : Int32))), .val (.int (0 : Int32)), .unset, .unset]) rfl ?_
    refine g_iload X2 B gc_d70 (pc' := 72) rfl (v := ((i7 + (-1 : Int32)) + (-1 : Int32))) rfl ?_
    refine g_getS X2 B (B.w 231 rfl) Via.refl e2 St_DigitTens_2 gc_d72 (pc' := 75) rfl (fun T3 X3 e3 => ?_)
    refine g_iload X3 B gc_d75 (pc' := 77) rfl (v := i6q) rfl ?_
    refine g_baloadB X3 B (M % 100) e3 A_a2_2 hr6 (Nat.mod_lt _ (by decide)) (v := (.int (Int32.ofNat (48 + M % 100 / 10)))) rfl gc_d77 (pc' := 78) rfl ?_
    refine g_bastoreB X3 B (K - 1 - 1) e3 A_o3_2 (own_dec (own_dec hK k1) (by omega)) (by omega) gc_d78 (pc' := 79) rfl (fun T4 h4 X4 e4 W4 => ?_)
    have N4 := Fr.snoc X4 N2 ga
    have A_o3_4 := A_o3_2.set W4
    have A_a1_4 := A_a1_2.other W4 n1
    have A_a2_4 := A_a2_2.other W4 n2
    have St_DigitOnes_4 := St_DigitOnes_2.wr W4
    have St_DigitTens_4 := St_DigitTens_2.wr W4
    have Zs_4 := Nat.le_trans Zs_2 (Keep.of_wr W4).1
    have K_4 := K_2.wr W4 (Or.inl (List.mem_of_getElem? (i := 0) rfl))
    refine g_goto X4 B gc_d79 (pc' := 24) (by decide) rfl ?_
    have hI2 := own_I2 hI hge
    exact gl24 X4 B e4 n0 Zs_4 N4 (jq) (i2) (o3) (jq) (i6q) (((i7 + (-1 : Int32)) + (-1 : Int32))) ((0 : Int32)) (M / 100) (K - 1 - 1) _ _ M0 k w0 h0 a1 a2 rfl hjq (by omega) (own_dec (own_dec hK k1) (by omega)) hI2 ga A_o3_4 K_4 St_DigitOnes_4 St_DigitTens_4 A_a1_4 A_a2_4 n1 n2
termination_by M
decreasing_by all_goals exact hdec
theorem own_pn_gc : plainFor (⟨"java/lang/Long", "getChars", "(JI[B)I"⟩ : MethodName) = true := plainFor_of_name (by first | (simp [plainName, overriddenIn]; done) | decide +kernel)
theorem own_ef_gc (m : MethodId) (j0 : Int64) (i2 : Int32) (o3 : Addr) : entryFrame m #[(.long j0), (.int i2), (.ref o3)] 11 = (mkF m 0 #[.val (.long j0), .second, .val (.int i2), .val (.ref o3), .unset, .unset, .unset, .unset, .unset, .unset, .unset] []) := by first | (simp [entryFrame, mkF, argsToLocals, Value.category]; done) | rfl
set_option maxRecDepth 65536 in
set_option maxHeartbeats 40000000 in
theorem gc_go {p : Program} {l : Launch} {e : Env} {s : State} {m : MethodId} {args : Array Value} {below : List Frame} {meth : Method} {c : Code} {T : State} {Z : State} {a0 : Array Value} {h : Heap} (X : Stand p l e (⟨0, 0, 0, 0⟩ : Room) s m args below meth c T [] 0 0) (B : Bdy p s m meth c Z a0 "java/lang/Long" "getChars" jdk_35_method_14_code 11 (some .int) tables_1) (eT : T.heap = h) (j0 : Int64) (i2 : Int32) (o3 : Addr) (M0 : Nat) (k : Nat) (w0 : Nat → Value) (a1 : Addr) (a2 : Addr) (n0 : Nat) (Zs : n0 ≤ h.size) (hM0 : j0.toInt = (M0 : Int)) (hB13 : M0 < 10000000000000) (hidx : i2.toInt = ((k + (own_ds M0).length : Nat) : Int)) (hk : k + (own_ds M0).length ≤ 16) (hft : own_ft w0) (ga : n0 ≤ o3) (Aw : Ax Z h o3 .byte 16 w0) (S1 : Sta Z h "java/lang/Integer" "DigitOnes" "[B" (.ref a1)) (S2 : Sta Z h "java/lang/Integer" "DigitTens" "[B" (.ref a2)) (Da1 : Ax Z h a1 .byte 100 own_d1) (Da2 : Ax Z h a2 .byte 100 own_d2) (n1 : a1 ≠ o3) (n2 : a2 ≠ o3) :
    Go p e below s 0 0 (fun v h2 L => (∃ z, v = some (.int z)) ∧ Fr n0 L ∧ Keep h h2 [o3] ∧ ∃ w', Ax Z h2 o3 .byte 16 w' ∧ own_R M0 k w0 w') (T.setTop (mkF m 0 #[.val (.long j0), .second, .val (.int i2), .val (.ref o3), .unset, .unset, .unset, .unset, .unset, .unset, .unset] [])) := by
  have N := Fr.nil n0
  obtain ⟨M, hMM⟩ : ∃ M, M = M0 := ⟨_, rfl⟩
  obtain ⟨K, hKK⟩ : ∃ K, K = k + (own_ds M0).length := ⟨_, rfl⟩
  have hI : own_I M0 k w0 w0 M K [] := by subst hMM hKK; exact ⟨rfl, hk, own_sg_nil _ _, hft, (List.append_nil _).symm, fun _ _ => rfl⟩
  have hM : j0.toInt = (M : Int) := by rw [hMM]; exact hM0
  have hM13 : M < 10000000000000 := by rw [hMM]; exact hB13
  have hK : i2.toInt = (K : Int) := by rw [hKK]; exact hidx
  obtain ⟨k1, k2, k3⟩ := own_Kp hI
  have KK := Keep.refl h [o3]
  refine g_iloadN X B gc_d0 (pc' := 1) rfl (v := i2) rfl ?_
  refine g_istore X B gc_d1 (pc' := 3) rfl (Ls' := #[.val (.long j0), .second, .val (.int i2), .val (.ref o3), .unset, .unset, .unset, .val (.int i2), .unset, .unset, .unset]) rfl ?_
  refine g_lloadN X B gc_d3 (pc' := 4) rfl (v := j0) rfl ?_
  refine g_lconst X B gc_d4 (pc' := 5) rfl (v := (0 : Int64)) (by decide) ?_
  refine g_lcmp_ge X B gc_d5 gc_d6 (pcT := 13) (pcF := 9) (by decide) rfl rfl (fun c5_0 => ?_) (fun c5_0 => ?_)
  · exfalso; rw [Int64.lt_iff_toInt_lt] at c5_0; have k0 : (0 : Int64).toInt = 0 := rfl; omega
  · refine g_iconst X B gc_d13 (pc' := 14) rfl (v := (0 : Int32)) (by decide) ?_
    refine g_istore X B gc_d14 (pc' := 16) rfl (Ls' := #[.val (.long j0), .second, .val (.int i2), .val (.ref o3), .unset, .unset, .unset, .val (.int i2), .val (.int (0 : Int32)), .unset, .unset]) rfl ?_
    refine g_iload X B gc_d16 (pc' := 18) rfl (v := (0 : Int32)) rfl ?_
    refine g_if_ne X B gc_d18 (pcT := 24) (pcF := 21) (by decide) rfl rfl (fun c18_1 => ?_) (fun c18_1 => ?_)
    · refine g_lloadN X B gc_d21 (pc' := 22) rfl (v := j0) rfl ?_
      refine g_lneg X B gc_d22 (pc' := 23) rfl ?_
      refine g_lstoreN X B gc_d23 (pc' := 24) rfl (Ls' := #[.val (.long ((-j0))), .second, .val (.int i2), .val (.ref o3), .unset, .unset, .unset, .val (.int i2), .val (.int (0 : Int32)), .unset, .unset]) rfl ?_
      obtain ⟨jn, g_jn⟩ : ∃ z, z = ((-j0)) := ⟨_, rfl⟩
      rw [← g_jn]
      have hjn : jn.toInt = -(M : Int) := by rw [g_jn]; exact own_lnd hM
      refine g_lloadN X B gc_d24 (pc' := 25) rfl (v := jn) rfl ?_
      refine g_ldc2 X B (B.w 104 rfl) gc_d25 (pc' := 28) rfl ?_
      refine g_lcmp_gt X B gc_d28 gc_d29 (pcT := 82) (pcF := 32) (by decide) rfl rfl (fun c28_2 => ?_) (fun c28_2 => ?_)
      · rw [Int64.lt_iff_toInt_lt] at c28_2
        have k0 : (-2147483648 : Int64).toInt = -2147483648 := (by decide)
        have hlt : M < 2147483648 := by omega
        refine g_lloadN X B gc_d82 (pc' := 83) rfl (v := jn) rfl ?_
        refine g_l2i X B gc_d83 (pc' := 84) rfl ?_
        refine g_istore X B gc_d84 (pc' := 86) rfl (Ls' := #[.val (.long jn), .second, .val (.int i2), .val (.ref o3), .unset, .unset, .unset, .val (.int i2), .val (.int (0 : Int32)), .unset, .val (.int (jn.toInt32))]) rfl ?_
        exact fi_U X B eT n0 Zs N (jn) (i2) (o3) (i2) ((0 : Int32)) ((jn.toInt32)) M K w0 [] M0 k w0 h a1 a2 rfl (own_n2i hjn hlt) hlt hK hI ga Aw KK S1 S2 Da1 Da2 n1 n2
      · rw [Int64.lt_iff_toInt_lt] at c28_2
        have k0 : (-2147483648 : Int64).toInt = -2147483648 := (by decide)
        have hge : 100 ≤ M := by omega
        have k4 : 2 ≤ K := k3 (by omega)
        have hdec : M / 100 < M := by omega
        refine g_lloadN X B gc_d32 (pc' := 33) rfl (v := jn) rfl ?_
        refine g_ldc2 X B (B.w 233 rfl) gc_d33 (pc' := 36) rfl ?_
        refine g_ldiv X B (by decide) gc_d36 (pc' := 37) rfl ?_
        refine g_lstore X B gc_d37 (pc' := 39) rfl (Ls' := #[.val (.long jn), .second, .val (.int i2), .val (.ref o3), .val (.long (jn / (100 : Int64))), .second, .unset, .val (.int i2), .val (.int (0 : Int32)), .unset, .unset]) rfl ?_
        obtain ⟨jq, g_jq⟩ : ∃ z, z = (jn / (100 : Int64)) := ⟨_, rfl⟩
        rw [← g_jq]
        have hjq : jq.toInt = -((M / 100 : Nat) : Int) := by rw [g_jq]; exact own_q100L hjn
        refine g_lload X B gc_d39 (pc' := 41) rfl (v := jq) rfl ?_
        refine g_ldc2 X B (B.w 233 rfl) gc_d41 (pc' := 44) rfl ?_
        refine g_lmul X B gc_d44 (pc' := 45) rfl ?_
        refine g_lloadN X B gc_d45 (pc' := 46) rfl (v := jn) rfl ?_
        refine g_lsub X B gc_d46 (pc' := 47) rfl ?_
        refine g_l2i X B gc_d47 (pc' := 48) rfl ?_
        refine g_istore X B gc_d48 (pc' := 50) rfl (Ls' := #[.val (.long jn), .second, .val (.int i2), .val (.ref o3), .val (.long jq), .second, .val (.int (((jq * (100 : Int64)) - jn).toInt32)), .val (.int i2), .val (.int (0 : Int32)), .unset, .unset]) rfl ?_
        obtain ⟨i6q, g_i6q⟩ : ∃ z, z = (((jq * (100 : Int64)) - jn).toInt32) := ⟨_, rfl⟩
        rw [← g_i6q]
        have hr6 : i6q.toInt = ((M % 100 : Nat) : Int) := by rw [g_i6q, g_jq]; exact own_r100L hjn hM13
        refine g_lload X B gc_d50 (pc' := 52) rfl (v := jq) rfl ?_
        refine g_lstoreN X B gc_d52 (pc' := 53) rfl (Ls' := #[.val (.long jq), .second, .val (.int i2), .val (.ref o3), .val (.long jq), .second, .val (.int i6q), .val (.int i2), .val (.int (0 : Int32)), .unset, .unset]) rfl ?_
        refine g_aloadN X B gc_d53 (pc' := 54) rfl (v := (.ref o3)) rfl rfl ?_
        refine g_iinc X B gc_d54 (pc' := 57) rfl (v := i2) rfl (Ls' := #[.val (.long jq), .second, .val (.int i2), .val (.ref o3), .val (.long jq), .second, .val (.int i6q), .val (.int (i2 + (-1 : Int32))), .val (.int (0 : Int32)), .unset, .unset]) rfl ?_
        refine g_iload X B gc_d57 (pc' := 59) rfl (v := (i2 + (-1 : Int32))) rfl ?_
        refine g_getS X B (B.w 105 rfl) Via.refl eT S1 gc_d59 (pc' := 62) rfl (fun T1 X1 e1 => ?_)
        refine g_iload X1 B gc_d62 (pc' := 64) rfl (v := i6q) rfl ?_
        refine g_baloadB X1 B (M % 100) e1 Da1 hr6 (Nat.mod_lt _ (by decide)) (v := (.int (Int32.ofNat (48 + M % 100 % 10)))) rfl gc_d64 (pc' := 65) rfl ?_
        refine g_bastoreB X1 B (K - 1) e1 Aw (own_dec hK k1) (by omega) gc_d65 (pc' := 66) rfl (fun T2 h2 X2 e2 W2 => ?_)
        have N2 := Fr.snoc X2 N ga
        have A_o3_2 := Aw.set W2
        have A_a1_2 := Da1.other W2 n1
        have A_a2_2 := Da2.other W2 n2
        have St_DigitOnes_2 := S1.wr W2
        have St_DigitTens_2 := S2.wr W2
        have Zs_2 := Nat.le_trans Zs (Keep.of_wr W2).1
        have K_2 := KK.wr W2 (Or.inl (List.mem_of_getElem? (i := 0) rfl))
        refine g_aloadN X2 B gc_d66 (pc' := 67) rfl (v := (.ref o3)) rfl rfl ?_
        refine g_iinc X2 B gc_d67 (pc' := 70) rfl (v := (i2 + (-1 : Int32))) rfl (Ls' := #[.val (.long jq), .second, .val (.int i2), .val (.ref o3), .val (.long jq), .second, .val (.int i6q), .val (.int ((i2 + (-1 : Int32)) + (-1 : Int32))), .val (.int (0 : Int32)), .unset, .unset]) rfl ?_
        refine g_iload X2 B gc_d70 (pc' := 72) rfl (v := ((i2 + (-1 : Int32)) + (-1 : Int32))) rfl ?_
        refine g_getS X2 B (B.w 231 rfl) Via.refl e2 St_DigitTens_2 gc_d72 (pc' := 75) rfl (fun T3 X3 e3 => ?_)
        refine g_iload X3 B gc_d75 (pc' := 77) rfl (v := i6q) rfl ?_
        refine g_baloadB X3 B (M % 100) e3 A_a2_2 hr6 (Nat.mod_lt _ (by decide)) (v := (.int (Int32.ofNat (48 + M % 100 / 10)))) rfl gc_d77 (pc' := 78) rfl ?_
        refine g_bastoreB X3 B (K - 1 - 1) e3 A_o3_2 (own_dec (own_dec hK k1) (by omega)) (by omega) gc_d78 (pc' := 79) rfl (fun T4 h4 X4 e4 W4 => ?_)
        have N4 := Fr.snoc X4 N2 ga
        have A_o3_4 := A_o3_2.set W4
        have A_a1_4 := A_a1_2.other W4 n1
        have A_a2_4 := A_a2_2.other W4 n2
        have St_DigitOnes_4 := St_DigitOnes_2.wr W4
        have St_DigitTens_4 := St_DigitTens_2.wr W4
        have Zs_4 := Nat.le_trans Zs_2 (Keep.of_wr W4).1
        have K_4 := K_2.wr W4 (Or.inl (List.mem_of_getElem? (i := 0) rfl))
        refine g_goto X4 B gc_d79 (pc' := 24) (by decide) rfl ?_
        have hI2 := own_I2 hI hge
        exact gl24 X4 B e4 n0 Zs_4 N4 (jq) (i2) (o3) (jq) (i6q) (((i2 + (-1 : Int32)) + (-1 : Int32))) ((0 : Int32)) (M / 100) (K - 1 - 1) _ _ M0 k w0 h a1 a2 rfl hjq (by omega) (own_dec (own_dec hK k1) (by omega)) hI2 ga A_o3_4 K_4 St_DigitOnes_4 St_DigitTens_4 A_a1_4 A_a2_4 n1 n2
    · exact absurd (by decide) c18_1
theorem gc_met (l : Launch) (Z : State) (a0 : Array Value) (hw : ∀ d ∈ tables_1, d.before a0 Z = true) (ws : List Jvm.Cond) (h : Heap) (j0 : Int64) (i2 : Int32) (o3 : Addr) (M0 : Nat) (k : Nat) (w0 : Nat → Value) (a1 : Addr) (a2 : Addr) (n0 : Nat) (Zs : n0 ≤ h.size) (hM0 : j0.toInt = (M0 : Int)) (hB13 : M0 < 10000000000000) (hidx : i2.toInt = ((k + (own_ds M0).length : Nat) : Int)) (hk : k + (own_ds M0).length ≤ 16) (hft : own_ft w0) (ga : n0 ≤ o3) (Aw : Ax Z h o3 .byte 16 w0) (S1 : Sta Z h "java/lang/Integer" "DigitOnes" "[B" (.ref a1)) (S2 : Sta Z h "java/lang/Integer" "DigitTens" "[B" (.ref a2)) (Da1 : Ax Z h a1 .byte 100 own_d1) (Da2 : Ax Z h a2 .byte 100 own_d2) (n1 : a1 ≠ o3) (n2 : a2 ≠ o3) :
    Met l Z (⟨"java/lang/Long", "getChars", "(JI[B)I"⟩ : MethodName) jdk_35_method_14_code 11 (some .int) ws (⟨0, 0, 0, 0⟩ : Room) #[(.long j0), (.int i2), (.ref o3)] h (fun v h2 L => (∃ z, v = some (.int z)) ∧ Fr n0 L ∧ Keep h h2 [o3] ∧ ∃ w', Ax Z h2 o3 .byte 16 w' ∧ own_R M0 k w0 w') :=
  met_of own_pn_gc hw fun p e s m below meth c T X B eT => Go.top (own_ef_gc m j0 i2 o3) (gc_go X B eT j0 i2 o3 M0 k w0 a1 a2 n0 Zs hM0 hB13 hidx hk hft ga Aw S1 S2 Da1 Da2 n1 n2)
theorem own_oadd (a b : Nat) : Int32.ofNat a + Int32.ofNat b = Int32.ofNat (a + b) := by simp
theorem own_cap {i : Int32} {k : Nat} (h : i.toInt = (k : Int)) (hk : k ≤ 16) : ¬ (0 : Int32) < i - ((16 : Int32) >>> ((0 : Int32) &&& 31)) := by
  rw [show ((16 : Int32) >>> ((0 : Int32) &&& 31)) = 16 from by decide, Int32.lt_iff_toInt_lt]
  have e := c_isub i 16
  have e1 : (16 : Int32).toInt = 16 := rfl
  have e0 : (0 : Int32).toInt = 0 := rfl
  have r1 := (i - (16 : Int32)).toInt_lt; have r2 := (i - (16 : Int32)).le_toInt
  omega
theorem own_on {k : Nat} (h : k ≤ 16) : (Int32.ofNat k).toInt = (k : Int) := Int32.toInt_ofNat_small (by omega)
theorem own_shl (x : Int32) : x <<< ((0 : Int32) &&& 31) = x := by rw [show ((0 : Int32) &&& 31) = 0 from rfl, Int32.shiftLeft_zero]
theorem own_shr (x : Int32) : x >>> ((0 : Int32) &&& 31) = x := by rw [show ((0 : Int32) &&& 31) = 0 from rfl, Int32.shiftRight_zero]
theorem own_RB {M0 : Nat} {cs : List Int32} {w0 w : Nat → Value} (R : own_R M0 cs.length w0 w) (h : own_sg w0 0 cs) : own_sg w 0 (cs ++ own_ds M0) :=
  own_sg_app (own_sg_eq h fun j _ hj => R.2.2 j (by omega)) (by rw [Nat.zero_add]; exact R.1)
theorem ai_d0 : decode jdk_68_method_2_code 0 = .ok (.aload_n 0, 1) := by decide +kernel
theorem ai_d1 : decode jdk_68_method_2_code 1 = .ok (.invokespecial 3, 3) := by decide +kernel
theorem ai_d4 : decode jdk_68_method_2_code 4 = .ok (.getstatic 18, 3) := by decide +kernel
theorem ai_d7 : decode jdk_68_method_2_code 7 = .ok (.ifCond .eq 18, 3) := by decide +kernel
theorem ai_d10 : decode jdk_68_method_2_code 10 = .ok (.aload_n 0, 1) := by decide +kernel
theorem ai_d11 : decode jdk_68_method_2_code 11 = .ok (.iload_n 1, 1) := by decide +kernel
theorem ai_d12 : decode jdk_68_method_2_code 12 = .ok (.newarray .byte, 2) := by decide +kernel
theorem ai_d14 : decode jdk_68_method_2_code 14 = .ok (.putfield 15, 3) := by decide +kernel
theorem ai_d17 : decode jdk_68_method_2_code 17 = .ok (.aload_n 0, 1) := by decide +kernel
theorem ai_d18 : decode jdk_68_method_2_code 18 = .ok (.iconst 0, 1) := by decide +kernel
theorem ai_d19 : decode jdk_68_method_2_code 19 = .ok (.putfield 22, 3) := by decide +kernel
theorem ai_d22 : decode jdk_68_method_2_code 22 = .ok (.goto 16, 3) := by decide +kernel
theorem ai_d38 : decode jdk_68_method_2_code 38 = .ok (.return_, 1) := by decide +kernel
theorem own_pn_ai : plainFor (⟨"java/lang/AbstractStringBuilder", "<init>", "(I)V"⟩ : MethodName) = true := plainFor_of_name (by first | (simp [plainName, overriddenIn]; done) | decide +kernel)
theorem own_ef_ai (m : MethodId) (o0 : Addr) (i1 : Int32) : entryFrame m #[(.ref o0), (.int i1)] 2 = (mkF m 0 #[.val (.ref o0), .val (.int i1)] []) := by first | (simp [entryFrame, mkF, argsToLocals, Value.category]; done) | rfl
set_option maxRecDepth 65536 in
set_option maxHeartbeats 40000000 in
theorem ai_go {p : Program} {l : Launch} {e : Env} {s : State} {m : MethodId} {args : Array Value} {below : List Frame} {meth : Method} {c : Code} {T : State} {Z : State} {a0 : Array Value} {h : Heap} (X : Stand p l e (⟨1, 1, 16, 13⟩ : Room) s m args below meth c T [] 0 0) (B : Bdy p s m meth c Z a0 "java/lang/AbstractStringBuilder" "<init>" jdk_68_method_2_code 2 none tables_1) (eT : T.heap = h) (o0 : Addr) (i1 : Int32) (z : Int32) (n0 : Nat) (Zs : n0 ≤ h.size) (hE : Exa Z h o0 "java/lang/StringBuilder") (g0 : n0 ≤ o0) (f_value : Fld Z h o0 "java/lang/AbstractStringBuilder" "value" "[B" .null) (f_coder : Fld Z h o0 "java/lang/AbstractStringBuilder" "coder" "B" (.int (0 : Int32))) (f_count : Fld Z h o0 "java/lang/AbstractStringBuilder" "count" "I" (.int (0 : Int32))) (hi : i1 = (16 : Int32)) (hn0 : Z.heap.size ≤ n0) (hO : Ext Z.heap h) (S0 : Sta Z Z.heap "java/lang/String" "COMPACT_STRINGS" "Z" (.int z)) (hz : ¬ z = 0) :
    Go p e below s 1 16 (fun v h2 L => ∃ da, v = none ∧ Fr n0 L ∧ Keep h h2 [o0] ∧ o0 ≠ da ∧ h.size ≤ da ∧ own_B Z h2 o0 da []) (T.setTop (mkF m 0 #[.val (.ref o0), .val (.int i1)] [])) := by
  have N := Fr.nil n0
  have K := Keep.refl h [o0]
  subst hi
  have S0' := S0.ext hO
  refine g_aloadN X B ai_d0 (pc' := 1) rfl (v := (.ref o0)) rfl rfl ?_
  refine g_initO X B 0 (B.w 65 rfl) (B.w 10 rfl) (B.w 11 rfl) eT rfl ai_d1 (pc' := 4) rfl (by decide) (Nat.le_of_eq rfl) (by decide) (fun T1 X1 e1 => ?_)
  refine g_getS X1 B (B.w 66 rfl) Via.refl e1 S0' ai_d4 (pc' := 7) rfl (fun T2 X2 e2 => ?_)
  refine g_if_eq X2 B ai_d7 (pcT := 25) (pcF := 10) (by decide) rfl rfl (fun c7_0 => ?_) (fun c7_0 => ?_)
  · exact absurd c7_0 hz
  · refine g_aloadN X2 B ai_d10 (pc' := 11) rfl (v := (.ref o0)) rfl rfl ?_
    refine g_iloadN X2 B ai_d11 (pc' := 12) rfl (v := (16 : Int32)) rfl ?_
    refine g_newA X2 B (aty := .byte) 16 16 (B.w 68 rfl) e2 (by decide) (by decide) (by decide) ai_d12 (pc' := 14) rfl (by decide) (by decide) (fun T3 h3 ob3 q3 X3 e3 E3 A3 => ?_)
    have ne_o0_ob3 : o0 ≠ ob3 := fun q => absurd (hE.lt) (by rw [q, q3]; exact Nat.lt_irrefl _)
    have G_ob3 : n0 ≤ ob3 := by rw [q3]; exact Zs
    have H_ob3 : h.size ≤ ob3 := by rw [q3]; exact K.1
    have E_o0_3 := hE.ext E3
    have St_COMPACT_STRINGS_3 := S0'.ext E3
    have F_o0_value_3 := f_value.ext E3
    have F_o0_coder_3 := f_coder.ext E3
    have F_o0_count_3 := f_count.ext E3
    have Zs_3 := Nat.le_trans Zs E3.1
    have O_3 := own_old_ext hO E3
    have K_3 := K.ext E3
    have A_ob3 : Ax Z h3 ob3 .byte 16 (fun _ => (.int (0 : Int32))) := A3
    refine g_putF X3 B (B.w 69 rfl) Via.refl e3 F_o0_value_3 E_o0_3 (Or.inl (B.w 70 rfl)) (B.w 54 rfl) (ty := (.array .byte)) (by decide) rfl rfl ai_d14 (pc' := 17) rfl (fun T4 h4 X4 e4 W4 => ?_)
    have N4 := Fr.snoc X4 N g0
    have E_o0_4 := E_o0_3.wr W4
    have St_COMPACT_STRINGS_4 := St_COMPACT_STRINGS_3.wr W4
    have F_o0_value_4 := F_o0_value_3.same W4
    have F_o0_coder_4 := F_o0_coder_3.other W4 (Or.inr (slot_ne (Or.inl (B.w 72 rfl)) (Or.inl (B.w 70 rfl)) (by decide) (t := .byte) (t' := (.array .byte)) (by decide) (by decide)))
    have F_o0_count_4 := F_o0_count_3.other W4 (Or.inr (slot_ne (Or.inl (B.w 85 rfl)) (Or.inl (B.w 70 rfl)) (by decide) (t := .int) (t' := (.array .byte)) (by decide) (by decide)))
    have A_ob3_4 := A_ob3.other W4 (Ne.symm ne_o0_ob3)
    have Zs_4 := Nat.le_trans Zs_3 (Keep.of_wr W4).1
    have O_4 := own_old_wr O_3 W4 (Nat.le_trans hn0 g0)
    have K_4 := K_3.wr W4 (Or.inl (List.mem_of_getElem? (i := 0) rfl))
    refine g_aloadN X4 B ai_d17 (pc' := 18) rfl (v := (.ref o0)) rfl rfl ?_
    refine g_iconst X4 B ai_d18 (pc' := 19) rfl (v := (0 : Int32)) (by decide) ?_
    refine g_putF X4 B (B.w 71 rfl) Via.refl e4 F_o0_coder_4 E_o0_4 (Or.inl (B.w 72 rfl)) (B.w 54 rfl) (ty := .byte) (by decide) rfl rfl ai_d19 (pc' := 22) rfl (fun T5 h5 X5 e5 W5 => ?_)
    have N5 := Fr.snoc X5 N4 g0
    have E_o0_5 := E_o0_4.wr W5
    have St_COMPACT_STRINGS_5 := St_COMPACT_STRINGS_4.wr W5
    have F_o0_value_5 := F_o0_value_4.other W5 (Or.inr (slot_ne (Or.inl (B.w 70 rfl)) (Or.inl (B.w 72 rfl)) (by decide) (t := (.array .byte)) (t' := .byte) (by decide) (by decide)))
    have F_o0_coder_5 := F_o0_coder_4.same W5
    have F_o0_count_5 := F_o0_count_4.other W5 (Or.inr (slot_ne (Or.inl (B.w 85 rfl)) (Or.inl (B.w 72 rfl)) (by decide) (t := .int) (t' := .byte) (by decide) (by decide)))
    have A_ob3_5 := A_ob3_4.other W5 (Ne.symm ne_o0_ob3)
    have Zs_5 := Nat.le_trans Zs_4 (Keep.of_wr W5).1
    have O_5 := own_old_wr O_4 W5 (Nat.le_trans hn0 g0)
    have K_5 := K_4.wr W5 (Or.inl (List.mem_of_getElem? (i := 0) rfl))
    refine g_goto X5 B ai_d22 (pc' := 38) (by decide) rfl ?_
    exact g_ret0 X5 B rfl ai_d38 (by decide) (by decide) (by rw [e5]; exact ⟨ob3, rfl, N5, K_5, ne_o0_ob3, H_ob3, E_o0_5, F_o0_value_5, F_o0_coder_5, F_o0_count_5, _, A_ob3_5, own_sg_nil _ _, fun _ => rfl⟩)
theorem ai_met (l : Launch) (Z : State) (a0 : Array Value) (hw : ∀ d ∈ tables_1, d.before a0 Z = true) (ws : List Jvm.Cond) (h : Heap) (o0 : Addr) (i1 : Int32) (z : Int32) (n0 : Nat) (Zs : n0 ≤ h.size) (hE : Exa Z h o0 "java/lang/StringBuilder") (g0 : n0 ≤ o0) (f_value : Fld Z h o0 "java/lang/AbstractStringBuilder" "value" "[B" .null) (f_coder : Fld Z h o0 "java/lang/AbstractStringBuilder" "coder" "B" (.int (0 : Int32))) (f_count : Fld Z h o0 "java/lang/AbstractStringBuilder" "count" "I" (.int (0 : Int32))) (hi : i1 = (16 : Int32)) (hn0 : Z.heap.size ≤ n0) (hO : Ext Z.heap h) (S0 : Sta Z Z.heap "java/lang/String" "COMPACT_STRINGS" "Z" (.int z)) (hz : ¬ z = 0) :
    Met l Z (⟨"java/lang/AbstractStringBuilder", "<init>", "(I)V"⟩ : MethodName) jdk_68_method_2_code 2 none ws (⟨1, 1, 16, 13⟩ : Room) #[(.ref o0), (.int i1)] h (fun v h2 L => ∃ da, v = none ∧ Fr n0 L ∧ Keep h h2 [o0] ∧ o0 ≠ da ∧ h.size ≤ da ∧ own_B Z h2 o0 da []) :=
  met_of own_pn_ai hw fun p e s m below meth c T X B eT => Go.top (own_ef_ai m o0 i1) (ai_go X B eT o0 i1 z n0 Zs hE g0 f_value f_coder f_count hi hn0 hO S0 hz)
theorem bi_d0 : decode jdk_67_method_1_code 0 = .ok (.aload_n 0, 1) := by decide +kernel
theorem bi_d1 : decode jdk_67_method_1_code 1 = .ok (.bipush 16, 2) := by decide +kernel
theorem bi_d3 : decode jdk_67_method_1_code 3 = .ok (.invokespecial 1, 3) := by decide +kernel
theorem bi_d6 : decode jdk_67_method_1_code 6 = .ok (.return_, 1) := by decide +kernel
theorem own_pn_bi : plainFor (⟨"java/lang/StringBuilder", "<init>", "()V"⟩ : MethodName) = true := plainFor_of_name (by first | (simp [plainName, overriddenIn]; done) | decide +kernel)
theorem own_ef_bi (m : MethodId) (o0 : Addr) : entryFrame m #[(.ref o0)] 1 = (mkF m 0 #[.val (.ref o0)] []) := by first | (simp [entryFrame, mkF, argsToLocals, Value.category]; done) | rfl
set_option maxRecDepth 65536 in
set_option maxHeartbeats 40000000 in
theorem bi_go {p : Program} {l : Launch} {e : Env} {s : State} {m : MethodId} {args : Array Value} {below : List Frame} {meth : Method} {c : Code} {T : State} {Z : State} {a0 : Array Value} {h : Heap} (X : Stand p l e (⟨2, 1, 16, 28⟩ : Room) s m args below meth c T [] 0 0) (B : Bdy p s m meth c Z a0 "java/lang/StringBuilder" "<init>" jdk_67_method_1_code 1 none tables_1) (eT : T.heap = h) (o0 : Addr) (z : Int32) (n0 : Nat) (Zs : n0 ≤ h.size) (hE : Exa Z h o0 "java/lang/StringBuilder") (g0 : n0 ≤ o0) (f_value : Fld Z h o0 "java/lang/AbstractStringBuilder" "value" "[B" .null) (f_coder : Fld Z h o0 "java/lang/AbstractStringBuilder" "coder" "B" (.int (0 : Int32))) (f_count : Fld Z h o0 "java/lang/AbstractStringBuilder" "count" "I" (.int (0 : Int32))) (hn0 : Z.heap.size ≤ n0) (hO : Ext Z.heap h) (S0 : Sta Z Z.heap "java/lang/String" "COMPACT_STRINGS" "Z" (.int z)) (hz : ¬ z = 0) :
    Go p e below s 1 16 (fun v h2 L => ∃ da, v = none ∧ Fr n0 L ∧ Keep h h2 [o0] ∧ o0 ≠ da ∧ h.size ≤ da ∧ own_B Z h2 o0 da []) (T.setTop (mkF m 0 #[.val (.ref o0)] [])) := by
  have N := Fr.nil n0
  have K := Keep.refl h [o0]
  refine g_aloadN X B bi_d0 (pc' := 1) rfl (v := (.ref o0)) rfl rfl ?_
  refine g_bipush X B bi_d1 (pc' := 3) rfl (v := (16 : Int32)) (by decide) ?_
  refine g_special X B eT 0 (y := (⟨"java/lang/AbstractStringBuilder", "<init>", "(I)V"⟩ : MethodName)) (argsL := [(.int (16 : Int32))]) (rest := []) (a := o0) rfl (B.w 59 rfl) (B.w 60 rfl) (B.w 63 rfl) (B.w 64 rfl) (by decide) (ai_met l Z a0 B.2.2.1 [] h o0 (16 : Int32) z n0 Zs hE g0 f_value f_coder f_count rfl hn0 hO S0 hz) (by decide) (by decide) (by decide) (by decide) rfl (lenOf own_pd4 rfl) rfl (Nat.le_of_eq rfl) bi_d3 (pc' := 6) rfl (fun T1 v1 L1 X1 Q1 => ?_)
  obtain ⟨da, rfl, Nq1, Kq1, nq1, gq1, Bq1⟩ := Q1
  have N1 := Fr.app N Nq1
  have E_o0_1 := hE.keep Kq1
  have Zs_1 := Nat.le_trans Zs Kq1.1
  have O_1 := own_old_keep hO Kq1 (by intro x hx; simp only [List.mem_cons, List.not_mem_nil, or_false] at hx; subst hx; exact Nat.le_trans hn0 g0)
  have K_1 := K.trans Kq1 (by intro x hx; simp only [List.mem_cons, List.not_mem_nil, or_false] at hx; subst hx; exact Or.inl (List.mem_of_getElem? (i := 0) rfl))
  show Go p e below s _ _ _ (T1.setTop (mkF m 6 #[.val (.ref o0)] []))
  exact g_ret0 X1 B rfl bi_d6 (by decide) (by decide) ⟨da, rfl, N1, K_1, nq1, gq1, Bq1⟩
theorem bi_met (l : Launch) (Z : State) (a0 : Array Value) (hw : ∀ d ∈ tables_1, d.before a0 Z = true) (ws : List Jvm.Cond) (h : Heap) (o0 : Addr) (z : Int32) (n0 : Nat) (Zs : n0 ≤ h.size) (hE : Exa Z h o0 "java/lang/StringBuilder") (g0 : n0 ≤ o0) (f_value : Fld Z h o0 "java/lang/AbstractStringBuilder" "value" "[B" .null) (f_coder : Fld Z h o0 "java/lang/AbstractStringBuilder" "coder" "B" (.int (0 : Int32))) (f_count : Fld Z h o0 "java/lang/AbstractStringBuilder" "count" "I" (.int (0 : Int32))) (hn0 : Z.heap.size ≤ n0) (hO : Ext Z.heap h) (S0 : Sta Z Z.heap "java/lang/String" "COMPACT_STRINGS" "Z" (.int z)) (hz : ¬ z = 0) :
    Met l Z (⟨"java/lang/StringBuilder", "<init>", "()V"⟩ : MethodName) jdk_67_method_1_code 1 none ws (⟨2, 1, 16, 28⟩ : Room) #[(.ref o0)] h (fun v h2 L => ∃ da, v = none ∧ Fr n0 L ∧ Keep h h2 [o0] ∧ o0 ≠ da ∧ h.size ≤ da ∧ own_B Z h2 o0 da []) :=
  met_of own_pn_bi hw fun p e s m below meth c T X B eT => Go.top (own_ef_bi m o0) (bi_go X B eT o0 z n0 Zs hE g0 f_value f_coder f_count hn0 hO S0 hz)
theorem ec_d0 : decode jdk_68_method_9_code 0 = .ok (.aload_n 0, 1) := by decide +kernel
theorem ec_d1 : decode jdk_68_method_9_code 1 = .ok (.getfield 15, 3) := by decide +kernel
theorem ec_d4 : decode jdk_68_method_9_code 4 = .ok (.arraylength, 1) := by decide +kernel
theorem ec_d5 : decode jdk_68_method_9_code 5 = .ok (.aload_n 0, 1) := by decide +kernel
theorem ec_d6 : decode jdk_68_method_9_code 6 = .ok (.getfield 22, 3) := by decide +kernel
theorem ec_d9 : decode jdk_68_method_9_code 9 = .ok (.ishr, 1) := by decide +kernel
theorem ec_d10 : decode jdk_68_method_9_code 10 = .ok (.istore_n 2, 1) := by decide +kernel
theorem ec_d11 : decode jdk_68_method_9_code 11 = .ok (.iload_n 1, 1) := by decide +kernel
theorem ec_d12 : decode jdk_68_method_9_code 12 = .ok (.iload_n 2, 1) := by decide +kernel
theorem ec_d13 : decode jdk_68_method_9_code 13 = .ok (.isub, 1) := by decide +kernel
theorem ec_d14 : decode jdk_68_method_9_code 14 = .ok (.ifCond .le 24, 3) := by decide +kernel
theorem ec_d38 : decode jdk_68_method_9_code 38 = .ok (.return_, 1) := by decide +kernel
theorem own_pn_ec : plainFor (⟨"java/lang/AbstractStringBuilder", "ensureCapacityInternal", "(I)V"⟩ : MethodName) = true := plainFor_of_name (by first | (simp [plainName, overriddenIn]; done) | decide +kernel)
theorem own_ef_ec (m : MethodId) (o0 : Addr) (i1 : Int32) : entryFrame m #[(.ref o0), (.int i1)] 3 = (mkF m 0 #[.val (.ref o0), .val (.int i1), .unset] []) := by first | (simp [entryFrame, mkF, argsToLocals, Value.category]; done) | rfl
set_option maxRecDepth 65536 in
set_option maxHeartbeats 40000000 in
theorem ec_go {p : Program} {l : Launch} {e : Env} {s : State} {m : MethodId} {args : Array Value} {below : List Frame} {meth : Method} {c : Code} {T : State} {Z : State} {a0 : Array Value} {h : Heap} (X : Stand p l e (⟨0, 0, 0, 0⟩ : Room) s m args below meth c T [] 0 0) (B : Bdy p s m meth c Z a0 "java/lang/AbstractStringBuilder" "ensureCapacityInternal" jdk_68_method_9_code 3 none tables_1) (eT : T.heap = h) (o0 : Addr) (i1 : Int32) (da : Addr) (k : Nat) (w : Nat → Value) (Fv : Fld Z h o0 "java/lang/AbstractStringBuilder" "value" "[B" (.ref da)) (Fc : Fld Z h o0 "java/lang/AbstractStringBuilder" "coder" "B" (.int (0 : Int32))) (Aw : Ax Z h da .byte 16 w) (hi : i1.toInt = (k : Int)) (hk : k ≤ 16) :
    Go p e below s 0 0 (PQ none h []) (T.setTop (mkF m 0 #[.val (.ref o0), .val (.int i1), .unset] [])) := by
  refine g_aloadN X B ec_d0 (pc' := 1) rfl (v := (.ref o0)) rfl rfl ?_
  refine g_getF X B (B.w 69 rfl) Via.refl eT Fv ec_d1 (pc' := 4) rfl (fun T1 X1 e1 => ?_)
  refine g_arrlen X1 B (16 : Int32) e1 Aw (by decide) ec_d4 (pc' := 5) rfl ?_
  refine g_aloadN X1 B ec_d5 (pc' := 6) rfl (v := (.ref o0)) rfl rfl ?_
  refine g_getF X1 B (B.w 71 rfl) Via.refl e1 Fc ec_d6 (pc' := 9) rfl (fun T2 X2 e2 => ?_)
  refine g_ishr X2 B ec_d9 (pc' := 10) rfl (z := (((16 : Int32) >>> ((0 : Int32) &&& 31)))) rfl ?_
  refine g_istoreN X2 B ec_d10 (pc' := 11) rfl (Ls' := #[.val (.ref o0), .val (.int i1), .val (.int (((16 : Int32) >>> ((0 : Int32) &&& 31))))]) rfl ?_
  refine g_iloadN X2 B ec_d11 (pc' := 12) rfl (v := i1) rfl ?_
  refine g_iloadN X2 B ec_d12 (pc' := 13) rfl (v := (((16 : Int32) >>> ((0 : Int32) &&& 31)))) rfl ?_
  refine g_isub X2 B ec_d13 (pc' := 14) rfl ?_
  refine g_if_le X2 B ec_d14 (pcT := 38) (pcF := 17) (by decide) rfl rfl (fun c14_0 => ?_) (fun c14_0 => ?_)
  · exact absurd c14_0 (own_cap hi hk)
  · exact g_ret0 X2 B rfl ec_d38 (by decide) (by decide) ⟨rfl, e2, rfl⟩
theorem ec_met (l : Launch) (Z : State) (a0 : Array Value) (hw : ∀ d ∈ tables_1, d.before a0 Z = true) (ws : List Jvm.Cond) (h : Heap) (o0 : Addr) (i1 : Int32) (da : Addr) (k : Nat) (w : Nat → Value) (Fv : Fld Z h o0 "java/lang/AbstractStringBuilder" "value" "[B" (.ref da)) (Fc : Fld Z h o0 "java/lang/AbstractStringBuilder" "coder" "B" (.int (0 : Int32))) (Aw : Ax Z h da .byte 16 w) (hi : i1.toInt = (k : Int)) (hk : k ≤ 16) :
    Met l Z (⟨"java/lang/AbstractStringBuilder", "ensureCapacityInternal", "(I)V"⟩ : MethodName) jdk_68_method_9_code 3 none ws (⟨0, 0, 0, 0⟩ : Room) #[(.ref o0), (.int i1)] h (PQ none h []) :=
  met_of own_pn_ec hw fun p e s m below meth c T X B eT => Go.top (own_ef_ec m o0 i1) (ec_go X B eT o0 i1 da k w Fv Fc Aw hi hk)
theorem il_d0 : decode jdk_68_method_68_code 0 = .ok (.getstatic 18, 3) := by decide +kernel
theorem il_d3 : decode jdk_68_method_68_code 3 = .ok (.ifCond .eq 14, 3) := by decide +kernel
theorem il_d6 : decode jdk_68_method_68_code 6 = .ok (.aload_n 0, 1) := by decide +kernel
theorem il_d7 : decode jdk_68_method_68_code 7 = .ok (.getfield 22, 3) := by decide +kernel
theorem il_d10 : decode jdk_68_method_68_code 10 = .ok (.ifCond .ne 7, 3) := by decide +kernel
theorem il_d13 : decode jdk_68_method_68_code 13 = .ok (.iconst 1, 1) := by decide +kernel
theorem il_d14 : decode jdk_68_method_68_code 14 = .ok (.goto 4, 3) := by decide +kernel
theorem il_d18 : decode jdk_68_method_68_code 18 = .ok (.ireturn, 1) := by decide +kernel
theorem own_pn_il : plainFor (⟨"java/lang/AbstractStringBuilder", "isLatin1", "()Z"⟩ : MethodName) = true := plainFor_of_name (by first | (simp [plainName, overriddenIn]; done) | decide +kernel)
theorem own_ef_il (m : MethodId) (o0 : Addr) : entryFrame m #[(.ref o0)] 1 = (mkF m 0 #[.val (.ref o0)] []) := by first | (simp [entryFrame, mkF, argsToLocals, Value.category]; done) | rfl
set_option maxRecDepth 65536 in
set_option maxHeartbeats 40000000 in
theorem il_go {p : Program} {l : Launch} {e : Env} {s : State} {m : MethodId} {args : Array Value} {below : List Frame} {meth : Method} {c : Code} {T : State} {Z : State} {a0 : Array Value} {h : Heap} (X : Stand p l e (⟨0, 0, 0, 0⟩ : Room) s m args below meth c T [] 0 0) (B : Bdy p s m meth c Z a0 "java/lang/AbstractStringBuilder" "isLatin1" jdk_68_method_68_code 1 (some .boolean) tables_1) (eT : T.heap = h) (o0 : Addr) (z : Int32) (Fc : Fld Z h o0 "java/lang/AbstractStringBuilder" "coder" "B" (.int (0 : Int32))) (S0 : Sta Z h "java/lang/String" "COMPACT_STRINGS" "Z" (.int z)) (hz : ¬ z = 0) :
    Go p e below s 0 0 (PQ (some (.int (1 : Int32))) h []) (T.setTop (mkF m 0 #[.val (.ref o0)] [])) := by
  refine g_getS X B (B.w 66 rfl) Via.refl eT S0 il_d0 (pc' := 3) rfl (fun T1 X1 e1 => ?_)
  refine g_if_eq X1 B il_d3 (pcT := 17) (pcF := 6) (by decide) rfl rfl (fun c3_0 => ?_) (fun c3_0 => ?_)
  · exact absurd c3_0 hz
  · refine g_aloadN X1 B il_d6 (pc' := 7) rfl (v := (.ref o0)) rfl rfl ?_
    refine g_getF X1 B (B.w 71 rfl) Via.refl e1 Fc il_d7 (pc' := 10) rfl (fun T2 X2 e2 => ?_)
    refine g_if_ne X2 B il_d10 (pcT := 17) (pcF := 13) (by decide) rfl rfl (fun c10_1 => ?_) (fun c10_1 => ?_)
    · refine g_iconst X2 B il_d13 (pc' := 14) rfl (v := (1 : Int32)) (by decide) ?_
      refine g_goto X2 B il_d14 (pc' := 18) (by decide) rfl ?_
      exact g_retN X2 B (t := .boolean) rfl (by simp) il_d18 (by decide) (by decide) ⟨congrArg (fun z => some (Value.int z)) (by decide : nar .boolean (1 : Int32) = 1), e2, rfl⟩
    · exact absurd (by decide) c10_1
theorem il_met (l : Launch) (Z : State) (a0 : Array Value) (hw : ∀ d ∈ tables_1, d.before a0 Z = true) (ws : List Jvm.Cond) (h : Heap) (o0 : Addr) (z : Int32) (Fc : Fld Z h o0 "java/lang/AbstractStringBuilder" "coder" "B" (.int (0 : Int32))) (S0 : Sta Z h "java/lang/String" "COMPACT_STRINGS" "Z" (.int z)) (hz : ¬ z = 0) :
    Met l Z (⟨"java/lang/AbstractStringBuilder", "isLatin1", "()Z"⟩ : MethodName) jdk_68_method_68_code 1 (some .boolean) ws (⟨0, 0, 0, 0⟩ : Room) #[(.ref o0)] h (PQ (some (.int (1 : Int32))) h []) :=
  met_of own_pn_il hw fun p e s m below meth c T X B eT => Go.top (own_ef_il m o0) (il_go X B eT o0 z Fc S0 hz)
theorem aj_d0 : decode jdk_68_method_33_code 0 = .ok (.aload_n 0, 1) := by decide +kernel
theorem aj_d1 : decode jdk_68_method_33_code 1 = .ok (.getfield 79, 3) := by decide +kernel
theorem aj_d4 : decode jdk_68_method_33_code 4 = .ok (.istore_n 3, 1) := by decide +kernel
theorem aj_d5 : decode jdk_68_method_33_code 5 = .ok (.iload_n 3, 1) := by decide +kernel
theorem aj_d6 : decode jdk_68_method_33_code 6 = .ok (.lload_n 1, 1) := by decide +kernel
theorem aj_d7 : decode jdk_68_method_33_code 7 = .ok (.invokestatic 254, 3) := by decide +kernel
theorem aj_d10 : decode jdk_68_method_33_code 10 = .ok (.iadd, 1) := by decide +kernel
theorem aj_d11 : decode jdk_68_method_33_code 11 = .ok (.istore 4, 2) := by decide +kernel
theorem aj_d13 : decode jdk_68_method_33_code 13 = .ok (.aload_n 0, 1) := by decide +kernel
theorem aj_d14 : decode jdk_68_method_33_code 14 = .ok (.iload 4, 2) := by decide +kernel
theorem aj_d16 : decode jdk_68_method_33_code 16 = .ok (.invokevirtual 100, 3) := by decide +kernel
theorem aj_d19 : decode jdk_68_method_33_code 19 = .ok (.aload_n 0, 1) := by decide +kernel
theorem aj_d20 : decode jdk_68_method_33_code 20 = .ok (.invokevirtual 83, 3) := by decide +kernel
theorem aj_d23 : decode jdk_68_method_33_code 23 = .ok (.ifCond .eq 17, 3) := by decide +kernel
theorem aj_d26 : decode jdk_68_method_33_code 26 = .ok (.lload_n 1, 1) := by decide +kernel
theorem aj_d27 : decode jdk_68_method_33_code 27 = .ok (.iload 4, 2) := by decide +kernel
theorem aj_d29 : decode jdk_68_method_33_code 29 = .ok (.aload_n 0, 1) := by decide +kernel
theorem aj_d30 : decode jdk_68_method_33_code 30 = .ok (.getfield 15, 3) := by decide +kernel
theorem aj_d33 : decode jdk_68_method_33_code 33 = .ok (.invokestatic 259, 3) := by decide +kernel
theorem aj_d36 : decode jdk_68_method_33_code 36 = .ok (.pop, 1) := by decide +kernel
theorem aj_d37 : decode jdk_68_method_33_code 37 = .ok (.goto 15, 3) := by decide +kernel
theorem aj_d52 : decode jdk_68_method_33_code 52 = .ok (.aload_n 0, 1) := by decide +kernel
theorem aj_d53 : decode jdk_68_method_33_code 53 = .ok (.iload 4, 2) := by decide +kernel
theorem aj_d55 : decode jdk_68_method_33_code 55 = .ok (.putfield 79, 3) := by decide +kernel
theorem aj_d58 : decode jdk_68_method_33_code 58 = .ok (.aload_n 0, 1) := by decide +kernel
theorem aj_d59 : decode jdk_68_method_33_code 59 = .ok (.areturn, 1) := by decide +kernel
theorem own_pn_aj : plainFor (⟨"java/lang/AbstractStringBuilder", "append", "(J)Ljava/lang/AbstractStringBuilder;"⟩ : MethodName) = true := plainFor_of_name (by first | (simp [plainName, overriddenIn]; done) | decide +kernel)
theorem own_ef_aj (m : MethodId) (o0 : Addr) (j1 : Int64) : entryFrame m #[(.ref o0), (.long j1)] 5 = (mkF m 0 #[.val (.ref o0), .val (.long j1), .second, .unset, .unset] []) := by first | (simp [entryFrame, mkF, argsToLocals, Value.category]; done) | rfl
set_option maxRecDepth 65536 in
set_option maxHeartbeats 40000000 in
theorem aj_go {p : Program} {l : Launch} {e : Env} {s : State} {m : MethodId} {args : Array Value} {below : List Frame} {meth : Method} {c : Code} {T : State} {Z : State} {a0 : Array Value} {h : Heap} (X : Stand p l e (⟨1, 0, 0, 24⟩ : Room) s m args below meth c T [] 0 0) (B : Bdy p s m meth c Z a0 "java/lang/AbstractStringBuilder" "append" jdk_68_method_33_code 5 (some (.object "java/lang/AbstractStringBuilder")) tables_1) (eT : T.heap = h) (o0 : Addr) (j1 : Int64) (da : Addr) (cs : List Int32) (M : Nat) (z : Int32) (a1 : Addr) (a2 : Addr) (n0 : Nat) (Zs : n0 ≤ h.size) (g0 : n0 ≤ o0) (ga : n0 ≤ da) (noa : o0 ≠ da) (hB : own_B Z h o0 da cs) (hM : j1.toInt = (M : Int)) (hM13 : M < 10000000000000) (hcap : cs.length + (own_ds M).length ≤ 15) (hn0 : Z.heap.size ≤ n0) (hO : Ext Z.heap h) (S0 : Sta Z Z.heap "java/lang/String" "COMPACT_STRINGS" "Z" (.int z)) (hz : ¬ z = 0) (S1 : Sta Z Z.heap "java/lang/Integer" "DigitOnes" "[B" (.ref a1)) (S2 : Sta Z Z.heap "java/lang/Integer" "DigitTens" "[B" (.ref a2)) (Da1 : Ax Z Z.heap a1 .byte 100 own_d1) (Da2 : Ax Z Z.heap a2 .byte 100 own_d2) :
    Go p e below s 0 0 (fun v h2 L => v = some (.ref o0) ∧ Fr n0 L ∧ Keep h h2 [o0, da] ∧ own_B Z h2 o0 da (cs ++ own_ds M)) (T.setTop (mkF m 0 #[.val (.ref o0), .val (.long j1), .second, .unset, .unset] [])) := by
  have N := Fr.nil n0
  have K := Keep.refl h [o0, da]
  obtain ⟨hE, Fv, Fc, Fn, w, Aw, hsg, hft⟩ := hB
  refine g_aloadN X B aj_d0 (pc' := 1) rfl (v := (.ref o0)) rfl rfl ?_
  refine g_getF X B (B.w 84 rfl) Via.refl eT Fn aj_d1 (pc' := 4) rfl (fun T1 X1 e1 => ?_)
  refine g_istoreN X1 B aj_d4 (pc' := 5) rfl (Ls' := #[.val (.ref o0), .val (.long j1), .second, .val (.int (Int32.ofNat cs.length)), .unset]) rfl ?_
  refine g_iloadN X1 B aj_d5 (pc' := 6) rfl (v := (Int32.ofNat cs.length)) rfl ?_
  refine g_lloadN X1 B aj_d6 (pc' := 7) rfl (v := j1) rfl ?_
  refine g_callS X1 B e1 1 (y := (⟨"java/lang/Long", "stringSize", "(J)I"⟩ : MethodName)) (argsL := [(.long j1)]) (rest := [(.int (Int32.ofNat cs.length))]) (B.w 86 rfl) (B.w 87 rfl) (B.w 88 rfl) (B.w 89 rfl) (by decide) (sz_met l Z a0 B.2.2.1 [] h j1 M hM hM13) (by decide) (by decide) (by decide) (by decide) rfl (lenOf own_pd5 rfl) rfl (Nat.le_of_eq rfl) aj_d7 (pc' := 10) rfl (fun T2 v2 L2 X2 Q2 => ?_)
  obtain ⟨rfl, hh2, rfl⟩ := Q2
  rw [List.append_nil] at X2
  show Go p e below s _ _ _ (T2.setTop (mkF m 10 #[.val (.ref o0), .val (.long j1), .second, .val (.int (Int32.ofNat cs.length)), .unset] [(.int (Int32.ofNat (own_ds M).length)), (.int (Int32.ofNat cs.length))]))
  refine g_iadd X2 B aj_d10 (pc' := 11) rfl ?_
  refine g_istore X2 B aj_d11 (pc' := 13) rfl (Ls' := #[.val (.ref o0), .val (.long j1), .second, .val (.int (Int32.ofNat cs.length)), .val (.int ((Int32.ofNat cs.length) + (Int32.ofNat (own_ds M).length)))]) rfl ?_
  rw [show ((Int32.ofNat cs.length) + (Int32.ofNat (own_ds M).length)) = Int32.ofNat (cs.length + (own_ds M).length) from own_oadd _ _]
  refine g_aloadN X2 B aj_d13 (pc' := 14) rfl (v := (.ref o0)) rfl rfl ?_
  refine g_iload X2 B aj_d14 (pc' := 16) rfl (v := (Int32.ofNat (cs.length + (own_ds M).length))) rfl ?_
  refine g_privateS X2 B hh2 0 hE (y := (⟨"java/lang/AbstractStringBuilder", "ensureCapacityInternal", "(I)V"⟩ : MethodName)) (a := o0) (argsL := [(.int (Int32.ofNat (cs.length + (own_ds M).length)))]) (rest := []) (B.w 91 rfl) (B.w 94 rfl) (B.w 93 rfl) (B.w 92 rfl) (B.w 63 rfl) (B.w 95 rfl) (by decide) (ec_met l Z a0 B.2.2.1 [] h o0 (Int32.ofNat (cs.length + (own_ds M).length)) da (cs.length + (own_ds M).length) w Fv Fc Aw (own_on (by omega)) (by omega)) (by decide) (by decide) (by decide) (by decide) rfl (lenOf own_pd4 rfl) rfl (Nat.le_of_eq rfl) aj_d16 (pc' := 19) rfl (fun T3 v3 L3 X3 Q3 => ?_)
  obtain ⟨rfl, hh3, rfl⟩ := Q3
  rw [List.append_nil] at X3
  show Go p e below s _ _ _ (T3.setTop (mkF m 19 #[.val (.ref o0), .val (.long j1), .second, .val (.int (Int32.ofNat cs.length)), .val (.int (Int32.ofNat (cs.length + (own_ds M).length)))] []))
  refine g_aloadN X3 B aj_d19 (pc' := 20) rfl (v := (.ref o0)) rfl rfl ?_
  refine g_virtual X3 B hh3 0 hE (y := (⟨"java/lang/AbstractStringBuilder", "isLatin1", "()Z"⟩ : MethodName)) (argsL := []) (rest := []) (a := o0) (B.w 96 rfl) (B.w 97 rfl) (B.w 99 rfl) (B.w 98 rfl) (B.w 63 rfl) (B.w 100 rfl) (by decide) (il_met l Z a0 B.2.2.1 [] h o0 z Fc (S0.ext hO) hz) (by decide) (by decide) (by decide) (by decide) rfl (lenOf own_pd6 rfl) rfl (Nat.le_of_eq rfl) aj_d20 (pc' := 23) rfl (fun T4 v4 L4 X4 Q4 => ?_)
  obtain ⟨rfl, hh4, rfl⟩ := Q4
  rw [List.append_nil] at X4
  show Go p e below s _ _ _ (T4.setTop (mkF m 23 #[.val (.ref o0), .val (.long j1), .second, .val (.int (Int32.ofNat cs.length)), .val (.int (Int32.ofNat (cs.length + (own_ds M).length)))] [(.int (1 : Int32))]))
  refine g_if_eq X4 B aj_d23 (pcT := 40) (pcF := 26) (by decide) rfl rfl (fun c23_0 => ?_) (fun c23_0 => ?_)
  · exact absurd c23_0 (by decide)
  · refine g_lloadN X4 B aj_d26 (pc' := 27) rfl (v := j1) rfl ?_
    refine g_iload X4 B aj_d27 (pc' := 29) rfl (v := (Int32.ofNat (cs.length + (own_ds M).length))) rfl ?_
    refine g_aloadN X4 B aj_d29 (pc' := 30) rfl (v := (.ref o0)) rfl rfl ?_
    refine g_getF X4 B (B.w 69 rfl) Via.refl hh4 Fv aj_d30 (pc' := 33) rfl (fun T5 X5 e5 => ?_)
    refine g_callS X5 B e5 0 (y := (⟨"java/lang/Long", "getChars", "(JI[B)I"⟩ : MethodName)) (argsL := [(.long j1), (.int (Int32.ofNat (cs.length + (own_ds M).length))), (.ref da)]) (rest := []) (B.w 101 rfl) (B.w 102 rfl) (B.w 88 rfl) (B.w 103 rfl) (by decide) (gc_met l Z a0 B.2.2.1 [] h j1 (Int32.ofNat (cs.length + (own_ds M).length)) da M cs.length w a1 a2 n0 Zs hM hM13 (own_on (by omega)) (by omega) hft ga Aw (S1.ext hO) (S2.ext hO) (Da1.ext hO) (Da2.ext hO) (own_ne Da1.lt hn0 ga) (own_ne Da2.lt hn0 ga)) (by decide) (by decide) (by decide) (by decide) rfl (lenOf own_pd7 rfl) rfl (Nat.le_of_eq rfl) aj_d33 (pc' := 36) rfl (fun T6 v6 L6 X6 Q6 => ?_)
    obtain ⟨⟨zq, rfl⟩, Nq6, Kq6, wq, Aq6, Rq⟩ := Q6
    have N6 := Fr.app N Nq6
    have E_o0_6 := hE.keep Kq6
    have F_o0_value_6 := Fv.keep Kq6 (by simp only [List.mem_cons, List.not_mem_nil, or_false, not_or]; exact noa)
    have F_o0_coder_6 := Fc.keep Kq6 (by simp only [List.mem_cons, List.not_mem_nil, or_false, not_or]; exact noa)
    have F_o0_count_6 := Fn.keep Kq6 (by simp only [List.mem_cons, List.not_mem_nil, or_false, not_or]; exact noa)
    have Zs_6 := Nat.le_trans Zs Kq6.1
    have O_6 := own_old_keep hO Kq6 (by intro x hx; simp only [List.mem_cons, List.not_mem_nil, or_false] at hx; subst hx; exact Nat.le_trans hn0 ga)
    have K_6 := K.trans Kq6 (by intro x hx; simp only [List.mem_cons, List.not_mem_nil, or_false] at hx; subst hx; exact Or.inl (List.mem_of_getElem? (i := 1) rfl))
    show Go p e below s _ _ _ (T6.setTop (mkF m 36 #[.val (.ref o0), .val (.long j1), .second, .val (.int (Int32.ofNat cs.length)), .val (.int (Int32.ofNat (cs.length + (own_ds M).length)))] [(.int zq)]))
    refine g_pop X6 B aj_d36 (pc' := 37) rfl rfl ?_
    refine g_goto X6 B aj_d37 (pc' := 52) (by decide) rfl ?_
    refine g_aloadN X6 B aj_d52 (pc' := 53) rfl (v := (.ref o0)) rfl rfl ?_
    refine g_iload X6 B aj_d53 (pc' := 55) rfl (v := (Int32.ofNat (cs.length + (own_ds M).length))) rfl ?_
    refine g_putF X6 B (B.w 84 rfl) Via.refl rfl F_o0_count_6 E_o0_6 (Or.inl (B.w 85 rfl)) (B.w 54 rfl) (ty := .int) (by decide) rfl rfl aj_d55 (pc' := 58) rfl (fun T7 h7 X7 e7 W7 => ?_)
    have N7 := Fr.snoc X7 N6 g0
    have E_o0_7 := E_o0_6.wr W7
    have F_o0_value_7 := F_o0_value_6.other W7 (Or.inr (slot_ne (Or.inl (B.w 70 rfl)) (Or.inl (B.w 85 rfl)) (by decide) (t := (.array .byte)) (t' := .int) (by decide) (by decide)))
    have F_o0_coder_7 := F_o0_coder_6.other W7 (Or.inr (slot_ne (Or.inl (B.w 72 rfl)) (Or.inl (B.w 85 rfl)) (by decide) (t := .byte) (t' := .int) (by decide) (by decide)))
    have F_o0_count_7 := F_o0_count_6.same W7
    have A_da_7 := Aq6.other W7 (Ne.symm noa)
    have Zs_7 := Nat.le_trans Zs_6 (Keep.of_wr W7).1
    have O_7 := own_old_wr O_6 W7 (Nat.le_trans hn0 g0)
    have K_7 := K_6.wr W7 (Or.inl (List.mem_of_getElem? (i := 0) rfl))
    refine g_aloadN X7 B aj_d58 (pc' := 59) rfl (v := (.ref o0)) rfl rfl ?_
    exact g_retA X7 B rfl rfl rfl rfl aj_d59 (by decide) (by decide) (by rw [e7]; exact ⟨rfl, N7, K_7, E_o0_7, F_o0_value_7, F_o0_coder_7, (by rw [List.length_append]; exact F_o0_count_7), _, A_da_7, own_RB Rq hsg, Rq.2.1⟩)
theorem aj_met (l : Launch) (Z : State) (a0 : Array Value) (hw : ∀ d ∈ tables_1, d.before a0 Z = true) (ws : List Jvm.Cond) (h : Heap) (o0 : Addr) (j1 : Int64) (da : Addr) (cs : List Int32) (M : Nat) (z : Int32) (a1 : Addr) (a2 : Addr) (n0 : Nat) (Zs : n0 ≤ h.size) (g0 : n0 ≤ o0) (ga : n0 ≤ da) (noa : o0 ≠ da) (hB : own_B Z h o0 da cs) (hM : j1.toInt = (M : Int)) (hM13 : M < 10000000000000) (hcap : cs.length + (own_ds M).length ≤ 15) (hn0 : Z.heap.size ≤ n0) (hO : Ext Z.heap h) (S0 : Sta Z Z.heap "java/lang/String" "COMPACT_STRINGS" "Z" (.int z)) (hz : ¬ z = 0) (S1 : Sta Z Z.heap "java/lang/Integer" "DigitOnes" "[B" (.ref a1)) (S2 : Sta Z Z.heap "java/lang/Integer" "DigitTens" "[B" (.ref a2)) (Da1 : Ax Z Z.heap a1 .byte 100 own_d1) (Da2 : Ax Z Z.heap a2 .byte 100 own_d2) :
    Met l Z (⟨"java/lang/AbstractStringBuilder", "append", "(J)Ljava/lang/AbstractStringBuilder;"⟩ : MethodName) jdk_68_method_33_code 5 (some (.object "java/lang/AbstractStringBuilder")) ws (⟨1, 0, 0, 24⟩ : Room) #[(.ref o0), (.long j1)] h (fun v h2 L => v = some (.ref o0) ∧ Fr n0 L ∧ Keep h h2 [o0, da] ∧ own_B Z h2 o0 da (cs ++ own_ds M)) :=
  met_of own_pn_aj hw fun p e s m below meth c T X B eT => Go.top (own_ef_aj m o0 j1) (aj_go X B eT o0 j1 da cs M z a1 a2 n0 Zs g0 ga noa hB hM hM13 hcap hn0 hO S0 hz S1 S2 Da1 Da2)
theorem bj_d0 : decode jdk_67_method_16_code 0 = .ok (.aload_n 0, 1) := by decide +kernel
theorem bj_d1 : decode jdk_67_method_16_code 1 = .ok (.lload_n 1, 1) := by decide +kernel
theorem bj_d2 : decode jdk_67_method_16_code 2 = .ok (.invokespecial 56, 3) := by decide +kernel
theorem bj_d5 : decode jdk_67_method_16_code 5 = .ok (.pop, 1) := by decide +kernel
theorem bj_d6 : decode jdk_67_method_16_code 6 = .ok (.aload_n 0, 1) := by decide +kernel
theorem bj_d7 : decode jdk_67_method_16_code 7 = .ok (.areturn, 1) := by decide +kernel
theorem own_pn_bj : plainFor (⟨"java/lang/StringBuilder", "append", "(J)Ljava/lang/StringBuilder;"⟩ : MethodName) = true := plainFor_of_name (by first | (simp [plainName, overriddenIn]; done) | decide +kernel)
theorem own_ef_bj (m : MethodId) (o0 : Addr) (j1 : Int64) : entryFrame m #[(.ref o0), (.long j1)] 3 = (mkF m 0 #[.val (.ref o0), .val (.long j1), .second] []) := by first | (simp [entryFrame, mkF, argsToLocals, Value.category]; done) | rfl
set_option maxRecDepth 65536 in
set_option maxHeartbeats 40000000 in
theorem bj_go {p : Program} {l : Launch} {e : Env} {s : State} {m : MethodId} {args : Array Value} {below : List Frame} {meth : Method} {c : Code} {T : State} {Z : State} {a0 : Array Value} {h : Heap} (X : Stand p l e (⟨2, 0, 0, 42⟩ : Room) s m args below meth c T [] 0 0) (B : Bdy p s m meth c Z a0 "java/lang/StringBuilder" "append" jdk_67_method_16_code 3 (some (.object "java/lang/StringBuilder")) tables_1) (eT : T.heap = h) (o0 : Addr) (j1 : Int64) (da : Addr) (cs : List Int32) (M : Nat) (z : Int32) (a1 : Addr) (a2 : Addr) (n0 : Nat) (Zs : n0 ≤ h.size) (g0 : n0 ≤ o0) (ga : n0 ≤ da) (noa : o0 ≠ da) (hB : own_B Z h o0 da cs) (hM : j1.toInt = (M : Int)) (hM13 : M < 10000000000000) (hcap : cs.length + (own_ds M).length ≤ 15) (hn0 : Z.heap.size ≤ n0) (hO : Ext Z.heap h) (S0 : Sta Z Z.heap "java/lang/String" "COMPACT_STRINGS" "Z" (.int z)) (hz : ¬ z = 0) (S1 : Sta Z Z.heap "java/lang/Integer" "DigitOnes" "[B" (.ref a1)) (S2 : Sta Z Z.heap "java/lang/Integer" "DigitTens" "[B" (.ref a2)) (Da1 : Ax Z Z.heap a1 .byte 100 own_d1) (Da2 : Ax Z Z.heap a2 .byte 100 own_d2) :
    Go p e below s 0 0 (fun v h2 L => v = some (.ref o0) ∧ Fr n0 L ∧ Keep h h2 [o0, da] ∧ own_B Z h2 o0 da (cs ++ own_ds M)) (T.setTop (mkF m 0 #[.val (.ref o0), .val (.long j1), .second] [])) := by
  have N := Fr.nil n0
  have K := Keep.refl h [o0, da]
  refine g_aloadN X B bj_d0 (pc' := 1) rfl (v := (.ref o0)) rfl rfl ?_
  refine g_lloadN X B bj_d1 (pc' := 2) rfl (v := j1) rfl ?_
  refine g_super X B eT 0 hB.1 (y := (⟨"java/lang/AbstractStringBuilder", "append", "(J)Ljava/lang/AbstractStringBuilder;"⟩ : MethodName)) (x := (⟨"java/lang/AbstractStringBuilder", "isLatin1", "()Z"⟩ : MethodName)) (a := o0) (argsL := [(.long j1)]) (rest := []) (B.w 79 rfl) (B.w 99 rfl) rfl (B.w 80 rfl) (B.w 81 rfl) (by decide) (B.w 63 rfl) (B.w 83 rfl) (by decide) (aj_met l Z a0 B.2.2.1 [] h o0 j1 da cs M z a1 a2 n0 Zs g0 ga noa hB hM hM13 hcap hn0 hO S0 hz S1 S2 Da1 Da2) (by decide) (by decide) (by decide) (by decide) rfl (lenOf own_pd8 rfl) rfl (Nat.le_of_eq rfl) bj_d2 (pc' := 5) rfl (fun T1 v1 L1 X1 Q1 => ?_)
  obtain ⟨rfl, Nq1, Kq1, Bq1⟩ := Q1
  have N1 := Fr.app N Nq1
  have E_o0_1 := hB.1.keep Kq1
  have Zs_1 := Nat.le_trans Zs Kq1.1
  have O_1 := own_old_keep hO Kq1 (by intro x hx; simp only [List.mem_cons, List.not_mem_nil, or_false] at hx; rcases hx with rfl | rfl <;> first | exact Nat.le_trans hn0 g0 | exact Nat.le_trans hn0 ga)
  have K_1 := K.trans Kq1 (by intro x hx; simp only [List.mem_cons, List.not_mem_nil, or_false] at hx; rcases hx with rfl | rfl <;> first | exact Or.inl (List.mem_of_getElem? (i := 0) rfl) | exact Or.inl (List.mem_of_getElem? (i := 1) rfl))
  show Go p e below s _ _ _ (T1.setTop (mkF m 5 #[.val (.ref o0), .val (.long j1), .second] [(.ref o0)]))
  refine g_pop X1 B bj_d5 (pc' := 6) rfl rfl ?_
  refine g_aloadN X1 B bj_d6 (pc' := 7) rfl (v := (.ref o0)) rfl rfl ?_
  exact g_retA X1 B rfl rfl rfl rfl bj_d7 (by decide) (by decide) ⟨rfl, N1, K_1, Bq1⟩
theorem bj_met (l : Launch) (Z : State) (a0 : Array Value) (hw : ∀ d ∈ tables_1, d.before a0 Z = true) (ws : List Jvm.Cond) (h : Heap) (o0 : Addr) (j1 : Int64) (da : Addr) (cs : List Int32) (M : Nat) (z : Int32) (a1 : Addr) (a2 : Addr) (n0 : Nat) (Zs : n0 ≤ h.size) (g0 : n0 ≤ o0) (ga : n0 ≤ da) (noa : o0 ≠ da) (hB : own_B Z h o0 da cs) (hM : j1.toInt = (M : Int)) (hM13 : M < 10000000000000) (hcap : cs.length + (own_ds M).length ≤ 15) (hn0 : Z.heap.size ≤ n0) (hO : Ext Z.heap h) (S0 : Sta Z Z.heap "java/lang/String" "COMPACT_STRINGS" "Z" (.int z)) (hz : ¬ z = 0) (S1 : Sta Z Z.heap "java/lang/Integer" "DigitOnes" "[B" (.ref a1)) (S2 : Sta Z Z.heap "java/lang/Integer" "DigitTens" "[B" (.ref a2)) (Da1 : Ax Z Z.heap a1 .byte 100 own_d1) (Da2 : Ax Z Z.heap a2 .byte 100 own_d2) :
    Met l Z (⟨"java/lang/StringBuilder", "append", "(J)Ljava/lang/StringBuilder;"⟩ : MethodName) jdk_67_method_16_code 3 (some (.object "java/lang/StringBuilder")) ws (⟨2, 0, 0, 42⟩ : Room) #[(.ref o0), (.long j1)] h (fun v h2 L => v = some (.ref o0) ∧ Fr n0 L ∧ Keep h h2 [o0, da] ∧ own_B Z h2 o0 da (cs ++ own_ds M)) :=
  met_of own_pn_bj hw fun p e s m below meth c T X B eT => Go.top (own_ef_bj m o0 j1) (bj_go X B eT o0 j1 da cs M z a1 a2 n0 Zs g0 ga noa hB hM hM13 hcap hn0 hO S0 hz S1 S2 Da1 Da2)
def own_T (Z : State) (h : Heap) (x t : Addr) (cs : List Int32) : Prop := Exa Z h x "java/lang/String" ∧ Fld Z h x "java/lang/String" "value" "[B" (.ref t) ∧ Fld Z h x "java/lang/String" "coder" "B" (.int (0 : Int32)) ∧ Ax Z h t .byte cs.length (own_v cs)
theorem own_cat {w : Nat → Value} {cs ds : List Int32} (h : own_sg w 0 cs) : own_sg (fun j => if cs.length ≤ j ∧ j < cs.length + ds.length then own_v ds (0 + (j - cs.length)) else w j) 0 (cs ++ ds) := by
  refine own_sg_app (own_sg_eq h fun j _ hj => if_neg (by omega)) fun j hj => ?_
  show (if cs.length ≤ 0 + cs.length + j ∧ 0 + cs.length + j < cs.length + ds.length then own_v ds (0 + (0 + cs.length + j - cs.length)) else w (0 + cs.length + j)) = _
  rw [if_pos (by omega), show 0 + (0 + cs.length + j - cs.length) = j by omega]; rfl
theorem own_catf {w v : Nat → Value} {a b : Nat} (h : own_ft w) (hv : own_ft v) : own_ft (fun j => if a ≤ j ∧ j < b then v (0 + (j - a)) else w j) := fun j => by
  show fits .byte (if a ≤ j ∧ j < b then v (0 + (j - a)) else w j) = true
  split
  · exact hv _
  · exact h j
theorem own_fv {cs : List Int32} (h : ∀ c ∈ cs, 0 ≤ c.toInt ∧ c.toInt < 128) : own_ft (own_v cs) := fun j => by
  show fits .byte (.int (cs.getD j 0)) = true
  have q : 0 ≤ (cs.getD j 0).toInt ∧ (cs.getD j 0).toInt < 128 := by
    rw [List.getD_eq_getElem?_getD]
    cases hq : cs[j]? with
    | none => exact ⟨by decide, by decide⟩
    | some c => exact h c (List.mem_of_getElem? hq)
  generalize cs.getD j 0 = x at q
  have e : x.toInt8.toInt32 = x := by
    apply Int32.toInt_inj.mp
    rw [Int8.toInt_toInt32, Int32.toInt_toInt8, Int.bmod_eq_of_le (by omega) (by omega)]
  have := fits_nar_byte x
  rw [e] at this; exact this
theorem sc_d0 : decode jdk_42_method_152_code 0 = .ok (.getstatic 38, 3) := by decide +kernel
theorem sc_d3 : decode jdk_42_method_152_code 3 = .ok (.ifCond .eq 10, 3) := by decide +kernel
theorem sc_d6 : decode jdk_42_method_152_code 6 = .ok (.aload_n 0, 1) := by decide +kernel
theorem sc_d7 : decode jdk_42_method_152_code 7 = .ok (.getfield 15, 3) := by decide +kernel
theorem sc_d10 : decode jdk_42_method_152_code 10 = .ok (.goto 4, 3) := by decide +kernel
theorem sc_d14 : decode jdk_42_method_152_code 14 = .ok (.ireturn, 1) := by decide +kernel
theorem own_pn_sc : plainFor (⟨"java/lang/String", "coder", "()B"⟩ : MethodName) = true := plainFor_of_name (by first | (simp [plainName, overriddenIn]; done) | decide +kernel)
theorem own_ef_sc (m : MethodId) (o0 : Addr) : entryFrame m #[(.ref o0)] 1 = (mkF m 0 #[.val (.ref o0)] []) := by first | (simp [entryFrame, mkF, argsToLocals, Value.category]; done) | rfl
set_option maxRecDepth 65536 in
set_option maxHeartbeats 40000000 in
theorem sc_go {p : Program} {l : Launch} {e : Env} {s : State} {m : MethodId} {args : Array Value} {below : List Frame} {meth : Method} {c : Code} {T : State} {Z : State} {a0 : Array Value} {h : Heap} (X : Stand p l e (⟨0, 0, 0, 0⟩ : Room) s m args below meth c T [] 0 0) (B : Bdy p s m meth c Z a0 "java/lang/String" "coder" jdk_42_method_152_code 1 (some .byte) tables_1) (eT : T.heap = h) (o0 : Addr) (z : Int32) (tt3 : Fld Z h o0 "java/lang/String" "coder" "B" (.int (0 : Int32))) (S0 : Sta Z h "java/lang/String" "COMPACT_STRINGS" "Z" (.int z)) (hz : ¬ z = 0) :
    Go p e below s 0 0 (PQ (some (.int (0 : Int32))) h []) (T.setTop (mkF m 0 #[.val (.ref o0)] [])) := by
  refine g_getS X B (B.w 133 rfl) Via.refl eT S0 sc_d0 (pc' := 3) rfl (fun T1 X1 e1 => ?_)
  refine g_if_eq X1 B sc_d3 (pcT := 13) (pcF := 6) (by decide) rfl rfl (fun c3_0 => ?_) (fun c3_0 => ?_)
  · exact absurd c3_0 hz
  · refine g_aloadN X1 B sc_d6 (pc' := 7) rfl (v := (.ref o0)) rfl rfl ?_
    refine g_getF X1 B (B.w 134 rfl) Via.refl e1 tt3 sc_d7 (pc' := 10) rfl (fun T2 X2 e2 => ?_)
    refine g_goto X2 B sc_d10 (pc' := 14) (by decide) rfl ?_
    exact g_retN X2 B (t := .byte) rfl (by simp) sc_d14 (by decide) (by decide) ⟨congrArg (fun z => some (Value.int z)) (by decide : nar .byte (0 : Int32) = 0), e2, rfl⟩
theorem sc_met (l : Launch) (Z : State) (a0 : Array Value) (hw : ∀ d ∈ tables_1, d.before a0 Z = true) (ws : List Jvm.Cond) (h : Heap) (o0 : Addr) (z : Int32) (tt3 : Fld Z h o0 "java/lang/String" "coder" "B" (.int (0 : Int32))) (S0 : Sta Z h "java/lang/String" "COMPACT_STRINGS" "Z" (.int z)) (hz : ¬ z = 0) :
    Met l Z (⟨"java/lang/String", "coder", "()B"⟩ : MethodName) jdk_42_method_152_code 1 (some .byte) ws (⟨0, 0, 0, 0⟩ : Room) #[(.ref o0)] h (PQ (some (.int (0 : Int32))) h []) :=
  met_of own_pn_sc hw fun p e s m below meth c T X B eT => Go.top (own_ef_sc m o0) (sc_go X B eT o0 z tt3 S0 hz)
theorem sl_d0 : decode jdk_42_method_54_code 0 = .ok (.aload_n 0, 1) := by decide +kernel
theorem sl_d1 : decode jdk_42_method_54_code 1 = .ok (.getfield 9, 3) := by decide +kernel
theorem sl_d4 : decode jdk_42_method_54_code 4 = .ok (.arraylength, 1) := by decide +kernel
theorem sl_d5 : decode jdk_42_method_54_code 5 = .ok (.aload_n 0, 1) := by decide +kernel
theorem sl_d6 : decode jdk_42_method_54_code 6 = .ok (.invokevirtual 335, 3) := by decide +kernel
theorem sl_d9 : decode jdk_42_method_54_code 9 = .ok (.ishr, 1) := by decide +kernel
theorem sl_d10 : decode jdk_42_method_54_code 10 = .ok (.ireturn, 1) := by decide +kernel
theorem own_pn_sl : plainFor (⟨"java/lang/String", "length", "()I"⟩ : MethodName) = true := plainFor_of_name (by first | (simp [plainName, overriddenIn]; done) | decide +kernel)
theorem own_ef_sl (m : MethodId) (o0 : Addr) : entryFrame m #[(.ref o0)] 1 = (mkF m 0 #[.val (.ref o0)] []) := by first | (simp [entryFrame, mkF, argsToLocals, Value.category]; done) | rfl
set_option maxRecDepth 65536 in
set_option maxHeartbeats 40000000 in
theorem sl_go {p : Program} {l : Launch} {e : Env} {s : State} {m : MethodId} {args : Array Value} {below : List Frame} {meth : Method} {c : Code} {T : State} {Z : State} {a0 : Array Value} {h : Heap} (X : Stand p l e (⟨1, 0, 0, 14⟩ : Room) s m args below meth c T [] 0 0) (B : Bdy p s m meth c Z a0 "java/lang/String" "length" jdk_42_method_54_code 1 (some .int) tables_1) (eT : T.heap = h) (o0 : Addr) (t : Addr) (cs : List Int32) (z : Int32) (tt1 : Exa Z h o0 "java/lang/String") (tt2 : Fld Z h o0 "java/lang/String" "value" "[B" (.ref t)) (tt3 : Fld Z h o0 "java/lang/String" "coder" "B" (.int (0 : Int32))) (tt4 : Ax Z h t .byte cs.length (own_v cs)) (S0 : Sta Z h "java/lang/String" "COMPACT_STRINGS" "Z" (.int z)) (hz : ¬ z = 0) :
    Go p e below s 0 0 (PQ (some (.int (Int32.ofNat cs.length))) h []) (T.setTop (mkF m 0 #[.val (.ref o0)] [])) := by
  refine g_aloadN X B sl_d0 (pc' := 1) rfl (v := (.ref o0)) rfl rfl ?_
  refine g_getF X B (B.w 127 rfl) Via.refl eT tt2 sl_d1 (pc' := 4) rfl (fun T1 X1 e1 => ?_)
  refine g_arrlen X1 B (Int32.ofNat cs.length) e1 tt4 (Int32.toInt_ofNat_small tt4.1) sl_d4 (pc' := 5) rfl ?_
  refine g_aloadN X1 B sl_d5 (pc' := 6) rfl (v := (.ref o0)) rfl rfl ?_
  refine g_virtual X1 B e1 1 tt1 (y := (⟨"java/lang/String", "coder", "()B"⟩ : MethodName)) (argsL := []) (rest := [(.int (Int32.ofNat cs.length))]) (a := o0) (B.w 128 rfl) (B.w 129 rfl) (B.w 131 rfl) (B.w 130 rfl) (B.w 67 rfl) (B.w 132 rfl) (by decide) (sc_met l Z a0 B.2.2.1 [] h o0 z tt3 S0 hz) (by decide) (by decide) (by decide) (by decide) rfl (lenOf own_pd9 rfl) rfl (Nat.le_of_eq rfl) sl_d6 (pc' := 9) rfl (fun T2 v2 L2 X2 Q2 => ?_)
  obtain ⟨rfl, hh2, rfl⟩ := Q2
  rw [List.append_nil] at X2
  show Go p e below s _ _ _ (T2.setTop (mkF m 9 #[.val (.ref o0)] [(.int (0 : Int32)), (.int (Int32.ofNat cs.length))]))
  refine g_ishr X2 B sl_d9 (pc' := 10) rfl (z := (((Int32.ofNat cs.length) >>> ((0 : Int32) &&& 31)))) rfl ?_
  exact g_retI X2 B rfl sl_d10 (by decide) (by decide) ⟨congrArg (fun q => some (Value.int q)) (own_shr _), hh2, rfl⟩
theorem sl_met (l : Launch) (Z : State) (a0 : Array Value) (hw : ∀ d ∈ tables_1, d.before a0 Z = true) (ws : List Jvm.Cond) (h : Heap) (o0 : Addr) (t : Addr) (cs : List Int32) (z : Int32) (tt1 : Exa Z h o0 "java/lang/String") (tt2 : Fld Z h o0 "java/lang/String" "value" "[B" (.ref t)) (tt3 : Fld Z h o0 "java/lang/String" "coder" "B" (.int (0 : Int32))) (tt4 : Ax Z h t .byte cs.length (own_v cs)) (S0 : Sta Z h "java/lang/String" "COMPACT_STRINGS" "Z" (.int z)) (hz : ¬ z = 0) :
    Met l Z (⟨"java/lang/String", "length", "()I"⟩ : MethodName) jdk_42_method_54_code 1 (some .int) ws (⟨1, 0, 0, 14⟩ : Room) #[(.ref o0)] h (PQ (some (.int (Int32.ofNat cs.length))) h []) :=
  met_of own_pn_sl hw fun p e s m below meth c T X B eT => Go.top (own_ef_sl m o0) (sl_go X B eT o0 t cs z tt1 tt2 tt3 tt4 S0 hz)
theorem inf_d0 : decode jdk_68_method_71_code 0 = .ok (.getstatic 18, 3) := by decide +kernel
theorem inf_d3 : decode jdk_68_method_71_code 3 = .ok (.ifCond .eq 18, 3) := by decide +kernel
theorem inf_d6 : decode jdk_68_method_71_code 6 = .ok (.aload_n 0, 1) := by decide +kernel
theorem inf_d7 : decode jdk_68_method_71_code 7 = .ok (.getfield 22, 3) := by decide +kernel
theorem inf_d10 : decode jdk_68_method_71_code 10 = .ok (.aload_n 1, 1) := by decide +kernel
theorem inf_d11 : decode jdk_68_method_71_code 11 = .ok (.invokevirtual 40, 3) := by decide +kernel
theorem inf_d14 : decode jdk_68_method_71_code 14 = .ok (.if_icmp .eq 7, 3) := by decide +kernel
theorem inf_d21 : decode jdk_68_method_71_code 21 = .ok (.return_, 1) := by decide +kernel
theorem own_pn_inf : plainFor (⟨"java/lang/AbstractStringBuilder", "inflateIfNeededFor", "(Ljava/lang/String;)V"⟩ : MethodName) = true := plainFor_of_name (by first | (simp [plainName, overriddenIn]; done) | decide +kernel)
theorem own_ef_inf (m : MethodId) (o0 : Addr) (o1 : Addr) : entryFrame m #[(.ref o0), (.ref o1)] 2 = (mkF m 0 #[.val (.ref o0), .val (.ref o1)] []) := by first | (simp [entryFrame, mkF, argsToLocals, Value.category]; done) | rfl
set_option maxRecDepth 65536 in
set_option maxHeartbeats 40000000 in
theorem inf_go {p : Program} {l : Launch} {e : Env} {s : State} {m : MethodId} {args : Array Value} {below : List Frame} {meth : Method} {c : Code} {T : State} {Z : State} {a0 : Array Value} {h : Heap} (X : Stand p l e (⟨1, 0, 0, 13⟩ : Room) s m args below meth c T [] 0 0) (B : Bdy p s m meth c Z a0 "java/lang/AbstractStringBuilder" "inflateIfNeededFor" jdk_68_method_71_code 2 none tables_1) (eT : T.heap = h) (o0 : Addr) (o1 : Addr) (z : Int32) (Fc : Fld Z h o0 "java/lang/AbstractStringBuilder" "coder" "B" (.int (0 : Int32))) (tt1 : Exa Z h o1 "java/lang/String") (tt3 : Fld Z h o1 "java/lang/String" "coder" "B" (.int (0 : Int32))) (S0 : Sta Z h "java/lang/String" "COMPACT_STRINGS" "Z" (.int z)) (hz : ¬ z = 0) :
    Go p e below s 0 0 (PQ none h []) (T.setTop (mkF m 0 #[.val (.ref o0), .val (.ref o1)] [])) := by
  refine g_getS X B (B.w 66 rfl) Via.refl eT S0 inf_d0 (pc' := 3) rfl (fun T1 X1 e1 => ?_)
  refine g_if_eq X1 B inf_d3 (pcT := 21) (pcF := 6) (by decide) rfl rfl (fun c3_0 => ?_) (fun c3_0 => ?_)
  · exact absurd c3_0 hz
  · refine g_aloadN X1 B inf_d6 (pc' := 7) rfl (v := (.ref o0)) rfl rfl ?_
    refine g_getF X1 B (B.w 71 rfl) Via.refl e1 Fc inf_d7 (pc' := 10) rfl (fun T2 X2 e2 => ?_)
    refine g_aloadN X2 B inf_d10 (pc' := 11) rfl (v := (.ref o1)) rfl rfl ?_
    refine g_virtual X2 B e2 1 tt1 (y := (⟨"java/lang/String", "coder", "()B"⟩ : MethodName)) (argsL := []) (rest := [(.int (0 : Int32))]) (a := o1) (B.w 145 rfl) (B.w 129 rfl) (B.w 131 rfl) (B.w 130 rfl) (B.w 67 rfl) (B.w 132 rfl) (by decide) (sc_met l Z a0 B.2.2.1 [] h o1 z tt3 S0 hz) (by decide) (by decide) (by decide) (by decide) rfl (lenOf own_pd9 rfl) rfl (Nat.le_of_eq rfl) inf_d11 (pc' := 14) rfl (fun T3 v3 L3 X3 Q3 => ?_)
    obtain ⟨rfl, hh3, rfl⟩ := Q3
    rw [List.append_nil] at X3
    show Go p e below s _ _ _ (T3.setTop (mkF m 14 #[.val (.ref o0), .val (.ref o1)] [(.int (0 : Int32)), (.int (0 : Int32))]))
    refine g_icmp_eq X3 B inf_d14 (pcT := 21) (pcF := 17) (by decide) rfl rfl (fun c14_1 => ?_) (fun c14_1 => ?_)
    · exact g_ret0 X3 B rfl inf_d21 (by decide) (by decide) ⟨rfl, hh3, rfl⟩
    · exact absurd (by decide) c14_1
theorem inf_met (l : Launch) (Z : State) (a0 : Array Value) (hw : ∀ d ∈ tables_1, d.before a0 Z = true) (ws : List Jvm.Cond) (h : Heap) (o0 : Addr) (o1 : Addr) (z : Int32) (Fc : Fld Z h o0 "java/lang/AbstractStringBuilder" "coder" "B" (.int (0 : Int32))) (tt1 : Exa Z h o1 "java/lang/String") (tt3 : Fld Z h o1 "java/lang/String" "coder" "B" (.int (0 : Int32))) (S0 : Sta Z h "java/lang/String" "COMPACT_STRINGS" "Z" (.int z)) (hz : ¬ z = 0) :
    Met l Z (⟨"java/lang/AbstractStringBuilder", "inflateIfNeededFor", "(Ljava/lang/String;)V"⟩ : MethodName) jdk_68_method_71_code 2 none ws (⟨1, 0, 0, 13⟩ : Room) #[(.ref o0), (.ref o1)] h (PQ none h []) :=
  met_of own_pn_inf hw fun p e s m below meth c T X B eT => Go.top (own_ef_inf m o0 o1) (inf_go X B eT o0 o1 z Fc tt1 tt3 S0 hz)
theorem gb_d0 : decode jdk_42_method_147_code 0 = .ok (.aload_n 0, 1) := by decide +kernel
theorem gb_d1 : decode jdk_42_method_147_code 1 = .ok (.invokevirtual 335, 3) := by decide +kernel
theorem gb_d4 : decode jdk_42_method_147_code 4 = .ok (.iload_n 3, 1) := by decide +kernel
theorem gb_d5 : decode jdk_42_method_147_code 5 = .ok (.if_icmp .ne 23, 3) := by decide +kernel
theorem gb_d8 : decode jdk_42_method_147_code 8 = .ok (.aload_n 0, 1) := by decide +kernel
theorem gb_d9 : decode jdk_42_method_147_code 9 = .ok (.getfield 9, 3) := by decide +kernel
theorem gb_d12 : decode jdk_42_method_147_code 12 = .ok (.iconst 0, 1) := by decide +kernel
theorem gb_d13 : decode jdk_42_method_147_code 13 = .ok (.aload_n 1, 1) := by decide +kernel
theorem gb_d14 : decode jdk_42_method_147_code 14 = .ok (.iload_n 2, 1) := by decide +kernel
theorem gb_d15 : decode jdk_42_method_147_code 15 = .ok (.iload_n 3, 1) := by decide +kernel
theorem gb_d16 : decode jdk_42_method_147_code 16 = .ok (.ishl, 1) := by decide +kernel
theorem gb_d17 : decode jdk_42_method_147_code 17 = .ok (.aload_n 0, 1) := by decide +kernel
theorem gb_d18 : decode jdk_42_method_147_code 18 = .ok (.getfield 9, 3) := by decide +kernel
theorem gb_d21 : decode jdk_42_method_147_code 21 = .ok (.arraylength, 1) := by decide +kernel
theorem gb_d22 : decode jdk_42_method_147_code 22 = .ok (.invokestatic 212, 3) := by decide +kernel
theorem gb_d25 : decode jdk_42_method_147_code 25 = .ok (.goto 18, 3) := by decide +kernel
theorem gb_d43 : decode jdk_42_method_147_code 43 = .ok (.return_, 1) := by decide +kernel
theorem own_pn_gb : plainFor (⟨"java/lang/String", "getBytes", "([BIB)V"⟩ : MethodName) = true := plainFor_of_name (by first | (simp [plainName, overriddenIn]; done) | decide +kernel)
theorem own_ef_gb (m : MethodId) (o0 : Addr) (o1 : Addr) (i2 : Int32) (i3 : Int32) : entryFrame m #[(.ref o0), (.ref o1), (.int i2), (.int i3)] 4 = (mkF m 0 #[.val (.ref o0), .val (.ref o1), .val (.int i2), .val (.int i3)] []) := by first | (simp [entryFrame, mkF, argsToLocals, Value.category]; done) | rfl
set_option maxRecDepth 65536 in
set_option maxHeartbeats 40000000 in
theorem gb_go {p : Program} {l : Launch} {e : Env} {s : State} {m : MethodId} {args : Array Value} {below : List Frame} {meth : Method} {c : Code} {T : State} {Z : State} {a0 : Array Value} {h : Heap} (X : Stand p l e (⟨1, 0, 0, 18⟩ : Room) s m args below meth c T [] 0 0) (B : Bdy p s m meth c Z a0 "java/lang/String" "getBytes" jdk_42_method_147_code 4 none tables_1) (eT : T.heap = h) (o0 : Addr) (o1 : Addr) (i2 : Int32) (i3 : Int32) (t : Addr) (ds : List Int32) (k : Nat) (w : Nat → Value) (z : Int32) (n0 : Nat) (Zs : n0 ≤ h.size) (tt1 : Exa Z h o0 "java/lang/String") (tt2 : Fld Z h o0 "java/lang/String" "value" "[B" (.ref t)) (tt3 : Fld Z h o0 "java/lang/String" "coder" "B" (.int (0 : Int32))) (tt4 : Ax Z h t .byte ds.length (own_v ds)) (hfd : own_ft (own_v ds)) (hft : own_ft w) (Aw : Ax Z h o1 .byte 16 w) (hk : i2.toInt = (k : Int)) (hk16 : k + ds.length ≤ 16) (hi3 : i3 = (0 : Int32)) (ga : n0 ≤ o1) (nt : t ≠ o1) (no : o0 ≠ o1) (S0 : Sta Z h "java/lang/String" "COMPACT_STRINGS" "Z" (.int z)) (hz : ¬ z = 0) :
    Go p e below s 0 0 (fun v h2 L => v = none ∧ Fr n0 L ∧ Keep h h2 [o1] ∧ Ax Z h2 o1 .byte 16 (fun j => if k ≤ j ∧ j < k + ds.length then own_v ds (0 + (j - k)) else w j)) (T.setTop (mkF m 0 #[.val (.ref o0), .val (.ref o1), .val (.int i2), .val (.int i3)] [])) := by
  have N := Fr.nil n0
  have K := Keep.refl h [o1]
  subst hi3
  refine g_aloadN X B gb_d0 (pc' := 1) rfl (v := (.ref o0)) rfl rfl ?_
  refine g_virtual X B eT 0 tt1 (y := (⟨"java/lang/String", "coder", "()B"⟩ : MethodName)) (argsL := []) (rest := []) (a := o0) (B.w 128 rfl) (B.w 129 rfl) (B.w 131 rfl) (B.w 130 rfl) (B.w 67 rfl) (B.w 132 rfl) (by decide) (sc_met l Z a0 B.2.2.1 [] h o0 z tt3 S0 hz) (by decide) (by decide) (by decide) (by decide) rfl (lenOf own_pd9 rfl) rfl (Nat.le_of_eq rfl) gb_d1 (pc' := 4) rfl (fun T1 v1 L1 X1 Q1 => ?_)
  obtain ⟨rfl, hh1, rfl⟩ := Q1
  rw [List.append_nil] at X1
  show Go p e below s _ _ _ (T1.setTop (mkF m 4 #[.val (.ref o0), .val (.ref o1), .val (.int i2), .val (.int (0 : Int32))] [(.int (0 : Int32))]))
  refine g_iloadN X1 B gb_d4 (pc' := 5) rfl (v := (0 : Int32)) rfl ?_
  refine g_icmp_ne X1 B gb_d5 (pcT := 28) (pcF := 8) (by decide) rfl rfl (fun c5_0 => ?_) (fun c5_0 => ?_)
  · refine g_aloadN X1 B gb_d8 (pc' := 9) rfl (v := (.ref o0)) rfl rfl ?_
    refine g_getF X1 B (B.w 127 rfl) Via.refl hh1 tt2 gb_d9 (pc' := 12) rfl (fun T2 X2 e2 => ?_)
    refine g_iconst X2 B gb_d12 (pc' := 13) rfl (v := (0 : Int32)) (by decide) ?_
    refine g_aloadN X2 B gb_d13 (pc' := 14) rfl (v := (.ref o1)) rfl rfl ?_
    refine g_iloadN X2 B gb_d14 (pc' := 15) rfl (v := i2) rfl ?_
    refine g_iloadN X2 B gb_d15 (pc' := 16) rfl (v := (0 : Int32)) rfl ?_
    refine g_ishl X2 B gb_d16 (pc' := 17) rfl (z := ((i2 <<< ((0 : Int32) &&& 31)))) rfl ?_
    refine g_aloadN X2 B gb_d17 (pc' := 18) rfl (v := (.ref o0)) rfl rfl ?_
    refine g_getF X2 B (B.w 127 rfl) Via.refl e2 tt2 gb_d18 (pc' := 21) rfl (fun T3 X3 e3 => ?_)
    refine g_arrlen X3 B (Int32.ofNat ds.length) e3 tt4 (Int32.toInt_ofNat_small tt4.1) gb_d21 (pc' := 22) rfl ?_
    refine g_copyV X3 B 0 k ds.length 0 (B.w 151 rfl) (B.w 154 rfl) (B.w 152 rfl) (B.w 153 rfl) e3 tt4 Aw rfl (fun j hj => hfd j) (fun j hj => hft j) (by decide) (by rw [own_shl]; exact hk) (Int32.toInt_ofNat_small tt4.1) (by omega) (by omega) N ga rfl gb_d22 (pc' := 25) rfl (by decide) (Nat.le_of_eq rfl) (by decide) (fun T4 h4 L4 X4 e4 N4 Kq4 A4 => ?_)
    have E_o0_4 := tt1.keep Kq4
    have F_o0_value_4 := tt2.keep Kq4 (by simp only [List.mem_cons, List.not_mem_nil, or_false, not_or]; exact no)
    have F_o0_coder_4 := tt3.keep Kq4 (by simp only [List.mem_cons, List.not_mem_nil, or_false, not_or]; exact no)
    have A_t_4 := tt4.keep Kq4 (by simp only [List.mem_cons, List.not_mem_nil, or_false, not_or]; exact nt)
    have Zs_4 := Nat.le_trans Zs Kq4.1
    have K_4 := K.trans Kq4 (by intro x hx; simp only [List.mem_cons, List.not_mem_nil, or_false] at hx; subst hx; exact Or.inl (List.mem_of_getElem? (i := 0) rfl))
    refine g_goto X4 B gb_d25 (pc' := 43) (by decide) rfl ?_
    exact g_ret0 X4 B rfl gb_d43 (by decide) (by decide) (by rw [e4]; exact ⟨rfl, N4, K_4, A4⟩)
  · exact absurd (by decide) c5_0
theorem gb_met (l : Launch) (Z : State) (a0 : Array Value) (hw : ∀ d ∈ tables_1, d.before a0 Z = true) (ws : List Jvm.Cond) (h : Heap) (o0 : Addr) (o1 : Addr) (i2 : Int32) (i3 : Int32) (t : Addr) (ds : List Int32) (k : Nat) (w : Nat → Value) (z : Int32) (n0 : Nat) (Zs : n0 ≤ h.size) (tt1 : Exa Z h o0 "java/lang/String") (tt2 : Fld Z h o0 "java/lang/String" "value" "[B" (.ref t)) (tt3 : Fld Z h o0 "java/lang/String" "coder" "B" (.int (0 : Int32))) (tt4 : Ax Z h t .byte ds.length (own_v ds)) (hfd : own_ft (own_v ds)) (hft : own_ft w) (Aw : Ax Z h o1 .byte 16 w) (hk : i2.toInt = (k : Int)) (hk16 : k + ds.length ≤ 16) (hi3 : i3 = (0 : Int32)) (ga : n0 ≤ o1) (nt : t ≠ o1) (no : o0 ≠ o1) (S0 : Sta Z h "java/lang/String" "COMPACT_STRINGS" "Z" (.int z)) (hz : ¬ z = 0) :
    Met l Z (⟨"java/lang/String", "getBytes", "([BIB)V"⟩ : MethodName) jdk_42_method_147_code 4 none ws (⟨1, 0, 0, 18⟩ : Room) #[(.ref o0), (.ref o1), (.int i2), (.int i3)] h (fun v h2 L => v = none ∧ Fr n0 L ∧ Keep h h2 [o1] ∧ Ax Z h2 o1 .byte 16 (fun j => if k ≤ j ∧ j < k + ds.length then own_v ds (0 + (j - k)) else w j)) :=
  met_of own_pn_gb hw fun p e s m below meth c T X B eT => Go.top (own_ef_gb m o0 o1 i2 i3) (gb_go X B eT o0 o1 i2 i3 t ds k w z n0 Zs tt1 tt2 tt3 tt4 hfd hft Aw hk hk16 hi3 ga nt no S0 hz)
theorem ps_d0 : decode jdk_68_method_73_code 0 = .ok (.aload_n 0, 1) := by decide +kernel
theorem ps_d1 : decode jdk_68_method_73_code 1 = .ok (.aload_n 2, 1) := by decide +kernel
theorem ps_d2 : decode jdk_68_method_73_code 2 = .ok (.invokevirtual 397, 3) := by decide +kernel
theorem ps_d5 : decode jdk_68_method_73_code 5 = .ok (.aload_n 2, 1) := by decide +kernel
theorem ps_d6 : decode jdk_68_method_73_code 6 = .ok (.aload_n 0, 1) := by decide +kernel
theorem ps_d7 : decode jdk_68_method_73_code 7 = .ok (.getfield 15, 3) := by decide +kernel
theorem ps_d10 : decode jdk_68_method_73_code 10 = .ok (.iload_n 1, 1) := by decide +kernel
theorem ps_d11 : decode jdk_68_method_73_code 11 = .ok (.aload_n 0, 1) := by decide +kernel
theorem ps_d12 : decode jdk_68_method_73_code 12 = .ok (.getfield 22, 3) := by decide +kernel
theorem ps_d15 : decode jdk_68_method_73_code 15 = .ok (.invokevirtual 399, 3) := by decide +kernel
theorem ps_d18 : decode jdk_68_method_73_code 18 = .ok (.return_, 1) := by decide +kernel
theorem own_pn_ps : plainFor (⟨"java/lang/AbstractStringBuilder", "putStringAt", "(ILjava/lang/String;)V"⟩ : MethodName) = true := plainFor_of_name (by first | (simp [plainName, overriddenIn]; done) | decide +kernel)
theorem own_ef_ps (m : MethodId) (o0 : Addr) (i1 : Int32) (o2 : Addr) : entryFrame m #[(.ref o0), (.int i1), (.ref o2)] 3 = (mkF m 0 #[.val (.ref o0), .val (.int i1), .val (.ref o2)] []) := by first | (simp [entryFrame, mkF, argsToLocals, Value.category]; done) | rfl
set_option maxRecDepth 65536 in
set_option maxHeartbeats 40000000 in
theorem ps_go {p : Program} {l : Launch} {e : Env} {s : State} {m : MethodId} {args : Array Value} {below : List Frame} {meth : Method} {c : Code} {T : State} {Z : State} {a0 : Array Value} {h : Heap} (X : Stand p l e (⟨2, 0, 0, 36⟩ : Room) s m args below meth c T [] 0 0) (B : Bdy p s m meth c Z a0 "java/lang/AbstractStringBuilder" "putStringAt" jdk_68_method_73_code 3 none tables_1) (eT : T.heap = h) (o0 : Addr) (i1 : Int32) (o2 : Addr) (da : Addr) (t : Addr) (ds : List Int32) (k : Nat) (w : Nat → Value) (z : Int32) (n0 : Nat) (Zs : n0 ≤ h.size) (g0 : n0 ≤ o0) (ga : n0 ≤ da) (noa : o0 ≠ da) (hE : Exa Z h o0 "java/lang/StringBuilder") (Fv : Fld Z h o0 "java/lang/AbstractStringBuilder" "value" "[B" (.ref da)) (Fc : Fld Z h o0 "java/lang/AbstractStringBuilder" "coder" "B" (.int (0 : Int32))) (Aw : Ax Z h da .byte 16 w) (tt1 : Exa Z h o2 "java/lang/String") (tt2 : Fld Z h o2 "java/lang/String" "value" "[B" (.ref t)) (tt3 : Fld Z h o2 "java/lang/String" "coder" "B" (.int (0 : Int32))) (tt4 : Ax Z h t .byte ds.length (own_v ds)) (hfd : own_ft (own_v ds)) (hft : own_ft w) (nt : t ≠ da) (nx : o2 ≠ da) (hk : i1.toInt = (k : Int)) (hk16 : k + ds.length ≤ 16) (S0 : Sta Z h "java/lang/String" "COMPACT_STRINGS" "Z" (.int z)) (hz : ¬ z = 0) :
    Go p e below s 0 0 (fun v h2 L => v = none ∧ Fr n0 L ∧ Keep h h2 [da] ∧ Ax Z h2 da .byte 16 (fun j => if k ≤ j ∧ j < k + ds.length then own_v ds (0 + (j - k)) else w j)) (T.setTop (mkF m 0 #[.val (.ref o0), .val (.int i1), .val (.ref o2)] [])) := by
  have N := Fr.nil n0
  have K := Keep.refl h [da]
  refine g_aloadN X B ps_d0 (pc' := 1) rfl (v := (.ref o0)) rfl rfl ?_
  refine g_aloadN X B ps_d1 (pc' := 2) rfl (v := (.ref o2)) rfl rfl ?_
  refine g_privateS X B eT 0 hE (y := (⟨"java/lang/AbstractStringBuilder", "inflateIfNeededFor", "(Ljava/lang/String;)V"⟩ : MethodName)) (a := o0) (argsL := [(.ref o2)]) (rest := []) (B.w 140 rfl) (B.w 143 rfl) (B.w 142 rfl) (B.w 141 rfl) (B.w 63 rfl) (B.w 144 rfl) (by decide) (inf_met l Z a0 B.2.2.1 [] h o0 o2 z Fc tt1 tt3 S0 hz) (by decide) (by decide) (by decide) (by decide) rfl (lenOf own_pd10 rfl) rfl (Nat.le_of_eq rfl) ps_d2 (pc' := 5) rfl (fun T1 v1 L1 X1 Q1 => ?_)
  obtain ⟨rfl, hh1, rfl⟩ := Q1
  rw [List.append_nil] at X1
  show Go p e below s _ _ _ (T1.setTop (mkF m 5 #[.val (.ref o0), .val (.int i1), .val (.ref o2)] []))
  refine g_aloadN X1 B ps_d5 (pc' := 6) rfl (v := (.ref o2)) rfl rfl ?_
  refine g_aloadN X1 B ps_d6 (pc' := 7) rfl (v := (.ref o0)) rfl rfl ?_
  refine g_getF X1 B (B.w 69 rfl) Via.refl hh1 Fv ps_d7 (pc' := 10) rfl (fun T2 X2 e2 => ?_)
  refine g_iloadN X2 B ps_d10 (pc' := 11) rfl (v := i1) rfl ?_
  refine g_aloadN X2 B ps_d11 (pc' := 12) rfl (v := (.ref o0)) rfl rfl ?_
  refine g_getF X2 B (B.w 71 rfl) Via.refl e2 Fc ps_d12 (pc' := 15) rfl (fun T3 X3 e3 => ?_)
  refine g_virtual X3 B e3 0 tt1 (y := (⟨"java/lang/String", "getBytes", "([BIB)V"⟩ : MethodName)) (argsL := [(.ref da), (.int i1), (.int (0 : Int32))]) (rest := []) (a := o2) (B.w 146 rfl) (B.w 147 rfl) (B.w 149 rfl) (B.w 148 rfl) (B.w 67 rfl) (B.w 150 rfl) (by decide) (gb_met l Z a0 B.2.2.1 [] h o2 da i1 (0 : Int32) t ds k w z n0 Zs tt1 tt2 tt3 tt4 hfd hft Aw hk hk16 rfl ga nt nx S0 hz) (by decide) (by decide) (by decide) (by decide) rfl (lenOf own_pd11 rfl) rfl (Nat.le_of_eq rfl) ps_d15 (pc' := 18) rfl (fun T4 v4 L4 X4 Q4 => ?_)
  obtain ⟨rfl, Nq4, Kq4, Aq4⟩ := Q4
  have N4 := Fr.app N Nq4
  have E_o2_4 := tt1.keep Kq4
  have F_o2_value_4 := tt2.keep Kq4 (by simp only [List.mem_cons, List.not_mem_nil, or_false, not_or]; exact nx)
  have F_o2_coder_4 := tt3.keep Kq4 (by simp only [List.mem_cons, List.not_mem_nil, or_false, not_or]; exact nx)
  have A_t_4 := tt4.keep Kq4 (by simp only [List.mem_cons, List.not_mem_nil, or_false, not_or]; exact nt)
  have E_o0_4 := hE.keep Kq4
  have F_o0_value_4 := Fv.keep Kq4 (by simp only [List.mem_cons, List.not_mem_nil, or_false, not_or]; exact noa)
  have F_o0_coder_4 := Fc.keep Kq4 (by simp only [List.mem_cons, List.not_mem_nil, or_false, not_or]; exact noa)
  have Zs_4 := Nat.le_trans Zs Kq4.1
  have K_4 := K.trans Kq4 (by intro x hx; simp only [List.mem_cons, List.not_mem_nil, or_false] at hx; subst hx; exact Or.inl (List.mem_of_getElem? (i := 0) rfl))
  show Go p e below s _ _ _ (T4.setTop (mkF m 18 #[.val (.ref o0), .val (.int i1), .val (.ref o2)] []))
  exact g_ret0 X4 B rfl ps_d18 (by decide) (by decide) ⟨rfl, N4, K_4, Aq4⟩
theorem ps_met (l : Launch) (Z : State) (a0 : Array Value) (hw : ∀ d ∈ tables_1, d.before a0 Z = true) (ws : List Jvm.Cond) (h : Heap) (o0 : Addr) (i1 : Int32) (o2 : Addr) (da : Addr) (t : Addr) (ds : List Int32) (k : Nat) (w : Nat → Value) (z : Int32) (n0 : Nat) (Zs : n0 ≤ h.size) (g0 : n0 ≤ o0) (ga : n0 ≤ da) (noa : o0 ≠ da) (hE : Exa Z h o0 "java/lang/StringBuilder") (Fv : Fld Z h o0 "java/lang/AbstractStringBuilder" "value" "[B" (.ref da)) (Fc : Fld Z h o0 "java/lang/AbstractStringBuilder" "coder" "B" (.int (0 : Int32))) (Aw : Ax Z h da .byte 16 w) (tt1 : Exa Z h o2 "java/lang/String") (tt2 : Fld Z h o2 "java/lang/String" "value" "[B" (.ref t)) (tt3 : Fld Z h o2 "java/lang/String" "coder" "B" (.int (0 : Int32))) (tt4 : Ax Z h t .byte ds.length (own_v ds)) (hfd : own_ft (own_v ds)) (hft : own_ft w) (nt : t ≠ da) (nx : o2 ≠ da) (hk : i1.toInt = (k : Int)) (hk16 : k + ds.length ≤ 16) (S0 : Sta Z h "java/lang/String" "COMPACT_STRINGS" "Z" (.int z)) (hz : ¬ z = 0) :
    Met l Z (⟨"java/lang/AbstractStringBuilder", "putStringAt", "(ILjava/lang/String;)V"⟩ : MethodName) jdk_68_method_73_code 3 none ws (⟨2, 0, 0, 36⟩ : Room) #[(.ref o0), (.int i1), (.ref o2)] h (fun v h2 L => v = none ∧ Fr n0 L ∧ Keep h h2 [da] ∧ Ax Z h2 da .byte 16 (fun j => if k ≤ j ∧ j < k + ds.length then own_v ds (0 + (j - k)) else w j)) :=
  met_of own_pn_ps hw fun p e s m below meth c T X B eT => Go.top (own_ef_ps m o0 i1 o2) (ps_go X B eT o0 i1 o2 da t ds k w z n0 Zs g0 ga noa hE Fv Fc Aw tt1 tt2 tt3 tt4 hfd hft nt nx hk hk16 S0 hz)
theorem as_d0 : decode jdk_68_method_22_code 0 = .ok (.aload_n 1, 1) := by decide +kernel
theorem as_d1 : decode jdk_68_method_22_code 1 = .ok (.ifnonnull 8, 3) := by decide +kernel
theorem as_d9 : decode jdk_68_method_22_code 9 = .ok (.aload_n 1, 1) := by decide +kernel
theorem as_d10 : decode jdk_68_method_22_code 10 = .ok (.invokevirtual 32, 3) := by decide +kernel
theorem as_d13 : decode jdk_68_method_22_code 13 = .ok (.istore_n 2, 1) := by decide +kernel
theorem as_d14 : decode jdk_68_method_22_code 14 = .ok (.aload_n 0, 1) := by decide +kernel
theorem as_d15 : decode jdk_68_method_22_code 15 = .ok (.aload_n 0, 1) := by decide +kernel
theorem as_d16 : decode jdk_68_method_22_code 16 = .ok (.getfield 79, 3) := by decide +kernel
theorem as_d19 : decode jdk_68_method_22_code 19 = .ok (.iload_n 2, 1) := by decide +kernel
theorem as_d20 : decode jdk_68_method_22_code 20 = .ok (.iadd, 1) := by decide +kernel
theorem as_d21 : decode jdk_68_method_22_code 21 = .ok (.invokevirtual 100, 3) := by decide +kernel
theorem as_d24 : decode jdk_68_method_22_code 24 = .ok (.aload_n 0, 1) := by decide +kernel
theorem as_d25 : decode jdk_68_method_22_code 25 = .ok (.aload_n 0, 1) := by decide +kernel
theorem as_d26 : decode jdk_68_method_22_code 26 = .ok (.getfield 79, 3) := by decide +kernel
theorem as_d29 : decode jdk_68_method_22_code 29 = .ok (.aload_n 1, 1) := by decide +kernel
theorem as_d30 : decode jdk_68_method_22_code 30 = .ok (.invokevirtual 208, 3) := by decide +kernel
theorem as_d33 : decode jdk_68_method_22_code 33 = .ok (.aload_n 0, 1) := by decide +kernel
theorem as_d34 : decode jdk_68_method_22_code 34 = .ok (.dup, 1) := by decide +kernel
theorem as_d35 : decode jdk_68_method_22_code 35 = .ok (.getfield 79, 3) := by decide +kernel
theorem as_d38 : decode jdk_68_method_22_code 38 = .ok (.iload_n 2, 1) := by decide +kernel
theorem as_d39 : decode jdk_68_method_22_code 39 = .ok (.iadd, 1) := by decide +kernel
theorem as_d40 : decode jdk_68_method_22_code 40 = .ok (.putfield 79, 3) := by decide +kernel
theorem as_d43 : decode jdk_68_method_22_code 43 = .ok (.aload_n 0, 1) := by decide +kernel
theorem as_d44 : decode jdk_68_method_22_code 44 = .ok (.areturn, 1) := by decide +kernel
theorem own_pn_as : plainFor (⟨"java/lang/AbstractStringBuilder", "append", "(Ljava/lang/String;)Ljava/lang/AbstractStringBuilder;"⟩ : MethodName) = true := plainFor_of_name (by first | (simp [plainName, overriddenIn]; done) | decide +kernel)
theorem own_ef_as (m : MethodId) (o0 : Addr) (o1 : Addr) : entryFrame m #[(.ref o0), (.ref o1)] 3 = (mkF m 0 #[.val (.ref o0), .val (.ref o1), .unset] []) := by first | (simp [entryFrame, mkF, argsToLocals, Value.category]; done) | rfl
set_option maxRecDepth 65536 in
set_option maxHeartbeats 40000000 in
theorem as_go {p : Program} {l : Launch} {e : Env} {s : State} {m : MethodId} {args : Array Value} {below : List Frame} {meth : Method} {c : Code} {T : State} {Z : State} {a0 : Array Value} {h : Heap} (X : Stand p l e (⟨3, 0, 0, 54⟩ : Room) s m args below meth c T [] 0 0) (B : Bdy p s m meth c Z a0 "java/lang/AbstractStringBuilder" "append" jdk_68_method_22_code 3 (some (.object "java/lang/AbstractStringBuilder")) tables_1) (eT : T.heap = h) (o0 : Addr) (o1 : Addr) (da : Addr) (cs : List Int32) (t : Addr) (ds : List Int32) (z : Int32) (n0 : Nat) (Zs : n0 ≤ h.size) (g0 : n0 ≤ o0) (ga : n0 ≤ da) (noa : o0 ≠ da) (hB : own_B Z h o0 da cs) (tt1 : Exa Z h o1 "java/lang/String") (tt2 : Fld Z h o1 "java/lang/String" "value" "[B" (.ref t)) (tt3 : Fld Z h o1 "java/lang/String" "coder" "B" (.int (0 : Int32))) (tt4 : Ax Z h t .byte ds.length (own_v ds)) (hfd : own_ft (own_v ds)) (nt : t ≠ da) (nx : o1 ≠ da) (nt0 : t ≠ o0) (nx0 : o1 ≠ o0) (hcap : cs.length + ds.length ≤ 15) (hn0 : Z.heap.size ≤ n0) (hO : Ext Z.heap h) (S0 : Sta Z Z.heap "java/lang/String" "COMPACT_STRINGS" "Z" (.int z)) (hz : ¬ z = 0) :
    Go p e below s 0 0 (fun v h2 L => v = some (.ref o0) ∧ Fr n0 L ∧ Keep h h2 [o0, da] ∧ own_B Z h2 o0 da (cs ++ ds)) (T.setTop (mkF m 0 #[.val (.ref o0), .val (.ref o1), .unset] [])) := by
  have N := Fr.nil n0
  have K := Keep.refl h [o0, da]
  obtain ⟨hE, Fv, Fc, Fn, w, Aw, hsg, hft⟩ := hB
  refine g_aloadN X B as_d0 (pc' := 1) rfl (v := (.ref o1)) rfl rfl ?_
  refine g_ifnonnullR X B as_d1 (pc' := 9) (by decide) rfl ?_
  refine g_aloadN X B as_d9 (pc' := 10) rfl (v := (.ref o1)) rfl rfl ?_
  refine g_virtual X B eT 0 tt1 (y := (⟨"java/lang/String", "length", "()I"⟩ : MethodName)) (argsL := []) (rest := []) (a := o1) (B.w 122 rfl) (B.w 123 rfl) (B.w 125 rfl) (B.w 124 rfl) (B.w 67 rfl) (B.w 126 rfl) (by decide) (sl_met l Z a0 B.2.2.1 [] h o1 t ds z tt1 tt2 tt3 tt4 (S0.ext hO) hz) (by decide) (by decide) (by decide) (by decide) rfl (lenOf own_pd12 rfl) rfl (Nat.le_of_eq rfl) as_d10 (pc' := 13) rfl (fun T1 v1 L1 X1 Q1 => ?_)
  obtain ⟨rfl, hh1, rfl⟩ := Q1
  rw [List.append_nil] at X1
  show Go p e below s _ _ _ (T1.setTop (mkF m 13 #[.val (.ref o0), .val (.ref o1), .unset] [(.int (Int32.ofNat ds.length))]))
  refine g_istoreN X1 B as_d13 (pc' := 14) rfl (Ls' := #[.val (.ref o0), .val (.ref o1), .val (.int (Int32.ofNat ds.length))]) rfl ?_
  refine g_aloadN X1 B as_d14 (pc' := 15) rfl (v := (.ref o0)) rfl rfl ?_
  refine g_aloadN X1 B as_d15 (pc' := 16) rfl (v := (.ref o0)) rfl rfl ?_
  refine g_getF X1 B (B.w 84 rfl) Via.refl hh1 Fn as_d16 (pc' := 19) rfl (fun T2 X2 e2 => ?_)
  refine g_iloadN X2 B as_d19 (pc' := 20) rfl (v := (Int32.ofNat ds.length)) rfl ?_
  refine g_iadd X2 B as_d20 (pc' := 21) rfl ?_
  refine g_privateS X2 B e2 0 hE (y := (⟨"java/lang/AbstractStringBuilder", "ensureCapacityInternal", "(I)V"⟩ : MethodName)) (a := o0) (argsL := [(.int ((Int32.ofNat cs.length) + (Int32.ofNat ds.length)))]) (rest := []) (B.w 91 rfl) (B.w 94 rfl) (B.w 93 rfl) (B.w 92 rfl) (B.w 63 rfl) (B.w 95 rfl) (by decide) (ec_met l Z a0 B.2.2.1 [] h o0 ((Int32.ofNat cs.length) + (Int32.ofNat ds.length)) da (cs.length + ds.length) w Fv Fc Aw (by rw [own_oadd]; exact own_on (by omega)) (by omega)) (by decide) (by decide) (by decide) (by decide) rfl (lenOf own_pd4 rfl) rfl (Nat.le_of_eq rfl) as_d21 (pc' := 24) rfl (fun T3 v3 L3 X3 Q3 => ?_)
  obtain ⟨rfl, hh3, rfl⟩ := Q3
  rw [List.append_nil] at X3
  show Go p e below s _ _ _ (T3.setTop (mkF m 24 #[.val (.ref o0), .val (.ref o1), .val (.int (Int32.ofNat ds.length))] []))
  refine g_aloadN X3 B as_d24 (pc' := 25) rfl (v := (.ref o0)) rfl rfl ?_
  refine g_aloadN X3 B as_d25 (pc' := 26) rfl (v := (.ref o0)) rfl rfl ?_
  refine g_getF X3 B (B.w 84 rfl) Via.refl hh3 Fn as_d26 (pc' := 29) rfl (fun T4 X4 e4 => ?_)
  refine g_aloadN X4 B as_d29 (pc' := 30) rfl (v := (.ref o1)) rfl rfl ?_
  refine g_privateS X4 B e4 0 hE (y := (⟨"java/lang/AbstractStringBuilder", "putStringAt", "(ILjava/lang/String;)V"⟩ : MethodName)) (a := o0) (argsL := [(.int (Int32.ofNat cs.length)), (.ref o1)]) (rest := []) (B.w 135 rfl) (B.w 138 rfl) (B.w 137 rfl) (B.w 136 rfl) (B.w 63 rfl) (B.w 139 rfl) (by decide) (ps_met l Z a0 B.2.2.1 [] h o0 (Int32.ofNat cs.length) o1 da t ds cs.length w z n0 Zs g0 ga noa hE Fv Fc Aw tt1 tt2 tt3 tt4 hfd hft nt nx (own_on (by omega)) (by omega) (S0.ext hO) hz) (by decide) (by decide) (by decide) (by decide) rfl (lenOf own_pd13 rfl) rfl (Nat.le_of_eq rfl) as_d30 (pc' := 33) rfl (fun T5 v5 L5 X5 Q5 => ?_)
  obtain ⟨rfl, Nq5, Kq5, Aq5⟩ := Q5
  have N5 := Fr.app N Nq5
  have E_o0_5 := hE.keep Kq5
  have F_o0_value_5 := Fv.keep Kq5 (by simp only [List.mem_cons, List.not_mem_nil, or_false, not_or]; exact noa)
  have F_o0_coder_5 := Fc.keep Kq5 (by simp only [List.mem_cons, List.not_mem_nil, or_false, not_or]; exact noa)
  have F_o0_count_5 := Fn.keep Kq5 (by simp only [List.mem_cons, List.not_mem_nil, or_false, not_or]; exact noa)
  have E_o1_5 := tt1.keep Kq5
  have F_o1_value_5 := tt2.keep Kq5 (by simp only [List.mem_cons, List.not_mem_nil, or_false, not_or]; exact nx)
  have F_o1_coder_5 := tt3.keep Kq5 (by simp only [List.mem_cons, List.not_mem_nil, or_false, not_or]; exact nx)
  have A_t_5 := tt4.keep Kq5 (by simp only [List.mem_cons, List.not_mem_nil, or_false, not_or]; exact nt)
  have Zs_5 := Nat.le_trans Zs Kq5.1
  have O_5 := own_old_keep hO Kq5 (by intro x hx; simp only [List.mem_cons, List.not_mem_nil, or_false] at hx; subst hx; exact Nat.le_trans hn0 ga)
  have K_5 := K.trans Kq5 (by intro x hx; simp only [List.mem_cons, List.not_mem_nil, or_false] at hx; subst hx; exact Or.inl (List.mem_of_getElem? (i := 1) rfl))
  show Go p e below s _ _ _ (T5.setTop (mkF m 33 #[.val (.ref o0), .val (.ref o1), .val (.int (Int32.ofNat ds.length))] []))
  refine g_aloadN X5 B as_d33 (pc' := 34) rfl (v := (.ref o0)) rfl rfl ?_
  refine g_dup X5 B as_d34 (pc' := 35) rfl rfl ?_
  refine g_getF X5 B (B.w 84 rfl) Via.refl rfl F_o0_count_5 as_d35 (pc' := 38) rfl (fun T6 X6 e6 => ?_)
  refine g_iloadN X6 B as_d38 (pc' := 39) rfl (v := (Int32.ofNat ds.length)) rfl ?_
  refine g_iadd X6 B as_d39 (pc' := 40) rfl ?_
  refine g_putF X6 B (B.w 84 rfl) Via.refl e6 F_o0_count_5 E_o0_5 (Or.inl (B.w 85 rfl)) (B.w 54 rfl) (ty := .int) (by decide) rfl rfl as_d40 (pc' := 43) rfl (fun T7 h7 X7 e7 W7 => ?_)
  have N7 := Fr.snoc X7 N5 g0
  have E_o0_7 := E_o0_5.wr W7
  have F_o0_value_7 := F_o0_value_5.other W7 (Or.inr (slot_ne (Or.inl (B.w 70 rfl)) (Or.inl (B.w 85 rfl)) (by decide) (t := (.array .byte)) (t' := .int) (by decide) (by decide)))
  have F_o0_coder_7 := F_o0_coder_5.other W7 (Or.inr (slot_ne (Or.inl (B.w 72 rfl)) (Or.inl (B.w 85 rfl)) (by decide) (t := .byte) (t' := .int) (by decide) (by decide)))
  have F_o0_count_7 := F_o0_count_5.same W7
  have A_da_7 := Aq5.other W7 (Ne.symm noa)
  have E_o1_7 := E_o1_5.wr W7
  have F_o1_value_7 := F_o1_value_5.other W7 (Or.inl nx0)
  have F_o1_coder_7 := F_o1_coder_5.other W7 (Or.inl nx0)
  have A_t_7 := A_t_5.other W7 nt0
  have Zs_7 := Nat.le_trans Zs_5 (Keep.of_wr W7).1
  have O_7 := own_old_wr O_5 W7 (Nat.le_trans hn0 g0)
  have K_7 := K_5.wr W7 (Or.inl (List.mem_of_getElem? (i := 0) rfl))
  refine g_aloadN X7 B as_d43 (pc' := 44) rfl (v := (.ref o0)) rfl rfl ?_
  exact g_retA X7 B rfl rfl rfl rfl as_d44 (by decide) (by decide) (by rw [e7]; exact ⟨rfl, N7, K_7, E_o0_7, F_o0_value_7, F_o0_coder_7, (by rw [List.length_append, ← own_oadd]; exact F_o0_count_7), _, A_da_7, own_cat hsg, own_catf hft hfd⟩)
theorem as_met (l : Launch) (Z : State) (a0 : Array Value) (hw : ∀ d ∈ tables_1, d.before a0 Z = true) (ws : List Jvm.Cond) (h : Heap) (o0 : Addr) (o1 : Addr) (da : Addr) (cs : List Int32) (t : Addr) (ds : List Int32) (z : Int32) (n0 : Nat) (Zs : n0 ≤ h.size) (g0 : n0 ≤ o0) (ga : n0 ≤ da) (noa : o0 ≠ da) (hB : own_B Z h o0 da cs) (tt1 : Exa Z h o1 "java/lang/String") (tt2 : Fld Z h o1 "java/lang/String" "value" "[B" (.ref t)) (tt3 : Fld Z h o1 "java/lang/String" "coder" "B" (.int (0 : Int32))) (tt4 : Ax Z h t .byte ds.length (own_v ds)) (hfd : own_ft (own_v ds)) (nt : t ≠ da) (nx : o1 ≠ da) (nt0 : t ≠ o0) (nx0 : o1 ≠ o0) (hcap : cs.length + ds.length ≤ 15) (hn0 : Z.heap.size ≤ n0) (hO : Ext Z.heap h) (S0 : Sta Z Z.heap "java/lang/String" "COMPACT_STRINGS" "Z" (.int z)) (hz : ¬ z = 0) :
    Met l Z (⟨"java/lang/AbstractStringBuilder", "append", "(Ljava/lang/String;)Ljava/lang/AbstractStringBuilder;"⟩ : MethodName) jdk_68_method_22_code 3 (some (.object "java/lang/AbstractStringBuilder")) ws (⟨3, 0, 0, 54⟩ : Room) #[(.ref o0), (.ref o1)] h (fun v h2 L => v = some (.ref o0) ∧ Fr n0 L ∧ Keep h h2 [o0, da] ∧ own_B Z h2 o0 da (cs ++ ds)) :=
  met_of own_pn_as hw fun p e s m below meth c T X B eT => Go.top (own_ef_as m o0 o1) (as_go X B eT o0 o1 da cs t ds z n0 Zs g0 ga noa hB tt1 tt2 tt3 tt4 hfd nt nx nt0 nx0 hcap hn0 hO S0 hz)
theorem bs_d0 : decode jdk_67_method_7_code 0 = .ok (.aload_n 0, 1) := by decide +kernel
theorem bs_d1 : decode jdk_67_method_7_code 1 = .ok (.aload_n 1, 1) := by decide +kernel
theorem bs_d2 : decode jdk_67_method_7_code 2 = .ok (.invokespecial 29, 3) := by decide +kernel
theorem bs_d5 : decode jdk_67_method_7_code 5 = .ok (.pop, 1) := by decide +kernel
theorem bs_d6 : decode jdk_67_method_7_code 6 = .ok (.aload_n 0, 1) := by decide +kernel
theorem bs_d7 : decode jdk_67_method_7_code 7 = .ok (.areturn, 1) := by decide +kernel
theorem own_pn_bs : plainFor (⟨"java/lang/StringBuilder", "append", "(Ljava/lang/String;)Ljava/lang/StringBuilder;"⟩ : MethodName) = true := plainFor_of_name (by first | (simp [plainName, overriddenIn]; done) | decide +kernel)
theorem own_ef_bs (m : MethodId) (o0 : Addr) (o1 : Addr) : entryFrame m #[(.ref o0), (.ref o1)] 2 = (mkF m 0 #[.val (.ref o0), .val (.ref o1)] []) := by first | (simp [entryFrame, mkF, argsToLocals, Value.category]; done) | rfl
set_option maxRecDepth 65536 in
set_option maxHeartbeats 40000000 in
theorem bs_go {p : Program} {l : Launch} {e : Env} {s : State} {m : MethodId} {args : Array Value} {below : List Frame} {meth : Method} {c : Code} {T : State} {Z : State} {a0 : Array Value} {h : Heap} (X : Stand p l e (⟨4, 0, 0, 70⟩ : Room) s m args below meth c T [] 0 0) (B : Bdy p s m meth c Z a0 "java/lang/StringBuilder" "append" jdk_67_method_7_code 2 (some (.object "java/lang/StringBuilder")) tables_1) (eT : T.heap = h) (o0 : Addr) (o1 : Addr) (da : Addr) (cs : List Int32) (t : Addr) (ds : List Int32) (z : Int32) (n0 : Nat) (Zs : n0 ≤ h.size) (g0 : n0 ≤ o0) (ga : n0 ≤ da) (noa : o0 ≠ da) (hB : own_B Z h o0 da cs) (tt1 : Exa Z h o1 "java/lang/String") (tt2 : Fld Z h o1 "java/lang/String" "value" "[B" (.ref t)) (tt3 : Fld Z h o1 "java/lang/String" "coder" "B" (.int (0 : Int32))) (tt4 : Ax Z h t .byte ds.length (own_v ds)) (hfd : own_ft (own_v ds)) (nt : t ≠ da) (nx : o1 ≠ da) (nt0 : t ≠ o0) (nx0 : o1 ≠ o0) (hcap : cs.length + ds.length ≤ 15) (hn0 : Z.heap.size ≤ n0) (hO : Ext Z.heap h) (S0 : Sta Z Z.heap "java/lang/String" "COMPACT_STRINGS" "Z" (.int z)) (hz : ¬ z = 0) :
    Go p e below s 0 0 (fun v h2 L => v = some (.ref o0) ∧ Fr n0 L ∧ Keep h h2 [o0, da] ∧ own_B Z h2 o0 da (cs ++ ds)) (T.setTop (mkF m 0 #[.val (.ref o0), .val (.ref o1)] [])) := by
  have N := Fr.nil n0
  have K := Keep.refl h [o0, da]
  refine g_aloadN X B bs_d0 (pc' := 1) rfl (v := (.ref o0)) rfl rfl ?_
  refine g_aloadN X B bs_d1 (pc' := 2) rfl (v := (.ref o1)) rfl rfl ?_
  refine g_super X B eT 0 hB.1 (y := (⟨"java/lang/AbstractStringBuilder", "append", "(Ljava/lang/String;)Ljava/lang/AbstractStringBuilder;"⟩ : MethodName)) (x := (⟨"java/lang/AbstractStringBuilder", "isLatin1", "()Z"⟩ : MethodName)) (a := o0) (argsL := [(.ref o1)]) (rest := []) (B.w 118 rfl) (B.w 99 rfl) rfl (B.w 119 rfl) (B.w 81 rfl) (by decide) (B.w 63 rfl) (B.w 121 rfl) (by decide) (as_met l Z a0 B.2.2.1 [] h o0 o1 da cs t ds z n0 Zs g0 ga noa hB tt1 tt2 tt3 tt4 hfd nt nx nt0 nx0 hcap hn0 hO S0 hz) (by decide) (by decide) (by decide) (by decide) rfl (lenOf own_pd14 rfl) rfl (Nat.le_of_eq rfl) bs_d2 (pc' := 5) rfl (fun T1 v1 L1 X1 Q1 => ?_)
  obtain ⟨rfl, Nq1, Kq1, Bq1⟩ := Q1
  have N1 := Fr.app N Nq1
  have E_o0_1 := hB.1.keep Kq1
  have Zs_1 := Nat.le_trans Zs Kq1.1
  have O_1 := own_old_keep hO Kq1 (by intro x hx; simp only [List.mem_cons, List.not_mem_nil, or_false] at hx; rcases hx with rfl | rfl <;> first | exact Nat.le_trans hn0 g0 | exact Nat.le_trans hn0 ga)
  have K_1 := K.trans Kq1 (by intro x hx; simp only [List.mem_cons, List.not_mem_nil, or_false] at hx; rcases hx with rfl | rfl <;> first | exact Or.inl (List.mem_of_getElem? (i := 0) rfl) | exact Or.inl (List.mem_of_getElem? (i := 1) rfl))
  show Go p e below s _ _ _ (T1.setTop (mkF m 5 #[.val (.ref o0), .val (.ref o1)] [(.ref o0)]))
  refine g_pop X1 B bs_d5 (pc' := 6) rfl rfl ?_
  refine g_aloadN X1 B bs_d6 (pc' := 7) rfl (v := (.ref o0)) rfl rfl ?_
  exact g_retA X1 B rfl rfl rfl rfl bs_d7 (by decide) (by decide) ⟨rfl, N1, K_1, Bq1⟩
theorem bs_met (l : Launch) (Z : State) (a0 : Array Value) (hw : ∀ d ∈ tables_1, d.before a0 Z = true) (ws : List Jvm.Cond) (h : Heap) (o0 : Addr) (o1 : Addr) (da : Addr) (cs : List Int32) (t : Addr) (ds : List Int32) (z : Int32) (n0 : Nat) (Zs : n0 ≤ h.size) (g0 : n0 ≤ o0) (ga : n0 ≤ da) (noa : o0 ≠ da) (hB : own_B Z h o0 da cs) (tt1 : Exa Z h o1 "java/lang/String") (tt2 : Fld Z h o1 "java/lang/String" "value" "[B" (.ref t)) (tt3 : Fld Z h o1 "java/lang/String" "coder" "B" (.int (0 : Int32))) (tt4 : Ax Z h t .byte ds.length (own_v ds)) (hfd : own_ft (own_v ds)) (nt : t ≠ da) (nx : o1 ≠ da) (nt0 : t ≠ o0) (nx0 : o1 ≠ o0) (hcap : cs.length + ds.length ≤ 15) (hn0 : Z.heap.size ≤ n0) (hO : Ext Z.heap h) (S0 : Sta Z Z.heap "java/lang/String" "COMPACT_STRINGS" "Z" (.int z)) (hz : ¬ z = 0) :
    Met l Z (⟨"java/lang/StringBuilder", "append", "(Ljava/lang/String;)Ljava/lang/StringBuilder;"⟩ : MethodName) jdk_67_method_7_code 2 (some (.object "java/lang/StringBuilder")) ws (⟨4, 0, 0, 70⟩ : Room) #[(.ref o0), (.ref o1)] h (fun v h2 L => v = some (.ref o0) ∧ Fr n0 L ∧ Keep h h2 [o0, da] ∧ own_B Z h2 o0 da (cs ++ ds)) :=
  met_of own_pn_bs hw fun p e s m below meth c T X B eT => Go.top (own_ef_bs m o0 o1) (bs_go X B eT o0 o1 da cs t ds z n0 Zs g0 ga noa hB tt1 tt2 tt3 tt4 hfd nt nx nt0 nx0 hcap hn0 hO S0 hz)
theorem m2_d0 : decode jdk_29_method_69_code 0 = .ok (.iload_n 0, 1) := by decide +kernel
theorem m2_d1 : decode jdk_29_method_69_code 1 = .ok (.iload_n 1, 1) := by decide +kernel
theorem m2_d2 : decode jdk_29_method_69_code 2 = .ok (.if_icmp .gt 7, 3) := by decide +kernel
theorem m2_d5 : decode jdk_29_method_69_code 5 = .ok (.iload_n 0, 1) := by decide +kernel
theorem m2_d6 : decode jdk_29_method_69_code 6 = .ok (.goto 4, 3) := by decide +kernel
theorem m2_d9 : decode jdk_29_method_69_code 9 = .ok (.iload_n 1, 1) := by decide +kernel
theorem m2_d10 : decode jdk_29_method_69_code 10 = .ok (.ireturn, 1) := by decide +kernel
def m2_f10 (t0 : Int32) : Int32 := t0
theorem m2_b10 {p : Program} {l : Launch} {e : Env} {s : State} {m : MethodId} {args : Array Value} {below : List Frame} {meth : Method} {c : Code} {T : State} {Z : State} {a0 : Array Value} {h : Heap} {locs : List Loc} {cells slots : Nat} (X : Stand p l e (⟨0, 0, 0, 0⟩ : Room) s m args below meth c T locs cells slots) (hc : cells ≤ ((⟨0, 0, 0, 0⟩ : Room)).cells) (hs : slots ≤ ((⟨0, 0, 0, 0⟩ : Room)).slots) (B : Bdy p s m meth c Z a0 "java/lang/Math" "min" jdk_29_method_69_code 2 (some .int) tables_1) (eT : T.heap = h) (i0 : Int32) (i1 : Int32) (t0 : Int32)  :
    Go p e below s cells slots (PQ (some (.int (m2_f10 t0))) h locs) (T.setTop (mkF m 10 #[.val (.int i0), .val (.int i1)] [(.int t0)])) := by
  exact g_retI X B rfl m2_d10 (Nat.le_refl _) (Nat.le_refl _) ⟨congrArg (fun z => some (Value.int z)) (Eq.symm (by rw [m2_f10])), eT, rfl⟩
def m2_f0 (i0 : Int32) (i1 : Int32) : Int32 := (if i1 < i0 then (m2_f10 i1) else (m2_f10 i0))
theorem m2_b0 {p : Program} {l : Launch} {e : Env} {s : State} {m : MethodId} {args : Array Value} {below : List Frame} {meth : Method} {c : Code} {T : State} {Z : State} {a0 : Array Value} {h : Heap} {locs : List Loc} {cells slots : Nat} (X : Stand p l e (⟨0, 0, 0, 0⟩ : Room) s m args below meth c T locs cells slots) (hc : cells ≤ ((⟨0, 0, 0, 0⟩ : Room)).cells) (hs : slots ≤ ((⟨0, 0, 0, 0⟩ : Room)).slots) (B : Bdy p s m meth c Z a0 "java/lang/Math" "min" jdk_29_method_69_code 2 (some .int) tables_1) (eT : T.heap = h) (i0 : Int32) (i1 : Int32)  :
    Go p e below s cells slots (PQ (some (.int (m2_f0 i0 i1))) h locs) (T.setTop (mkF m 0 #[.val (.int i0), .val (.int i1)] [])) := by
  refine g_iloadN X B m2_d0 (pc' := 1) rfl (v := i0) rfl ?_
  refine g_iloadN X B m2_d1 (pc' := 2) rfl (v := i1) rfl ?_
  refine g_icmp_gt X B m2_d2 (pcT := 9) (pcF := 5) (by decide) rfl rfl (fun c2_0 => ?_) (fun c2_0 => ?_)
  · refine g_iloadN X B m2_d9 (pc' := 10) rfl (v := i1) rfl ?_
    exact Go.cw (congrArg (fun z => some (Value.int z)) (Eq.symm (by rw [m2_f0, if_pos c2_0]))) (m2_b10 X hc hs B eT i0 i1 i1)
  · refine g_iloadN X B m2_d5 (pc' := 6) rfl (v := i0) rfl ?_
    refine g_goto X B m2_d6 (pc' := 10) (by decide) rfl ?_
    exact Go.cw (congrArg (fun z => some (Value.int z)) (Eq.symm (by rw [m2_f0, if_neg c2_0]))) (m2_b10 X hc hs B eT i0 i1 i0)
theorem own_pn_m2 : plainFor (⟨"java/lang/Math", "min", "(II)I"⟩ : MethodName) = true := by decide +kernel
theorem own_ef_m2 (m : MethodId) (i0 : Int32) (i1 : Int32) : entryFrame m #[(.int i0), (.int i1)] 2 = (mkF m 0 #[.val (.int i0), .val (.int i1)] []) := by first | (simp [entryFrame, mkF, argsToLocals, Value.category]; done) | rfl
theorem m2_met (l : Launch) (Z : State) (a0 : Array Value) (hw : ∀ d ∈ tables_1, d.before a0 Z = true) (ws : List Jvm.Cond) (h : Heap) (i0 : Int32) (i1 : Int32)  :
    Met l Z (⟨"java/lang/Math", "min", "(II)I"⟩ : MethodName) jdk_29_method_69_code 2 (some .int) ws (⟨0, 0, 0, 0⟩ : Room) #[(.int i0), (.int i1)] h (PQ (some (.int (m2_f0 i0 i1))) h []) :=
  met_of own_pn_m2 hw fun p e s m below meth c T X B eT => Go.top (own_ef_m2 m i0 i1) (m2_b0 X (Nat.zero_le _) (Nat.zero_le _) B eT i0 i1)
theorem own_cpy {w v : Nat → Value} {cs : List Int32} (h : own_sg w 0 cs) : ∀ j, j < cs.length → (fun j => if 0 ≤ j ∧ j < 0 + cs.length then w (0 + (j - 0)) else v j) j = own_v cs j := fun j hj => by
  show (if 0 ≤ j ∧ j < 0 + cs.length then w (0 + (j - 0)) else v j) = _
  rw [if_pos (by omega), show 0 + (j - 0) = 0 + j by omega]; exact h j hj
theorem own_m2 {i : Int32} {k : Nat} (h : i.toInt = (k : Int)) (hk : k ≤ 15) : (m2_f0 ((16 : Int32) - (0 : Int32)) i).toInt = (k : Int) := by
  have e : (16 : Int32) - (0 : Int32) = 16 := by decide
  have e1 : (16 : Int32).toInt = 16 := rfl
  have q : i < 16 := by rw [Int32.lt_iff_toInt_lt]; omega
  rw [e]
  have e2 : m2_f0 16 i = i := by simp [m2_f0, m2_f10, q]
  rw [e2]; exact h
theorem own_lt16 {i : Int32} {k : Nat} (h : i.toInt = (k : Int)) (hk : k ≤ 15) : ¬ i = (16 : Int32) := fun e => by
  rw [e] at h; have e1 : (16 : Int32).toInt = 16 := rfl
  omega
theorem own_ge0 {i : Int32} {k : Nat} (h : i.toInt = (k : Int)) : ¬ i < (0 : Int32) := by
  rw [Int32.lt_iff_toInt_lt]; have e1 : (0 : Int32).toInt = 0 := rfl
  omega
theorem ck_d0 : decode jdk_65_method_131_code 0 = .ok (.iload_n 1, 1) := by decide +kernel
theorem ck_d1 : decode jdk_65_method_131_code 1 = .ok (.iload_n 0, 1) := by decide +kernel
theorem ck_d2 : decode jdk_65_method_131_code 2 = .ok (.if_icmp .ge 35, 3) := by decide +kernel
theorem ck_d37 : decode jdk_65_method_131_code 37 = .ok (.return_, 1) := by decide +kernel
theorem own_pn_ck : plainFor (⟨"java/util/Arrays", "checkLength", "(II)V"⟩ : MethodName) = true := by decide +kernel
theorem own_ef_ck (m : MethodId) (i0 : Int32) (i1 : Int32) : entryFrame m #[(.int i0), (.int i1)] 2 = (mkF m 0 #[.val (.int i0), .val (.int i1)] []) := by first | (simp [entryFrame, mkF, argsToLocals, Value.category]; done) | rfl
set_option maxRecDepth 65536 in
set_option maxHeartbeats 40000000 in
theorem ck_go {p : Program} {l : Launch} {e : Env} {s : State} {m : MethodId} {args : Array Value} {below : List Frame} {meth : Method} {c : Code} {T : State} {Z : State} {a0 : Array Value} {h : Heap} (X : Stand p l e (⟨0, 0, 0, 0⟩ : Room) s m args below meth c T [] 0 0) (B : Bdy p s m meth c Z a0 "java/util/Arrays" "checkLength" jdk_65_method_131_code 2 none tables_1) (eT : T.heap = h) (i0 : Int32) (i1 : Int32) (n : Nat) (h0 : i0 = (0 : Int32)) (hn : i1.toInt = (n : Int)) :
    Go p e below s 0 0 (PQ none h []) (T.setTop (mkF m 0 #[.val (.int i0), .val (.int i1)] [])) := by
  subst h0
  refine g_iloadN X B ck_d0 (pc' := 1) rfl (v := i1) rfl ?_
  refine g_iloadN X B ck_d1 (pc' := 2) rfl (v := (0 : Int32)) rfl ?_
  refine g_icmp_ge X B ck_d2 (pcT := 37) (pcF := 5) (by decide) rfl rfl (fun c2_0 => ?_) (fun c2_0 => ?_)
  · exact absurd c2_0 (own_ge0 hn)
  · exact g_ret0 X B rfl ck_d37 (by decide) (by decide) ⟨rfl, eT, rfl⟩
theorem ck_met (l : Launch) (Z : State) (a0 : Array Value) (hw : ∀ d ∈ tables_1, d.before a0 Z = true) (ws : List Jvm.Cond) (h : Heap) (i0 : Int32) (i1 : Int32) (n : Nat) (h0 : i0 = (0 : Int32)) (hn : i1.toInt = (n : Int)) :
    Met l Z (⟨"java/util/Arrays", "checkLength", "(II)V"⟩ : MethodName) jdk_65_method_131_code 2 none ws (⟨0, 0, 0, 0⟩ : Room) #[(.int i0), (.int i1)] h (PQ none h []) :=
  met_of own_pn_ck hw fun p e s m below meth c T X B eT => Go.top (own_ef_ck m i0 i1) (ck_go X B eT i0 i1 n h0 hn)
theorem cb_d0 : decode jdk_65_method_133_code 0 = .ok (.iload_n 1, 1) := by decide +kernel
theorem cb_d1 : decode jdk_65_method_133_code 1 = .ok (.iload_n 2, 1) := by decide +kernel
theorem cb_d2 : decode jdk_65_method_133_code 2 = .ok (.invokestatic 343, 3) := by decide +kernel
theorem cb_d5 : decode jdk_65_method_133_code 5 = .ok (.iload_n 2, 1) := by decide +kernel
theorem cb_d6 : decode jdk_65_method_133_code 6 = .ok (.iload_n 1, 1) := by decide +kernel
theorem cb_d7 : decode jdk_65_method_133_code 7 = .ok (.isub, 1) := by decide +kernel
theorem cb_d8 : decode jdk_65_method_133_code 8 = .ok (.istore_n 3, 1) := by decide +kernel
theorem cb_d9 : decode jdk_65_method_133_code 9 = .ok (.iload_n 3, 1) := by decide +kernel
theorem cb_d10 : decode jdk_65_method_133_code 10 = .ok (.newarray .byte, 2) := by decide +kernel
theorem cb_d12 : decode jdk_65_method_133_code 12 = .ok (.astore 4, 2) := by decide +kernel
theorem cb_d14 : decode jdk_65_method_133_code 14 = .ok (.aload_n 0, 1) := by decide +kernel
theorem cb_d15 : decode jdk_65_method_133_code 15 = .ok (.iload_n 1, 1) := by decide +kernel
theorem cb_d16 : decode jdk_65_method_133_code 16 = .ok (.aload 4, 2) := by decide +kernel
theorem cb_d18 : decode jdk_65_method_133_code 18 = .ok (.iconst 0, 1) := by decide +kernel
theorem cb_d19 : decode jdk_65_method_133_code 19 = .ok (.aload_n 0, 1) := by decide +kernel
theorem cb_d20 : decode jdk_65_method_133_code 20 = .ok (.arraylength, 1) := by decide +kernel
theorem cb_d21 : decode jdk_65_method_133_code 21 = .ok (.iload_n 1, 1) := by decide +kernel
theorem cb_d22 : decode jdk_65_method_133_code 22 = .ok (.isub, 1) := by decide +kernel
theorem cb_d23 : decode jdk_65_method_133_code 23 = .ok (.iload_n 3, 1) := by decide +kernel
theorem cb_d24 : decode jdk_65_method_133_code 24 = .ok (.invokestatic 304, 3) := by decide +kernel
theorem cb_d27 : decode jdk_65_method_133_code 27 = .ok (.invokestatic 150, 3) := by decide +kernel
theorem cb_d30 : decode jdk_65_method_133_code 30 = .ok (.aload 4, 2) := by decide +kernel
theorem cb_d32 : decode jdk_65_method_133_code 32 = .ok (.areturn, 1) := by decide +kernel
theorem own_pn_cb : plainFor (⟨"java/util/Arrays", "copyOfRangeByte", "([BII)[B"⟩ : MethodName) = true := by decide +kernel
theorem own_ef_cb (m : MethodId) (o0 : Addr) (i1 : Int32) (i2 : Int32) : entryFrame m #[(.ref o0), (.int i1), (.int i2)] 5 = (mkF m 0 #[.val (.ref o0), .val (.int i1), .val (.int i2), .unset, .unset] []) := by first | (simp [entryFrame, mkF, argsToLocals, Value.category]; done) | rfl
set_option maxRecDepth 65536 in
set_option maxHeartbeats 40000000 in
theorem cb_go {p : Program} {l : Launch} {e : Env} {s : State} {m : MethodId} {args : Array Value} {below : List Frame} {meth : Method} {c : Code} {T : State} {Z : State} {a0 : Array Value} {h : Heap} (X : Stand p l e (⟨1, 1, 16, 20⟩ : Room) s m args below meth c T [] 0 0) (B : Bdy p s m meth c Z a0 "java/util/Arrays" "copyOfRangeByte" jdk_65_method_133_code 5 (some (.array .byte)) tables_1) (eT : T.heap = h) (o0 : Addr) (i1 : Int32) (i2 : Int32) (cs : List Int32) (w : Nat → Value) (n0 : Nat) (Zs : n0 ≤ h.size) (hsg : own_sg w 0 cs) (hft : own_ft w) (Aw : Ax Z h o0 .byte 16 w) (h1 : i1 = (0 : Int32)) (hn : i2.toInt = (cs.length : Int)) (hcap : cs.length ≤ 15) :
    Go p e below s 1 16 (fun v h2 L => ∃ t, v = some (.ref t) ∧ Fr n0 L ∧ Keep h h2 [] ∧ h.size ≤ t ∧ Ax Z h2 t .byte cs.length (own_v cs)) (T.setTop (mkF m 0 #[.val (.ref o0), .val (.int i1), .val (.int i2), .unset, .unset] [])) := by
  have N := Fr.nil n0
  have K := Keep.refl h []
  subst h1
  refine g_iloadN X B cb_d0 (pc' := 1) rfl (v := (0 : Int32)) rfl ?_
  refine g_iloadN X B cb_d1 (pc' := 2) rfl (v := i2) rfl ?_
  refine g_callS X B eT 0 (y := (⟨"java/util/Arrays", "checkLength", "(II)V"⟩ : MethodName)) (argsL := [(.int (0 : Int32)), (.int i2)]) (rest := []) (B.w 189 rfl) (B.w 190 rfl) (B.w 31 rfl) (B.w 191 rfl) (by decide) (ck_met l Z a0 B.2.2.1 [] h (0 : Int32) i2 cs.length rfl hn) (by decide) (by decide) (by decide) (by decide) rfl (lenOf own_pd15 rfl) rfl (Nat.le_of_eq rfl) cb_d2 (pc' := 5) rfl (fun T1 v1 L1 X1 Q1 => ?_)
  obtain ⟨rfl, hh1, rfl⟩ := Q1
  rw [List.append_nil] at X1
  show Go p e below s _ _ _ (T1.setTop (mkF m 5 #[.val (.ref o0), .val (.int (0 : Int32)), .val (.int i2), .unset, .unset] []))
  refine g_iloadN X1 B cb_d5 (pc' := 6) rfl (v := i2) rfl ?_
  refine g_iloadN X1 B cb_d6 (pc' := 7) rfl (v := (0 : Int32)) rfl ?_
  refine g_isub X1 B cb_d7 (pc' := 8) rfl ?_
  refine g_istoreN X1 B cb_d8 (pc' := 9) rfl (Ls' := #[.val (.ref o0), .val (.int (0 : Int32)), .val (.int i2), .val (.int (i2 - (0 : Int32))), .unset]) rfl ?_
  rw [show (i2 - (0 : Int32)) = i2 from Int32.sub_zero _]
  refine g_iloadN X1 B cb_d9 (pc' := 10) rfl (v := i2) rfl ?_
  refine g_newA X1 B (aty := .byte) cs.length 16 (B.w 68 rfl) hh1 hn (by omega) (by decide) cb_d10 (pc' := 12) rfl (by decide) (by decide) (fun T2 h2 ob2 q2 X2 e2 E2 A2 => ?_)
  have ne_o0_ob2 : o0 ≠ ob2 := fun q => absurd (Aw.lt) (by rw [q, q2]; exact Nat.lt_irrefl _)
  have G_ob2 : n0 ≤ ob2 := by rw [q2]; exact Zs
  have H_ob2 : h.size ≤ ob2 := by rw [q2]; exact K.1
  have A_o0_2 := Aw.ext E2
  have Zs_2 := Nat.le_trans Zs E2.1
  have K_2 := K.ext E2
  have A_ob2 : Ax Z h2 ob2 .byte cs.length (fun _ => (.int (0 : Int32))) := A2
  refine g_astore X2 B cb_d12 (pc' := 14) rfl rfl (Ls' := #[.val (.ref o0), .val (.int (0 : Int32)), .val (.int i2), .val (.int i2), .val (.ref ob2)]) rfl ?_
  refine g_aloadN X2 B cb_d14 (pc' := 15) rfl (v := (.ref o0)) rfl rfl ?_
  refine g_iloadN X2 B cb_d15 (pc' := 16) rfl (v := (0 : Int32)) rfl ?_
  refine g_aload X2 B cb_d16 (pc' := 18) rfl (v := (.ref ob2)) rfl rfl ?_
  refine g_iconst X2 B cb_d18 (pc' := 19) rfl (v := (0 : Int32)) (by decide) ?_
  refine g_aloadN X2 B cb_d19 (pc' := 20) rfl (v := (.ref o0)) rfl rfl ?_
  refine g_arrlen X2 B (16 : Int32) e2 A_o0_2 (by decide) cb_d20 (pc' := 21) rfl ?_
  refine g_iloadN X2 B cb_d21 (pc' := 22) rfl (v := (0 : Int32)) rfl ?_
  refine g_isub X2 B cb_d22 (pc' := 23) rfl ?_
  refine g_iloadN X2 B cb_d23 (pc' := 24) rfl (v := i2) rfl ?_
  refine g_callP X2 B e2 4 (y := (⟨"java/lang/Math", "min", "(II)I"⟩ : MethodName)) (argsL := [(.int ((16 : Int32) - (0 : Int32))), (.int i2)]) (rest := [(.int (0 : Int32)), (.ref ob2), (.int (0 : Int32)), (.ref o0)]) (w := (.int (m2_f0 ((16 : Int32) - (0 : Int32)) i2))) (B.w 192 rfl) (B.w 193 rfl) (B.w 50 rfl) (B.w 194 rfl) (by decide) (m2_met l Z a0 B.2.2.1 [] h2 ((16 : Int32) - (0 : Int32)) i2) (by decide) (by decide) (by decide) (by decide) rfl (lenOf own_pd16 rfl) rfl (Nat.le_of_eq rfl) cb_d24 (pc' := 27) rfl (fun T3 X3 e3 => ?_)
  refine g_copyV X3 B 0 0 cs.length 0 (B.w 195 rfl) (B.w 154 rfl) (B.w 152 rfl) (B.w 153 rfl) e3 A_o0_2 A_ob2 rfl (fun j hj => hft j) (fun j hj => rfl) (by decide) (by decide) (own_m2 hn hcap) (by omega) (by omega) N G_ob2 rfl cb_d27 (pc' := 30) rfl (by decide) (Nat.le_of_eq rfl) (by decide) (fun T4 h4 L4 X4 e4 N4 Kq4 A4 => ?_)
  have A_o0_4 := A_o0_2.keep Kq4 (by simp only [List.mem_cons, List.not_mem_nil, or_false, not_or]; exact ne_o0_ob2)
  have Zs_4 := Nat.le_trans Zs_2 Kq4.1
  have K_4 := K_2.trans Kq4 (by intro x hx; simp only [List.mem_cons, List.not_mem_nil, or_false] at hx; subst hx; exact Or.inr H_ob2)
  refine g_aload X4 B cb_d30 (pc' := 32) rfl (v := (.ref ob2)) rfl rfl ?_
  exact g_retA X4 B rfl rfl rfl rfl cb_d32 (by decide) (by decide) (by rw [e4]; exact ⟨ob2, rfl, N4, K_4, H_ob2, A4.eqw (own_cpy hsg)⟩)
theorem cb_met (l : Launch) (Z : State) (a0 : Array Value) (hw : ∀ d ∈ tables_1, d.before a0 Z = true) (ws : List Jvm.Cond) (h : Heap) (o0 : Addr) (i1 : Int32) (i2 : Int32) (cs : List Int32) (w : Nat → Value) (n0 : Nat) (Zs : n0 ≤ h.size) (hsg : own_sg w 0 cs) (hft : own_ft w) (Aw : Ax Z h o0 .byte 16 w) (h1 : i1 = (0 : Int32)) (hn : i2.toInt = (cs.length : Int)) (hcap : cs.length ≤ 15) :
    Met l Z (⟨"java/util/Arrays", "copyOfRangeByte", "([BII)[B"⟩ : MethodName) jdk_65_method_133_code 5 (some (.array .byte)) ws (⟨1, 1, 16, 20⟩ : Room) #[(.ref o0), (.int i1), (.int i2)] h (fun v h2 L => ∃ t, v = some (.ref t) ∧ Fr n0 L ∧ Keep h h2 [] ∧ h.size ≤ t ∧ Ax Z h2 t .byte cs.length (own_v cs)) :=
  met_of own_pn_cb hw fun p e s m below meth c T X B eT => Go.top (own_ef_cb m o0 i1 i2) (cb_go X B eT o0 i1 i2 cs w n0 Zs hsg hft Aw h1 hn hcap)
theorem co_d0 : decode jdk_65_method_132_code 0 = .ok (.iload_n 1, 1) := by decide +kernel
theorem co_d1 : decode jdk_65_method_132_code 1 = .ok (.ifCond .ne 9, 3) := by decide +kernel
theorem co_d4 : decode jdk_65_method_132_code 4 = .ok (.iload_n 2, 1) := by decide +kernel
theorem co_d5 : decode jdk_65_method_132_code 5 = .ok (.aload_n 0, 1) := by decide +kernel
theorem co_d6 : decode jdk_65_method_132_code 6 = .ok (.arraylength, 1) := by decide +kernel
theorem co_d7 : decode jdk_65_method_132_code 7 = .ok (.if_icmp .eq 10, 3) := by decide +kernel
theorem co_d10 : decode jdk_65_method_132_code 10 = .ok (.aload_n 0, 1) := by decide +kernel
theorem co_d11 : decode jdk_65_method_132_code 11 = .ok (.iload_n 1, 1) := by decide +kernel
theorem co_d12 : decode jdk_65_method_132_code 12 = .ok (.iload_n 2, 1) := by decide +kernel
theorem co_d13 : decode jdk_65_method_132_code 13 = .ok (.invokestatic 339, 3) := by decide +kernel
theorem co_d16 : decode jdk_65_method_132_code 16 = .ok (.areturn, 1) := by decide +kernel
theorem own_pn_co : plainFor (⟨"java/util/Arrays", "copyOfRange", "([BII)[B"⟩ : MethodName) = true := by decide +kernel
theorem own_ef_co (m : MethodId) (o0 : Addr) (i1 : Int32) (i2 : Int32) : entryFrame m #[(.ref o0), (.int i1), (.int i2)] 3 = (mkF m 0 #[.val (.ref o0), .val (.int i1), .val (.int i2)] []) := by first | (simp [entryFrame, mkF, argsToLocals, Value.category]; done) | rfl
set_option maxRecDepth 65536 in
set_option maxHeartbeats 40000000 in
theorem co_go {p : Program} {l : Launch} {e : Env} {s : State} {m : MethodId} {args : Array Value} {below : List Frame} {meth : Method} {c : Code} {T : State} {Z : State} {a0 : Array Value} {h : Heap} (X : Stand p l e (⟨2, 1, 16, 36⟩ : Room) s m args below meth c T [] 0 0) (B : Bdy p s m meth c Z a0 "java/util/Arrays" "copyOfRange" jdk_65_method_132_code 3 (some (.array .byte)) tables_1) (eT : T.heap = h) (o0 : Addr) (i1 : Int32) (i2 : Int32) (cs : List Int32) (w : Nat → Value) (n0 : Nat) (Zs : n0 ≤ h.size) (hsg : own_sg w 0 cs) (hft : own_ft w) (Aw : Ax Z h o0 .byte 16 w) (h1 : i1 = (0 : Int32)) (hn : i2.toInt = (cs.length : Int)) (hcap : cs.length ≤ 15) :
    Go p e below s 1 16 (fun v h2 L => ∃ t, v = some (.ref t) ∧ Fr n0 L ∧ Keep h h2 [] ∧ h.size ≤ t ∧ Ax Z h2 t .byte cs.length (own_v cs)) (T.setTop (mkF m 0 #[.val (.ref o0), .val (.int i1), .val (.int i2)] [])) := by
  have N := Fr.nil n0
  have K := Keep.refl h []
  subst h1
  refine g_iloadN X B co_d0 (pc' := 1) rfl (v := (0 : Int32)) rfl ?_
  refine g_if_ne X B co_d1 (pcT := 10) (pcF := 4) (by decide) rfl rfl (fun c1_0 => ?_) (fun c1_0 => ?_)
  · refine g_iloadN X B co_d4 (pc' := 5) rfl (v := i2) rfl ?_
    refine g_aloadN X B co_d5 (pc' := 6) rfl (v := (.ref o0)) rfl rfl ?_
    refine g_arrlen X B (16 : Int32) eT Aw (by decide) co_d6 (pc' := 7) rfl ?_
    refine g_icmp_eq X B co_d7 (pcT := 17) (pcF := 10) (by decide) rfl rfl (fun c7_1 => ?_) (fun c7_1 => ?_)
    · exact absurd c7_1 (own_lt16 hn hcap)
    · refine g_aloadN X B co_d10 (pc' := 11) rfl (v := (.ref o0)) rfl rfl ?_
      refine g_iloadN X B co_d11 (pc' := 12) rfl (v := (0 : Int32)) rfl ?_
      refine g_iloadN X B co_d12 (pc' := 13) rfl (v := i2) rfl ?_
      refine g_callS X B eT 0 (y := (⟨"java/util/Arrays", "copyOfRangeByte", "([BII)[B"⟩ : MethodName)) (argsL := [(.ref o0), (.int (0 : Int32)), (.int i2)]) (rest := []) (B.w 186 rfl) (B.w 187 rfl) (B.w 31 rfl) (B.w 188 rfl) (by decide) (cb_met l Z a0 B.2.2.1 [] h o0 (0 : Int32) i2 cs w n0 Zs hsg hft Aw rfl hn hcap) (by decide) (by decide) (by decide) (by decide) rfl (lenOf own_pd17 rfl) rfl (Nat.le_of_eq rfl) co_d13 (pc' := 16) rfl (fun T1 v1 L1 X1 Q1 => ?_)
      obtain ⟨t, rfl, Nq1, Kq1, gq1, Aq1⟩ := Q1
      have N1 := Fr.app N Nq1
      have Hq1 : h.size ≤ t := Nat.le_trans K.1 gq1
      have nq1_o0 : o0 ≠ t := fun q => absurd (Aw.lt) (by rw [q]; exact Nat.not_lt.mpr gq1)
      have Gq1 : n0 ≤ t := Nat.le_trans Zs gq1
      have A_o0_1 := Aw.keep Kq1 (by simp)
      have Zs_1 := Nat.le_trans Zs Kq1.1
      have K_1 := K.trans Kq1 (by intro x hx; cases hx)
      show Go p e below s _ _ _ (T1.setTop (mkF m 16 #[.val (.ref o0), .val (.int (0 : Int32)), .val (.int i2)] [(.ref t)]))
      exact g_retA X1 B rfl rfl rfl rfl co_d16 (by decide) (by decide) ⟨t, rfl, N1, K_1, Hq1, Aq1⟩
  · exact absurd (by decide) c1_0
theorem co_met (l : Launch) (Z : State) (a0 : Array Value) (hw : ∀ d ∈ tables_1, d.before a0 Z = true) (ws : List Jvm.Cond) (h : Heap) (o0 : Addr) (i1 : Int32) (i2 : Int32) (cs : List Int32) (w : Nat → Value) (n0 : Nat) (Zs : n0 ≤ h.size) (hsg : own_sg w 0 cs) (hft : own_ft w) (Aw : Ax Z h o0 .byte 16 w) (h1 : i1 = (0 : Int32)) (hn : i2.toInt = (cs.length : Int)) (hcap : cs.length ≤ 15) :
    Met l Z (⟨"java/util/Arrays", "copyOfRange", "([BII)[B"⟩ : MethodName) jdk_65_method_132_code 3 (some (.array .byte)) ws (⟨2, 1, 16, 36⟩ : Room) #[(.ref o0), (.int i1), (.int i2)] h (fun v h2 L => ∃ t, v = some (.ref t) ∧ Fr n0 L ∧ Keep h h2 [] ∧ h.size ≤ t ∧ Ax Z h2 t .byte cs.length (own_v cs)) :=
  met_of own_pn_co hw fun p e s m below meth c T X B eT => Go.top (own_ef_co m o0 i1 i2) (co_go X B eT o0 i1 i2 cs w n0 Zs hsg hft Aw h1 hn hcap)
theorem gv_d0 : decode jdk_68_method_64_code 0 = .ok (.aload_n 0, 1) := by decide +kernel
theorem gv_d1 : decode jdk_68_method_64_code 1 = .ok (.getfield 15, 3) := by decide +kernel
theorem gv_d4 : decode jdk_68_method_64_code 4 = .ok (.areturn, 1) := by decide +kernel
theorem own_pn_gv : plainFor (⟨"java/lang/AbstractStringBuilder", "getValue", "()[B"⟩ : MethodName) = true := plainFor_of_name (by first | (simp [plainName, overriddenIn]; done) | decide +kernel)
theorem own_ef_gv (m : MethodId) (o0 : Addr) : entryFrame m #[(.ref o0)] 1 = (mkF m 0 #[.val (.ref o0)] []) := by first | (simp [entryFrame, mkF, argsToLocals, Value.category]; done) | rfl
set_option maxRecDepth 65536 in
set_option maxHeartbeats 40000000 in
theorem gv_go {p : Program} {l : Launch} {e : Env} {s : State} {m : MethodId} {args : Array Value} {below : List Frame} {meth : Method} {c : Code} {T : State} {Z : State} {a0 : Array Value} {h : Heap} (X : Stand p l e (⟨0, 0, 0, 0⟩ : Room) s m args below meth c T [] 0 0) (B : Bdy p s m meth c Z a0 "java/lang/AbstractStringBuilder" "getValue" jdk_68_method_64_code 1 (some (.array .byte)) tables_1) (eT : T.heap = h) (o0 : Addr) (da : Addr) (Fv : Fld Z h o0 "java/lang/AbstractStringBuilder" "value" "[B" (.ref da)) :
    Go p e below s 0 0 (PQ (some (.ref da)) h []) (T.setTop (mkF m 0 #[.val (.ref o0)] [])) := by
  refine g_aloadN X B gv_d0 (pc' := 1) rfl (v := (.ref o0)) rfl rfl ?_
  refine g_getF X B (B.w 69 rfl) Via.refl eT Fv gv_d1 (pc' := 4) rfl (fun T1 X1 e1 => ?_)
  exact g_retA X1 B rfl rfl rfl rfl gv_d4 (by decide) (by decide) ⟨rfl, e1, rfl⟩
theorem gv_met (l : Launch) (Z : State) (a0 : Array Value) (hw : ∀ d ∈ tables_1, d.before a0 Z = true) (ws : List Jvm.Cond) (h : Heap) (o0 : Addr) (da : Addr) (Fv : Fld Z h o0 "java/lang/AbstractStringBuilder" "value" "[B" (.ref da)) :
    Met l Z (⟨"java/lang/AbstractStringBuilder", "getValue", "()[B"⟩ : MethodName) jdk_68_method_64_code 1 (some (.array .byte)) ws (⟨0, 0, 0, 0⟩ : Room) #[(.ref o0)] h (PQ (some (.ref da)) h []) :=
  met_of own_pn_gv hw fun p e s m below meth c T X B eT => Go.top (own_ef_gv m o0) (gv_go X B eT o0 da Fv)
theorem al_d0 : decode jdk_68_method_6_code 0 = .ok (.aload_n 0, 1) := by decide +kernel
theorem al_d1 : decode jdk_68_method_6_code 1 = .ok (.getfield 79, 3) := by decide +kernel
theorem al_d4 : decode jdk_68_method_6_code 4 = .ok (.ireturn, 1) := by decide +kernel
theorem own_pn_al : plainFor (⟨"java/lang/AbstractStringBuilder", "length", "()I"⟩ : MethodName) = true := plainFor_of_name (by first | (simp [plainName, overriddenIn]; done) | decide +kernel)
theorem own_ef_al (m : MethodId) (o0 : Addr) : entryFrame m #[(.ref o0)] 1 = (mkF m 0 #[.val (.ref o0)] []) := by first | (simp [entryFrame, mkF, argsToLocals, Value.category]; done) | rfl
set_option maxRecDepth 65536 in
set_option maxHeartbeats 40000000 in
theorem al_go {p : Program} {l : Launch} {e : Env} {s : State} {m : MethodId} {args : Array Value} {below : List Frame} {meth : Method} {c : Code} {T : State} {Z : State} {a0 : Array Value} {h : Heap} (X : Stand p l e (⟨0, 0, 0, 0⟩ : Room) s m args below meth c T [] 0 0) (B : Bdy p s m meth c Z a0 "java/lang/AbstractStringBuilder" "length" jdk_68_method_6_code 1 (some .int) tables_1) (eT : T.heap = h) (o0 : Addr) (n : Int32) (Fn : Fld Z h o0 "java/lang/AbstractStringBuilder" "count" "I" (.int n)) :
    Go p e below s 0 0 (PQ (some (.int n)) h []) (T.setTop (mkF m 0 #[.val (.ref o0)] [])) := by
  refine g_aloadN X B al_d0 (pc' := 1) rfl (v := (.ref o0)) rfl rfl ?_
  refine g_getF X B (B.w 84 rfl) Via.refl eT Fn al_d1 (pc' := 4) rfl (fun T1 X1 e1 => ?_)
  exact g_retI X1 B rfl al_d4 (by decide) (by decide) ⟨rfl, e1, rfl⟩
theorem al_met (l : Launch) (Z : State) (a0 : Array Value) (hw : ∀ d ∈ tables_1, d.before a0 Z = true) (ws : List Jvm.Cond) (h : Heap) (o0 : Addr) (n : Int32) (Fn : Fld Z h o0 "java/lang/AbstractStringBuilder" "count" "I" (.int n)) :
    Met l Z (⟨"java/lang/AbstractStringBuilder", "length", "()I"⟩ : MethodName) jdk_68_method_6_code 1 (some .int) ws (⟨0, 0, 0, 0⟩ : Room) #[(.ref o0)] h (PQ (some (.int n)) h []) :=
  met_of own_pn_al hw fun p e s m below meth c T X B eT => Go.top (own_ef_al m o0) (al_go X B eT o0 n Fn)
theorem bl_d0 : decode jdk_67_method_93_code 0 = .ok (.aload_n 0, 1) := by decide +kernel
theorem bl_d1 : decode jdk_67_method_93_code 1 = .ok (.invokespecial 343, 3) := by decide +kernel
theorem bl_d4 : decode jdk_67_method_93_code 4 = .ok (.ireturn, 1) := by decide +kernel
theorem own_pn_bl : plainFor (⟨"java/lang/StringBuilder", "length", "()I"⟩ : MethodName) = true := plainFor_of_name (by first | (simp [plainName, overriddenIn]; done) | decide +kernel)
theorem own_ef_bl (m : MethodId) (o0 : Addr) : entryFrame m #[(.ref o0)] 1 = (mkF m 0 #[.val (.ref o0)] []) := by first | (simp [entryFrame, mkF, argsToLocals, Value.category]; done) | rfl
set_option maxRecDepth 65536 in
set_option maxHeartbeats 40000000 in
theorem bl_go {p : Program} {l : Launch} {e : Env} {s : State} {m : MethodId} {args : Array Value} {below : List Frame} {meth : Method} {c : Code} {T : State} {Z : State} {a0 : Array Value} {h : Heap} (X : Stand p l e (⟨1, 0, 0, 12⟩ : Room) s m args below meth c T [] 0 0) (B : Bdy p s m meth c Z a0 "java/lang/StringBuilder" "length" jdk_67_method_93_code 1 (some .int) tables_1) (eT : T.heap = h) (o0 : Addr) (n : Int32) (hE : Exa Z h o0 "java/lang/StringBuilder") (Fn : Fld Z h o0 "java/lang/AbstractStringBuilder" "count" "I" (.int n)) :
    Go p e below s 0 0 (PQ (some (.int n)) h []) (T.setTop (mkF m 0 #[.val (.ref o0)] [])) := by
  refine g_aloadN X B bl_d0 (pc' := 1) rfl (v := (.ref o0)) rfl rfl ?_
  refine g_super X B eT 0 hE (y := (⟨"java/lang/AbstractStringBuilder", "length", "()I"⟩ : MethodName)) (x := (⟨"java/lang/AbstractStringBuilder", "isLatin1", "()Z"⟩ : MethodName)) (a := o0) (argsL := []) (rest := []) (B.w 180 rfl) (B.w 99 rfl) rfl (B.w 176 rfl) (B.w 81 rfl) (by decide) (B.w 63 rfl) (B.w 181 rfl) (by decide) (al_met l Z a0 B.2.2.1 [] h o0 n Fn) (by decide) (by decide) (by decide) (by decide) rfl (lenOf own_pd12 rfl) rfl (Nat.le_of_eq rfl) bl_d1 (pc' := 4) rfl (fun T1 v1 L1 X1 Q1 => ?_)
  obtain ⟨rfl, hh1, rfl⟩ := Q1
  rw [List.append_nil] at X1
  show Go p e below s _ _ _ (T1.setTop (mkF m 4 #[.val (.ref o0)] [(.int n)]))
  exact g_retI X1 B rfl bl_d4 (by decide) (by decide) ⟨rfl, hh1, rfl⟩
theorem bl_met (l : Launch) (Z : State) (a0 : Array Value) (hw : ∀ d ∈ tables_1, d.before a0 Z = true) (ws : List Jvm.Cond) (h : Heap) (o0 : Addr) (n : Int32) (hE : Exa Z h o0 "java/lang/StringBuilder") (Fn : Fld Z h o0 "java/lang/AbstractStringBuilder" "count" "I" (.int n)) :
    Met l Z (⟨"java/lang/StringBuilder", "length", "()I"⟩ : MethodName) jdk_67_method_93_code 1 (some .int) ws (⟨1, 0, 0, 12⟩ : Room) #[(.ref o0)] h (PQ (some (.int n)) h []) :=
  met_of own_pn_bl hw fun p e s m below meth c T X B eT => Go.top (own_ef_bl m o0) (bl_go X B eT o0 n hE Fn)
theorem s2_d0 : decode jdk_42_method_150_code 0 = .ok (.aload_n 0, 1) := by decide +kernel
theorem s2_d1 : decode jdk_42_method_150_code 1 = .ok (.invokespecial 1, 3) := by decide +kernel
theorem s2_d4 : decode jdk_42_method_150_code 4 = .ok (.aload_n 1, 1) := by decide +kernel
theorem s2_d5 : decode jdk_42_method_150_code 5 = .ok (.invokevirtual 552, 3) := by decide +kernel
theorem s2_d8 : decode jdk_42_method_150_code 8 = .ok (.astore_n 3, 1) := by decide +kernel
theorem s2_d9 : decode jdk_42_method_150_code 9 = .ok (.aload_n 1, 1) := by decide +kernel
theorem s2_d10 : decode jdk_42_method_150_code 10 = .ok (.invokevirtual 549, 3) := by decide +kernel
theorem s2_d13 : decode jdk_42_method_150_code 13 = .ok (.istore 4, 2) := by decide +kernel
theorem s2_d15 : decode jdk_42_method_150_code 15 = .ok (.aload_n 1, 1) := by decide +kernel
theorem s2_d16 : decode jdk_42_method_150_code 16 = .ok (.invokevirtual 1047, 3) := by decide +kernel
theorem s2_d19 : decode jdk_42_method_150_code 19 = .ok (.ifCond .eq 22, 3) := by decide +kernel
theorem s2_d22 : decode jdk_42_method_150_code 22 = .ok (.aload_n 0, 1) := by decide +kernel
theorem s2_d23 : decode jdk_42_method_150_code 23 = .ok (.iconst 0, 1) := by decide +kernel
theorem s2_d24 : decode jdk_42_method_150_code 24 = .ok (.putfield 15, 3) := by decide +kernel
theorem s2_d27 : decode jdk_42_method_150_code 27 = .ok (.aload_n 0, 1) := by decide +kernel
theorem s2_d28 : decode jdk_42_method_150_code 28 = .ok (.aload_n 3, 1) := by decide +kernel
theorem s2_d29 : decode jdk_42_method_150_code 29 = .ok (.iconst 0, 1) := by decide +kernel
theorem s2_d30 : decode jdk_42_method_150_code 30 = .ok (.iload 4, 2) := by decide +kernel
theorem s2_d32 : decode jdk_42_method_150_code 32 = .ok (.invokestatic 54, 3) := by decide +kernel
theorem s2_d35 : decode jdk_42_method_150_code 35 = .ok (.putfield 9, 3) := by decide +kernel
theorem s2_d38 : decode jdk_42_method_150_code 38 = .ok (.goto 59, 3) := by decide +kernel
theorem s2_d97 : decode jdk_42_method_150_code 97 = .ok (.return_, 1) := by decide +kernel
theorem own_pn_s2 : plainFor (⟨"java/lang/String", "<init>", "(Ljava/lang/AbstractStringBuilder;Ljava/lang/Void;)V"⟩ : MethodName) = true := plainFor_of_name (by first | (simp [plainName, overriddenIn]; done) | decide +kernel)
theorem own_ef_s2 (m : MethodId) (o0 : Addr) (o1 : Addr) : entryFrame m #[(.ref o0), (.ref o1), .null] 5 = (mkF m 0 #[.val (.ref o0), .val (.ref o1), .val .null, .unset, .unset] []) := by first | (simp [entryFrame, mkF, argsToLocals, Value.category]; done) | rfl
set_option maxRecDepth 65536 in
set_option maxHeartbeats 40000000 in
theorem s2_go {p : Program} {l : Launch} {e : Env} {s : State} {m : MethodId} {args : Array Value} {below : List Frame} {meth : Method} {c : Code} {T : State} {Z : State} {a0 : Array Value} {h : Heap} (X : Stand p l e (⟨3, 1, 16, 52⟩ : Room) s m args below meth c T [] 0 0) (B : Bdy p s m meth c Z a0 "java/lang/String" "<init>" jdk_42_method_150_code 5 none tables_1) (eT : T.heap = h) (o0 : Addr) (o1 : Addr) (da : Addr) (cs : List Int32) (z : Int32) (n0 : Nat) (Zs : n0 ≤ h.size) (tt1 : Exa Z h o0 "java/lang/String") (f_value : Fld Z h o0 "java/lang/String" "value" "[B" .null) (f_coder : Fld Z h o0 "java/lang/String" "coder" "B" (.int (0 : Int32))) (g0 : n0 ≤ o0) (hB : own_B Z h o1 da cs) (hcap : cs.length ≤ 15) (n10 : o1 ≠ o0) (nd0 : da ≠ o0) (hn0 : Z.heap.size ≤ n0) (hO : Ext Z.heap h) (S0 : Sta Z Z.heap "java/lang/String" "COMPACT_STRINGS" "Z" (.int z)) (hz : ¬ z = 0) :
    Go p e below s 1 16 (fun v h2 L => ∃ t, v = none ∧ Fr n0 L ∧ Keep h h2 [o0] ∧ h.size ≤ t ∧ own_T Z h2 o0 t cs) (T.setTop (mkF m 0 #[.val (.ref o0), .val (.ref o1), .val .null, .unset, .unset] [])) := by
  have N := Fr.nil n0
  have K := Keep.refl h [o0]
  obtain ⟨hE, Fv, Fc, Fn, w, Aw, hsg, hft⟩ := hB
  refine g_aloadN X B s2_d0 (pc' := 1) rfl (v := (.ref o0)) rfl rfl ?_
  refine g_initO X B 0 (B.w 168 rfl) (B.w 10 rfl) (B.w 11 rfl) eT rfl s2_d1 (pc' := 4) rfl (by decide) (Nat.le_of_eq rfl) (by decide) (fun T1 X1 e1 => ?_)
  refine g_aloadN X1 B s2_d4 (pc' := 5) rfl (v := (.ref o1)) rfl rfl ?_
  refine g_virtual X1 B e1 0 hE (y := (⟨"java/lang/AbstractStringBuilder", "getValue", "()[B"⟩ : MethodName)) (argsL := []) (rest := []) (a := o1) (B.w 169 rfl) (B.w 170 rfl) (B.w 172 rfl) (B.w 171 rfl) (B.w 63 rfl) (B.w 173 rfl) (by decide) (gv_met l Z a0 B.2.2.1 [] h o1 da Fv) (by decide) (by decide) (by decide) (by decide) rfl (lenOf own_pd18 rfl) rfl (Nat.le_of_eq rfl) s2_d5 (pc' := 8) rfl (fun T2 v2 L2 X2 Q2 => ?_)
  obtain ⟨rfl, hh2, rfl⟩ := Q2
  rw [List.append_nil] at X2
  show Go p e below s _ _ _ (T2.setTop (mkF m 8 #[.val (.ref o0), .val (.ref o1), .val .null, .unset, .unset] [(.ref da)]))
  refine g_astoreN X2 B s2_d8 (pc' := 9) rfl rfl (Ls' := #[.val (.ref o0), .val (.ref o1), .val .null, .val (.ref da), .unset]) rfl ?_
  refine g_aloadN X2 B s2_d9 (pc' := 10) rfl (v := (.ref o1)) rfl rfl ?_
  refine g_virtualZ X2 B hh2 0 hE (y := (⟨"java/lang/AbstractStringBuilder", "length", "()I"⟩ : MethodName)) (z := (⟨"java/lang/StringBuilder", "length", "()I"⟩ : MethodName)) (x := (⟨"java/lang/AbstractStringBuilder", "isLatin1", "()Z"⟩ : MethodName)) (a := o1) (argsL := []) (rest := []) (B.w 174 rfl) (B.w 175 rfl) (B.w 99 rfl) rfl (B.w 177 rfl) (B.w 178 rfl) (B.w 55 rfl) (B.w 179 rfl) (by decide) (bl_met l Z a0 B.2.2.1 [] h o1 (Int32.ofNat cs.length) hE Fn) (by decide) (by decide) (by decide) (by decide) rfl (lenOf own_pd12 rfl) rfl (Nat.le_of_eq rfl) s2_d10 (pc' := 13) rfl (fun T3 v3 L3 X3 Q3 => ?_)
  obtain ⟨rfl, hh3, rfl⟩ := Q3
  rw [List.append_nil] at X3
  show Go p e below s _ _ _ (T3.setTop (mkF m 13 #[.val (.ref o0), .val (.ref o1), .val .null, .val (.ref da), .unset] [(.int (Int32.ofNat cs.length))]))
  refine g_istore X3 B s2_d13 (pc' := 15) rfl (Ls' := #[.val (.ref o0), .val (.ref o1), .val .null, .val (.ref da), .val (.int (Int32.ofNat cs.length))]) rfl ?_
  refine g_aloadN X3 B s2_d15 (pc' := 16) rfl (v := (.ref o1)) rfl rfl ?_
  refine g_virtual X3 B hh3 0 hE (y := (⟨"java/lang/AbstractStringBuilder", "isLatin1", "()Z"⟩ : MethodName)) (argsL := []) (rest := []) (a := o1) (B.w 182 rfl) (B.w 97 rfl) (B.w 99 rfl) (B.w 98 rfl) (B.w 63 rfl) (B.w 100 rfl) (by decide) (il_met l Z a0 B.2.2.1 [] h o1 z Fc (S0.ext hO) hz) (by decide) (by decide) (by decide) (by decide) rfl (lenOf own_pd6 rfl) rfl (Nat.le_of_eq rfl) s2_d16 (pc' := 19) rfl (fun T4 v4 L4 X4 Q4 => ?_)
  obtain ⟨rfl, hh4, rfl⟩ := Q4
  rw [List.append_nil] at X4
  show Go p e below s _ _ _ (T4.setTop (mkF m 19 #[.val (.ref o0), .val (.ref o1), .val .null, .val (.ref da), .val (.int (Int32.ofNat cs.length))] [(.int (1 : Int32))]))
  refine g_if_eq X4 B s2_d19 (pcT := 41) (pcF := 22) (by decide) rfl rfl (fun c19_0 => ?_) (fun c19_0 => ?_)
  · exact absurd c19_0 (by decide)
  · refine g_aloadN X4 B s2_d22 (pc' := 23) rfl (v := (.ref o0)) rfl rfl ?_
    refine g_iconst X4 B s2_d23 (pc' := 24) rfl (v := (0 : Int32)) (by decide) ?_
    refine g_putF X4 B (B.w 134 rfl) Via.refl hh4 f_coder tt1 (Or.inr ⟨B.w 110 rfl, rfl, rfl⟩) (B.w 108 rfl) (ty := .byte) (by decide) rfl rfl s2_d24 (pc' := 27) rfl (fun T5 h5 X5 e5 W5 => ?_)
    have N5 := Fr.snoc X5 N g0
    have E_o1_5 := hE.wr W5
    have F_o1_value_5 := Fv.other W5 (Or.inl n10)
    have F_o1_coder_5 := Fc.other W5 (Or.inl n10)
    have F_o1_count_5 := Fn.other W5 (Or.inl n10)
    have A_da_5 := Aw.other W5 nd0
    have E_o0_5 := tt1.wr W5
    have F_o0_value_5 := f_value.other W5 (Or.inr (slot_ne (Or.inr (B.w 109 rfl)) (Or.inr (B.w 110 rfl)) (by decide) (t := (.array .byte)) (t' := .byte) (by decide) (by decide)))
    have F_o0_coder_5 := f_coder.same W5
    have Zs_5 := Nat.le_trans Zs (Keep.of_wr W5).1
    have O_5 := own_old_wr hO W5 (Nat.le_trans hn0 g0)
    have K_5 := K.wr W5 (Or.inl (List.mem_of_getElem? (i := 0) rfl))
    refine g_aloadN X5 B s2_d27 (pc' := 28) rfl (v := (.ref o0)) rfl rfl ?_
    refine g_aloadN X5 B s2_d28 (pc' := 29) rfl (v := (.ref da)) rfl rfl ?_
    refine g_iconst X5 B s2_d29 (pc' := 30) rfl (v := (0 : Int32)) (by decide) ?_
    refine g_iload X5 B s2_d30 (pc' := 32) rfl (v := (Int32.ofNat cs.length)) rfl ?_
    refine g_callS X5 B e5 1 (y := (⟨"java/util/Arrays", "copyOfRange", "([BII)[B"⟩ : MethodName)) (argsL := [(.ref da), (.int (0 : Int32)), (.int (Int32.ofNat cs.length))]) (rest := [(.ref o0)]) (B.w 183 rfl) (B.w 184 rfl) (B.w 31 rfl) (B.w 185 rfl) (by decide) (co_met l Z a0 B.2.2.1 [] h5 da (0 : Int32) (Int32.ofNat cs.length) cs w n0 Zs_5 hsg hft A_da_5 rfl (own_on (by omega)) hcap) (by decide) (by decide) (by decide) (by decide) rfl (lenOf own_pd17 rfl) rfl (Nat.le_of_eq rfl) s2_d32 (pc' := 35) rfl (fun T6 v6 L6 X6 Q6 => ?_)
    obtain ⟨t, rfl, Nq6, Kq6, gq6, Aq6⟩ := Q6
    have N6 := Fr.app N5 Nq6
    have Hq6 : h.size ≤ t := Nat.le_trans K_5.1 gq6
    have nq6_o1 : o1 ≠ t := fun q => absurd (E_o1_5.lt) (by rw [q]; exact Nat.not_lt.mpr gq6)
    have nq6_da : da ≠ t := fun q => absurd (A_da_5.lt) (by rw [q]; exact Nat.not_lt.mpr gq6)
    have nq6_o0 : o0 ≠ t := fun q => absurd (E_o0_5.lt) (by rw [q]; exact Nat.not_lt.mpr gq6)
    have Gq6 : n0 ≤ t := Nat.le_trans Zs_5 gq6
    have E_o1_6 := E_o1_5.keep Kq6
    have F_o1_value_6 := F_o1_value_5.keep Kq6 (by simp)
    have F_o1_coder_6 := F_o1_coder_5.keep Kq6 (by simp)
    have F_o1_count_6 := F_o1_count_5.keep Kq6 (by simp)
    have A_da_6 := A_da_5.keep Kq6 (by simp)
    have E_o0_6 := E_o0_5.keep Kq6
    have F_o0_value_6 := F_o0_value_5.keep Kq6 (by simp)
    have F_o0_coder_6 := F_o0_coder_5.keep Kq6 (by simp)
    have Zs_6 := Nat.le_trans Zs_5 Kq6.1
    have O_6 := own_old_keep O_5 Kq6 (by intro x hx; cases hx)
    have K_6 := K_5.trans Kq6 (by intro x hx; cases hx)
    show Go p e below s _ _ _ (T6.setTop (mkF m 35 #[.val (.ref o0), .val (.ref o1), .val .null, .val (.ref da), .val (.int (Int32.ofNat cs.length))] [(.ref t), (.ref o0)]))
    refine g_putF X6 B (B.w 127 rfl) Via.refl rfl F_o0_value_6 E_o0_6 (Or.inr ⟨B.w 109 rfl, rfl, rfl⟩) (B.w 108 rfl) (ty := (.array .byte)) (by decide) rfl rfl s2_d35 (pc' := 38) rfl (fun T7 h7 X7 e7 W7 => ?_)
    have N7 := Fr.snoc X7 N6 g0
    have E_o1_7 := E_o1_6.wr W7
    have F_o1_value_7 := F_o1_value_6.other W7 (Or.inl n10)
    have F_o1_coder_7 := F_o1_coder_6.other W7 (Or.inl n10)
    have F_o1_count_7 := F_o1_count_6.other W7 (Or.inl n10)
    have A_da_7 := A_da_6.other W7 nd0
    have E_o0_7 := E_o0_6.wr W7
    have F_o0_value_7 := F_o0_value_6.same W7
    have F_o0_coder_7 := F_o0_coder_6.other W7 (Or.inr (slot_ne (Or.inr (B.w 110 rfl)) (Or.inr (B.w 109 rfl)) (by decide) (t := .byte) (t' := (.array .byte)) (by decide) (by decide)))
    have A_t_7 := Aq6.other W7 (Ne.symm nq6_o0)
    have Zs_7 := Nat.le_trans Zs_6 (Keep.of_wr W7).1
    have O_7 := own_old_wr O_6 W7 (Nat.le_trans hn0 g0)
    have K_7 := K_6.wr W7 (Or.inl (List.mem_of_getElem? (i := 0) rfl))
    refine g_goto X7 B s2_d38 (pc' := 97) (by decide) rfl ?_
    exact g_ret0 X7 B rfl s2_d97 (by decide) (by decide) (by rw [e7]; exact ⟨t, rfl, N7, K_7, Hq6, E_o0_7, F_o0_value_7, F_o0_coder_7, A_t_7⟩)
theorem s2_met (l : Launch) (Z : State) (a0 : Array Value) (hw : ∀ d ∈ tables_1, d.before a0 Z = true) (ws : List Jvm.Cond) (h : Heap) (o0 : Addr) (o1 : Addr) (da : Addr) (cs : List Int32) (z : Int32) (n0 : Nat) (Zs : n0 ≤ h.size) (tt1 : Exa Z h o0 "java/lang/String") (f_value : Fld Z h o0 "java/lang/String" "value" "[B" .null) (f_coder : Fld Z h o0 "java/lang/String" "coder" "B" (.int (0 : Int32))) (g0 : n0 ≤ o0) (hB : own_B Z h o1 da cs) (hcap : cs.length ≤ 15) (n10 : o1 ≠ o0) (nd0 : da ≠ o0) (hn0 : Z.heap.size ≤ n0) (hO : Ext Z.heap h) (S0 : Sta Z Z.heap "java/lang/String" "COMPACT_STRINGS" "Z" (.int z)) (hz : ¬ z = 0) :
    Met l Z (⟨"java/lang/String", "<init>", "(Ljava/lang/AbstractStringBuilder;Ljava/lang/Void;)V"⟩ : MethodName) jdk_42_method_150_code 5 none ws (⟨3, 1, 16, 52⟩ : Room) #[(.ref o0), (.ref o1), .null] h (fun v h2 L => ∃ t, v = none ∧ Fr n0 L ∧ Keep h h2 [o0] ∧ h.size ≤ t ∧ own_T Z h2 o0 t cs) :=
  met_of own_pn_s2 hw fun p e s m below meth c T X B eT => Go.top (own_ef_s2 m o0 o1) (s2_go X B eT o0 o1 da cs z n0 Zs tt1 f_value f_coder g0 hB hcap n10 nd0 hn0 hO S0 hz)
theorem s1_d0 : decode jdk_42_method_53_code 0 = .ok (.aload_n 0, 1) := by decide +kernel
theorem s1_d1 : decode jdk_42_method_53_code 1 = .ok (.aload_n 1, 1) := by decide +kernel
theorem s1_d2 : decode jdk_42_method_53_code 2 = .ok (.aconst_null, 1) := by decide +kernel
theorem s1_d3 : decode jdk_42_method_53_code 3 = .ok (.invokespecial 489, 3) := by decide +kernel
theorem s1_d6 : decode jdk_42_method_53_code 6 = .ok (.return_, 1) := by decide +kernel
theorem own_pn_s1 : plainFor (⟨"java/lang/String", "<init>", "(Ljava/lang/StringBuilder;)V"⟩ : MethodName) = true := plainFor_of_name (by first | (simp [plainName, overriddenIn]; done) | decide +kernel)
theorem own_ef_s1 (m : MethodId) (o0 : Addr) (o1 : Addr) : entryFrame m #[(.ref o0), (.ref o1)] 2 = (mkF m 0 #[.val (.ref o0), .val (.ref o1)] []) := by first | (simp [entryFrame, mkF, argsToLocals, Value.category]; done) | rfl
set_option maxRecDepth 65536 in
set_option maxHeartbeats 40000000 in
theorem s1_go {p : Program} {l : Launch} {e : Env} {s : State} {m : MethodId} {args : Array Value} {below : List Frame} {meth : Method} {c : Code} {T : State} {Z : State} {a0 : Array Value} {h : Heap} (X : Stand p l e (⟨4, 1, 16, 70⟩ : Room) s m args below meth c T [] 0 0) (B : Bdy p s m meth c Z a0 "java/lang/String" "<init>" jdk_42_method_53_code 2 none tables_1) (eT : T.heap = h) (o0 : Addr) (o1 : Addr) (da : Addr) (cs : List Int32) (z : Int32) (n0 : Nat) (Zs : n0 ≤ h.size) (tt1 : Exa Z h o0 "java/lang/String") (f_value : Fld Z h o0 "java/lang/String" "value" "[B" .null) (f_coder : Fld Z h o0 "java/lang/String" "coder" "B" (.int (0 : Int32))) (g0 : n0 ≤ o0) (hB : own_B Z h o1 da cs) (hcap : cs.length ≤ 15) (n10 : o1 ≠ o0) (nd0 : da ≠ o0) (hn0 : Z.heap.size ≤ n0) (hO : Ext Z.heap h) (S0 : Sta Z Z.heap "java/lang/String" "COMPACT_STRINGS" "Z" (.int z)) (hz : ¬ z = 0) :
    Go p e below s 1 16 (fun v h2 L => ∃ t, v = none ∧ Fr n0 L ∧ Keep h h2 [o0] ∧ h.size ≤ t ∧ own_T Z h2 o0 t cs) (T.setTop (mkF m 0 #[.val (.ref o0), .val (.ref o1)] [])) := by
  have N := Fr.nil n0
  have K := Keep.refl h [o0]
  refine g_aloadN X B s1_d0 (pc' := 1) rfl (v := (.ref o0)) rfl rfl ?_
  refine g_aloadN X B s1_d1 (pc' := 2) rfl (v := (.ref o1)) rfl rfl ?_
  refine g_null X B s1_d2 (pc' := 3) rfl ?_
  refine g_special X B eT 0 (y := (⟨"java/lang/String", "<init>", "(Ljava/lang/AbstractStringBuilder;Ljava/lang/Void;)V"⟩ : MethodName)) (argsL := [(.ref o1), .null]) (rest := []) (a := o0) rfl (B.w 165 rfl) (B.w 166 rfl) (B.w 67 rfl) (B.w 167 rfl) (by decide) (s2_met l Z a0 B.2.2.1 [] h o0 o1 da cs z n0 Zs tt1 f_value f_coder g0 hB hcap n10 nd0 hn0 hO S0 hz) (by decide) (by decide) (by decide) (by decide) rfl (lenOf own_pd19 rfl) rfl (Nat.le_of_eq rfl) s1_d3 (pc' := 6) rfl (fun T1 v1 L1 X1 Q1 => ?_)
  obtain ⟨t, rfl, Nq1, Kq1, gq1, Tq1⟩ := Q1
  have N1 := Fr.app N Nq1
  have Hq1 : h.size ≤ t := Nat.le_trans K.1 gq1
  have E_o0_1 := tt1.keep Kq1
  have Zs_1 := Nat.le_trans Zs Kq1.1
  have O_1 := own_old_keep hO Kq1 (by intro x hx; simp only [List.mem_cons, List.not_mem_nil, or_false] at hx; subst hx; exact Nat.le_trans hn0 g0)
  have K_1 := K.trans Kq1 (by intro x hx; simp only [List.mem_cons, List.not_mem_nil, or_false] at hx; subst hx; exact Or.inl (List.mem_of_getElem? (i := 0) rfl))
  show Go p e below s _ _ _ (T1.setTop (mkF m 6 #[.val (.ref o0), .val (.ref o1)] []))
  exact g_ret0 X1 B rfl s1_d6 (by decide) (by decide) ⟨t, rfl, N1, K_1, Hq1, Tq1⟩
theorem s1_met (l : Launch) (Z : State) (a0 : Array Value) (hw : ∀ d ∈ tables_1, d.before a0 Z = true) (ws : List Jvm.Cond) (h : Heap) (o0 : Addr) (o1 : Addr) (da : Addr) (cs : List Int32) (z : Int32) (n0 : Nat) (Zs : n0 ≤ h.size) (tt1 : Exa Z h o0 "java/lang/String") (f_value : Fld Z h o0 "java/lang/String" "value" "[B" .null) (f_coder : Fld Z h o0 "java/lang/String" "coder" "B" (.int (0 : Int32))) (g0 : n0 ≤ o0) (hB : own_B Z h o1 da cs) (hcap : cs.length ≤ 15) (n10 : o1 ≠ o0) (nd0 : da ≠ o0) (hn0 : Z.heap.size ≤ n0) (hO : Ext Z.heap h) (S0 : Sta Z Z.heap "java/lang/String" "COMPACT_STRINGS" "Z" (.int z)) (hz : ¬ z = 0) :
    Met l Z (⟨"java/lang/String", "<init>", "(Ljava/lang/StringBuilder;)V"⟩ : MethodName) jdk_42_method_53_code 2 none ws (⟨4, 1, 16, 70⟩ : Room) #[(.ref o0), (.ref o1)] h (fun v h2 L => ∃ t, v = none ∧ Fr n0 L ∧ Keep h h2 [o0] ∧ h.size ≤ t ∧ own_T Z h2 o0 t cs) :=
  met_of own_pn_s1 hw fun p e s m below meth c T X B eT => Go.top (own_ef_s1 m o0 o1) (s1_go X B eT o0 o1 da cs z n0 Zs tt1 f_value f_coder g0 hB hcap n10 nd0 hn0 hO S0 hz)
theorem ts_d0 : decode jdk_67_method_42_code 0 = .ok (.new 18, 3) := by decide +kernel
theorem ts_d3 : decode jdk_67_method_42_code 3 = .ok (.dup, 1) := by decide +kernel
theorem ts_d4 : decode jdk_67_method_42_code 4 = .ok (.aload_n 0, 1) := by decide +kernel
theorem ts_d5 : decode jdk_67_method_42_code 5 = .ok (.invokespecial 137, 3) := by decide +kernel
theorem ts_d8 : decode jdk_67_method_42_code 8 = .ok (.areturn, 1) := by decide +kernel
theorem own_pn_ts : plainFor (⟨"java/lang/StringBuilder", "toString", "()Ljava/lang/String;"⟩ : MethodName) = true := plainFor_of_name (by first | (simp [plainName, overriddenIn]; done) | decide +kernel)
theorem own_ef_ts (m : MethodId) (o0 : Addr) : entryFrame m #[(.ref o0)] 1 = (mkF m 0 #[.val (.ref o0)] []) := by first | (simp [entryFrame, mkF, argsToLocals, Value.category]; done) | rfl
set_option maxRecDepth 65536 in
set_option maxHeartbeats 40000000 in
theorem ts_go {p : Program} {l : Launch} {e : Env} {s : State} {m : MethodId} {args : Array Value} {below : List Frame} {meth : Method} {c : Code} {T : State} {Z : State} {a0 : Array Value} {h : Heap} (X : Stand p l e (⟨5, 2, 20, 86⟩ : Room) s m args below meth c T [] 0 0) (B : Bdy p s m meth c Z a0 "java/lang/StringBuilder" "toString" jdk_67_method_42_code 1 (some (.object "java/lang/String")) tables_1) (eT : T.heap = h) (o0 : Addr) (da : Addr) (cs : List Int32) (z : Int32) (n0 : Nat) (Zs : n0 ≤ h.size) (hB : own_B Z h o0 da cs) (hcap : cs.length ≤ 15) (hn0 : Z.heap.size ≤ n0) (hO : Ext Z.heap h) (S0 : Sta Z Z.heap "java/lang/String" "COMPACT_STRINGS" "Z" (.int z)) (hz : ¬ z = 0) :
    Go p e below s 2 20 (fun v h2 L => ∃ o t, v = some (.ref o) ∧ Fr n0 L ∧ Keep h h2 [] ∧ h.size ≤ o ∧ h.size ≤ t ∧ own_T Z h2 o t cs) (T.setTop (mkF m 0 #[.val (.ref o0)] [])) := by
  have N := Fr.nil n0
  have K := Keep.refl h []
  obtain ⟨hE, Fv, Fc, Fn, w, Aw, hsg, hft⟩ := hB
  refine g_new X B (B.w 160 rfl) (B.w 108 rfl) (B.w 67 rfl) eT ts_d0 (pc' := 3) rfl (by decide) (by decide) (fun T1 h1 ob1 q1 X1 e1 E1 A1 D1 => ?_)
  have ne_o0_ob1 : o0 ≠ ob1 := fun q => absurd (hE.lt) (by rw [q, q1]; exact Nat.lt_irrefl _)
  have ne_da_ob1 : da ≠ ob1 := fun q => absurd (Aw.lt) (by rw [q, q1]; exact Nat.lt_irrefl _)
  have G_ob1 : n0 ≤ ob1 := by rw [q1]; exact Zs
  have H_ob1 : h.size ≤ ob1 := by rw [q1]; exact K.1
  have E_o0_1 := hE.ext E1
  have F_o0_value_1 := Fv.ext E1
  have F_o0_coder_1 := Fc.ext E1
  have F_o0_count_1 := Fn.ext E1
  have A_da_1 := Aw.ext E1
  have Zs_1 := Nat.le_trans Zs E1.1
  have O_1 := own_old_ext hO E1
  have K_1 := K.ext E1
  have F_ob1_value : Fld Z h1 ob1 "java/lang/String" "value" "[B" .null := D1 (Or.inr (B.w 109 rfl)) (ty := (.array .byte)) (by decide)
  have F_ob1_coder : Fld Z h1 ob1 "java/lang/String" "coder" "B" (.int (0 : Int32)) := D1 (Or.inr (B.w 110 rfl)) (ty := .byte) (by decide)
  refine g_dup X1 B ts_d3 (pc' := 4) rfl rfl ?_
  refine g_aloadN X1 B ts_d4 (pc' := 5) rfl (v := (.ref o0)) rfl rfl ?_
  refine g_special X1 B e1 1 (y := (⟨"java/lang/String", "<init>", "(Ljava/lang/StringBuilder;)V"⟩ : MethodName)) (argsL := [(.ref o0)]) (rest := [(.ref ob1)]) (a := ob1) rfl (B.w 161 rfl) (B.w 162 rfl) (B.w 67 rfl) (B.w 164 rfl) (by decide) (s1_met l Z a0 B.2.2.1 [] h1 ob1 o0 da cs z n0 Zs_1 A1 F_ob1_value F_ob1_coder G_ob1 (⟨E_o0_1, F_o0_value_1, F_o0_coder_1, F_o0_count_1, w, A_da_1, hsg, hft⟩) hcap ne_o0_ob1 ne_da_ob1 hn0 O_1 S0 hz) (by decide) (by decide) (by decide) (by decide) rfl (lenOf own_pd20 rfl) rfl (Nat.le_of_eq rfl) ts_d5 (pc' := 8) rfl (fun T2 v2 L2 X2 Q2 => ?_)
  obtain ⟨t, rfl, Nq2, Kq2, gq2, Tq2⟩ := Q2
  have N2 := Fr.app N Nq2
  have Hq2 : h.size ≤ t := Nat.le_trans K_1.1 gq2
  have E_ob1_2 := A1.keep Kq2
  have Zs_2 := Nat.le_trans Zs_1 Kq2.1
  have O_2 := own_old_keep O_1 Kq2 (by intro x hx; simp only [List.mem_cons, List.not_mem_nil, or_false] at hx; subst hx; exact Nat.le_trans hn0 G_ob1)
  have K_2 := K_1.trans Kq2 (by intro x hx; simp only [List.mem_cons, List.not_mem_nil, or_false] at hx; subst hx; exact Or.inr H_ob1)
  show Go p e below s _ _ _ (T2.setTop (mkF m 8 #[.val (.ref o0)] [(.ref ob1)]))
  exact g_retA X2 B rfl rfl rfl rfl ts_d8 (by decide) (by decide) ⟨ob1, t, rfl, N2, K_2, H_ob1, Hq2, Tq2⟩
theorem ts_met (l : Launch) (Z : State) (a0 : Array Value) (hw : ∀ d ∈ tables_1, d.before a0 Z = true) (ws : List Jvm.Cond) (h : Heap) (o0 : Addr) (da : Addr) (cs : List Int32) (z : Int32) (n0 : Nat) (Zs : n0 ≤ h.size) (hB : own_B Z h o0 da cs) (hcap : cs.length ≤ 15) (hn0 : Z.heap.size ≤ n0) (hO : Ext Z.heap h) (S0 : Sta Z Z.heap "java/lang/String" "COMPACT_STRINGS" "Z" (.int z)) (hz : ¬ z = 0) :
    Met l Z (⟨"java/lang/StringBuilder", "toString", "()Ljava/lang/String;"⟩ : MethodName) jdk_67_method_42_code 1 (some (.object "java/lang/String")) ws (⟨5, 2, 20, 86⟩ : Room) #[(.ref o0)] h (fun v h2 L => ∃ o t, v = some (.ref o) ∧ Fr n0 L ∧ Keep h h2 [] ∧ h.size ≤ o ∧ h.size ≤ t ∧ own_T Z h2 o t cs) :=
  met_of own_pn_ts hw fun p e s m below meth c T X B eT => Go.top (own_ef_ts m o0) (ts_go X B eT o0 da cs z n0 Zs hB hcap hn0 hO S0 hz)
def own_fm (tn : Nat) : List Int32 := (([] ++ own_ds (tn / 10)) ++ [46]) ++ own_ds (tn % 10)
theorem own_fmr (tn : Nat) : ∀ c ∈ own_fm tn, 0 ≤ c.toInt ∧ c.toInt < 128 := fun c hc => by
  rcases List.mem_append.mp hc with hc | hc
  · rcases List.mem_append.mp hc with hc | hc
    · exact own_dr _ c (by simpa using hc)
    · cases List.mem_singleton.mp hc; exact ⟨by decide, by decide⟩
  · exact own_dr _ c hc
theorem own_fm1 {tn : Nat} (h : tn / 10 < 10) : own_fm tn = [Int32.ofNat (48 + tn / 10), 46, Int32.ofNat (48 + tn % 10)] := by
  unfold own_fm; rw [own_ds0 h, own_ds0 (m := tn % 10) (by omega)]; rfl
theorem own_fm2 {tn : Nat} (h : 10 ≤ tn / 10) (h' : tn / 10 < 100) : own_fm tn = [Int32.ofNat (48 + tn / 10 / 10), Int32.ofNat (48 + tn / 10 % 10), 46, Int32.ofNat (48 + tn % 10)] := by
  unfold own_fm; rw [own_dsS h, own_ds0 (m := tn / 10 / 10) (by omega), own_ds0 (m := tn % 10) (by omega)]; rfl
theorem own_fm3 {tn : Nat} (h : 100 ≤ tn / 10) (h' : tn / 10 < 1000) : own_fm tn = [Int32.ofNat (48 + tn / 10 / 100), Int32.ofNat (48 + tn / 10 / 10 % 10), Int32.ofNat (48 + tn / 10 % 10), 46, Int32.ofNat (48 + tn % 10)] := by
  unfold own_fm; rw [own_dsS (m := tn / 10) (by omega), own_dsS (m := tn / 10 / 10) (by omega), own_ds0 (m := tn / 10 / 10 / 10) (by omega), own_ds0 (m := tn % 10) (by omega), Nat.div_div_eq_div_mul (tn / 10) 10 10]; rfl
theorem own_chr {c : Int32} (h : 0 ≤ c.toInt ∧ c.toInt < 128) : nar .char ((c &&& (255 : Int32)).toUInt32.toUInt16.toUInt32.toInt32) = c := by
  have r : own_in c := ⟨h.1, by omega⟩
  have e := c_mask c 255 8 (by decide) (by decide)
  have e1 : c &&& (255 : Int32) = c := by rw [← Int32.toInt_inj, e]; have := h.1; have := h.2; omega
  rw [e1, own_c8 r, own_nar r]
theorem own_dch {x : Int64} {d : Nat} (h : x.toInt = (d : Int)) (hd : d < 10) : ((48 : Int64) + x).toInt32.toUInt32.toUInt16.toUInt32.toInt32 = Int32.ofNat (48 + d) := by
  have e1 := c_ladd 48 x
  have e2 := c_l2i ((48 : Int64) + x)
  have e3 : (48 : Int64).toInt = 48 := rfl
  have r1 := ((48 : Int64) + x).toInt_lt; have r2 := ((48 : Int64) + x).le_toInt
  have r3 := ((48 : Int64) + x).toInt32.toInt_lt; have r4 := ((48 : Int64) + x).toInt32.le_toInt
  have q : ((48 : Int64) + x).toInt32.toInt = (48 + d : Int) := by omega
  rw [own_c8 ⟨by omega, by omega⟩, ← Int32.toInt_inj, own_cv hd]; exact q
theorem own_ld {x y : Int64} {d n : Nat} (h : x.toInt = (d : Int)) (hy : y.toInt = (n : Int)) (hn : 2 ≤ n) : (x / y).toInt = ((d / n : Nat) : Int) := by
  have e := c_ldiv x y n hy (fun e => by rw [e] at hy; have : (-1 : Int64).toInt = -1 := rfl; omega)
  rw [e.1 (by omega), h]; rfl
theorem own_lm {x y : Int64} {d n : Nat} (h : x.toInt = (d : Int)) (hy : y.toInt = (n : Int)) : (x % y).toInt = ((d % n : Nat) : Int) := by
  have e := c_lrem x y n hy
  rw [lrem_mod] at e
  rw [e.1 (by omega), h]; rfl
theorem own_gr {cs : List Int32} {k : Nat} (h : ∀ c ∈ cs, 0 ≤ c.toInt ∧ c.toInt < 128) : 0 ≤ (cs.getD k 0).toInt ∧ (cs.getD k 0).toInt < 128 := by
  rw [List.getD_eq_getElem?_getD]
  cases hq : cs[k]? with
  | none => exact ⟨by decide, by decide⟩
  | some c => exact h c (List.mem_of_getElem? hq)
theorem si_d0 : decode jdk_42_method_154_code 0 = .ok (.getstatic 38, 3) := by decide +kernel
theorem si_d3 : decode jdk_42_method_154_code 3 = .ok (.ifCond .eq 14, 3) := by decide +kernel
theorem si_d6 : decode jdk_42_method_154_code 6 = .ok (.aload_n 0, 1) := by decide +kernel
theorem si_d7 : decode jdk_42_method_154_code 7 = .ok (.getfield 15, 3) := by decide +kernel
theorem si_d10 : decode jdk_42_method_154_code 10 = .ok (.ifCond .ne 7, 3) := by decide +kernel
theorem si_d13 : decode jdk_42_method_154_code 13 = .ok (.iconst 1, 1) := by decide +kernel
theorem si_d14 : decode jdk_42_method_154_code 14 = .ok (.goto 4, 3) := by decide +kernel
theorem si_d18 : decode jdk_42_method_154_code 18 = .ok (.ireturn, 1) := by decide +kernel
theorem own_pn_si : plainFor (⟨"java/lang/String", "isLatin1", "()Z"⟩ : MethodName) = true := plainFor_of_name (by first | (simp [plainName, overriddenIn]; done) | decide +kernel)
theorem own_ef_si (m : MethodId) (o0 : Addr) : entryFrame m #[(.ref o0)] 1 = (mkF m 0 #[.val (.ref o0)] []) := by first | (simp [entryFrame, mkF, argsToLocals, Value.category]; done) | rfl
set_option maxRecDepth 65536 in
set_option maxHeartbeats 40000000 in
theorem si_go {p : Program} {l : Launch} {e : Env} {s : State} {m : MethodId} {args : Array Value} {below : List Frame} {meth : Method} {c : Code} {T : State} {Z : State} {a0 : Array Value} {h : Heap} (X : Stand p l e (⟨0, 0, 0, 0⟩ : Room) s m args below meth c T [] 0 0) (B : Bdy p s m meth c Z a0 "java/lang/String" "isLatin1" jdk_42_method_154_code 1 (some .boolean) tables_1) (eT : T.heap = h) (o0 : Addr) (z : Int32) (tt3 : Fld Z h o0 "java/lang/String" "coder" "B" (.int (0 : Int32))) (S0 : Sta Z h "java/lang/String" "COMPACT_STRINGS" "Z" (.int z)) (hz : ¬ z = 0) :
    Go p e below s 0 0 (PQ (some (.int (1 : Int32))) h []) (T.setTop (mkF m 0 #[.val (.ref o0)] [])) := by
  refine g_getS X B (B.w 133 rfl) Via.refl eT S0 si_d0 (pc' := 3) rfl (fun T1 X1 e1 => ?_)
  refine g_if_eq X1 B si_d3 (pcT := 17) (pcF := 6) (by decide) rfl rfl (fun c3_0 => ?_) (fun c3_0 => ?_)
  · exact absurd c3_0 hz
  · refine g_aloadN X1 B si_d6 (pc' := 7) rfl (v := (.ref o0)) rfl rfl ?_
    refine g_getF X1 B (B.w 134 rfl) Via.refl e1 tt3 si_d7 (pc' := 10) rfl (fun T2 X2 e2 => ?_)
    refine g_if_ne X2 B si_d10 (pcT := 17) (pcF := 13) (by decide) rfl rfl (fun c10_1 => ?_) (fun c10_1 => ?_)
    · refine g_iconst X2 B si_d13 (pc' := 14) rfl (v := (1 : Int32)) (by decide) ?_
      refine g_goto X2 B si_d14 (pc' := 18) (by decide) rfl ?_
      exact g_retN X2 B (t := .boolean) rfl (by simp) si_d18 (by decide) (by decide) ⟨congrArg (fun z => some (Value.int z)) (by decide : nar .boolean (1 : Int32) = 1), e2, rfl⟩
    · exact absurd (by decide) c10_1
theorem si_met (l : Launch) (Z : State) (a0 : Array Value) (hw : ∀ d ∈ tables_1, d.before a0 Z = true) (ws : List Jvm.Cond) (h : Heap) (o0 : Addr) (z : Int32) (tt3 : Fld Z h o0 "java/lang/String" "coder" "B" (.int (0 : Int32))) (S0 : Sta Z h "java/lang/String" "COMPACT_STRINGS" "Z" (.int z)) (hz : ¬ z = 0) :
    Met l Z (⟨"java/lang/String", "isLatin1", "()Z"⟩ : MethodName) jdk_42_method_154_code 1 (some .boolean) ws (⟨0, 0, 0, 0⟩ : Room) #[(.ref o0)] h (PQ (some (.int (1 : Int32))) h []) :=
  met_of own_pn_si hw fun p e s m below meth c T X B eT => Go.top (own_ef_si m o0) (si_go X B eT o0 z tt3 S0 hz)
theorem pkN_d0 : decode jdk_41_method_11_code 0 = .ok (.iload_n 0, 1) := by decide +kernel
theorem pkN_d1 : decode jdk_41_method_11_code 1 = .ok (.ifCond .lt 8, 3) := by decide +kernel
theorem pkN_d4 : decode jdk_41_method_11_code 4 = .ok (.iload_n 0, 1) := by decide +kernel
theorem pkN_d5 : decode jdk_41_method_11_code 5 = .ok (.iload_n 1, 1) := by decide +kernel
theorem pkN_d6 : decode jdk_41_method_11_code 6 = .ok (.if_icmp .lt 10, 3) := by decide +kernel
theorem pkN_d16 : decode jdk_41_method_11_code 16 = .ok (.iload_n 0, 1) := by decide +kernel
theorem pkN_d17 : decode jdk_41_method_11_code 17 = .ok (.ireturn, 1) := by decide +kernel
theorem own_pn_pkN : plainFor (⟨"jdk/internal/util/Preconditions", "checkIndex", "(IILjava/util/function/BiFunction;)I"⟩ : MethodName) = true := plainFor_of_name (by first | (simp [plainName, overriddenIn]; done) | decide +kernel)
theorem own_ef_pkN (m : MethodId) (i0 : Int32) (i1 : Int32) : entryFrame m #[(.int i0), (.int i1), .null] 3 = (mkF m 0 #[.val (.int i0), .val (.int i1), .val .null] []) := by first | (simp [entryFrame, mkF, argsToLocals, Value.category]; done) | rfl
set_option maxRecDepth 65536 in
set_option maxHeartbeats 40000000 in
theorem pkN_go {p : Program} {l : Launch} {e : Env} {s : State} {m : MethodId} {args : Array Value} {below : List Frame} {meth : Method} {c : Code} {T : State} {Z : State} {a0 : Array Value} {h : Heap} (X : Stand p l e (⟨0, 0, 0, 0⟩ : Room) s m args below meth c T [] 0 0) (B : Bdy p s m meth c Z a0 "jdk/internal/util/Preconditions" "checkIndex" jdk_41_method_11_code 3 (some .int) tables_1) (eT : T.heap = h) (i0 : Int32) (i1 : Int32) (k : Nat) (n : Nat) (hk : i0.toInt = (k : Int)) (hn : i1.toInt = (n : Int)) (hkn : k < n) :
    Go p e below s 0 0 (PQ (some (.int i0)) h []) (T.setTop (mkF m 0 #[.val (.int i0), .val (.int i1), .val .null] [])) := by
  refine g_iloadN X B pkN_d0 (pc' := 1) rfl (v := i0) rfl ?_
  refine g_if_lt X B pkN_d1 (pcT := 9) (pcF := 4) (by decide) rfl rfl (fun c1_0 => ?_) (fun c1_0 => ?_)
  · exact absurd c1_0 (own_ge0 hk)
  · refine g_iloadN X B pkN_d4 (pc' := 5) rfl (v := i0) rfl ?_
    refine g_iloadN X B pkN_d5 (pc' := 6) rfl (v := i1) rfl ?_
    refine g_icmp_lt X B pkN_d6 (pcT := 16) (pcF := 9) (by decide) rfl rfl (fun c6_1 => ?_) (fun c6_1 => ?_)
    · refine g_iloadN X B pkN_d16 (pc' := 17) rfl (v := i0) rfl ?_
      exact g_retI X B rfl pkN_d17 (by decide) (by decide) ⟨rfl, eT, rfl⟩
    · exact absurd (by rw [Int32.lt_iff_toInt_lt]; omega) c6_1
theorem pkN_met (l : Launch) (Z : State) (a0 : Array Value) (hw : ∀ d ∈ tables_1, d.before a0 Z = true) (ws : List Jvm.Cond) (h : Heap) (i0 : Int32) (i1 : Int32) (k : Nat) (n : Nat) (hk : i0.toInt = (k : Int)) (hn : i1.toInt = (n : Int)) (hkn : k < n) :
    Met l Z (⟨"jdk/internal/util/Preconditions", "checkIndex", "(IILjava/util/function/BiFunction;)I"⟩ : MethodName) jdk_41_method_11_code 3 (some .int) ws (⟨0, 0, 0, 0⟩ : Room) #[(.int i0), (.int i1), .null] h (PQ (some (.int i0)) h []) :=
  met_of own_pn_pkN hw fun p e s m below meth c T X B eT => Go.top (own_ef_pkN m i0 i1) (pkN_go X B eT i0 i1 k n hk hn hkn)
theorem skN_d0 : decode jdk_42_method_155_code 0 = .ok (.iload_n 0, 1) := by decide +kernel
theorem skN_d1 : decode jdk_42_method_155_code 1 = .ok (.iload_n 1, 1) := by decide +kernel
theorem skN_d2 : decode jdk_42_method_155_code 2 = .ok (.getstatic 1053, 3) := by decide +kernel
theorem skN_d5 : decode jdk_42_method_155_code 5 = .ok (.invokestatic 1059, 3) := by decide +kernel
theorem skN_d8 : decode jdk_42_method_155_code 8 = .ok (.pop, 1) := by decide +kernel
theorem skN_d9 : decode jdk_42_method_155_code 9 = .ok (.return_, 1) := by decide +kernel
theorem own_pn_skN : plainFor (⟨"java/lang/String", "checkIndex", "(II)V"⟩ : MethodName) = true := plainFor_of_name (by first | (simp [plainName, overriddenIn]; done) | decide +kernel)
theorem own_ef_skN (m : MethodId) (i0 : Int32) (i1 : Int32) : entryFrame m #[(.int i0), (.int i1)] 2 = (mkF m 0 #[.val (.int i0), .val (.int i1)] []) := by first | (simp [entryFrame, mkF, argsToLocals, Value.category]; done) | rfl
set_option maxRecDepth 65536 in
set_option maxHeartbeats 40000000 in
theorem skN_go {p : Program} {l : Launch} {e : Env} {s : State} {m : MethodId} {args : Array Value} {below : List Frame} {meth : Method} {c : Code} {T : State} {Z : State} {a0 : Array Value} {h : Heap} (X : Stand p l e (⟨1, 0, 0, 14⟩ : Room) s m args below meth c T [] 0 0) (B : Bdy p s m meth c Z a0 "java/lang/String" "checkIndex" jdk_42_method_155_code 2 none tables_1) (eT : T.heap = h) (i0 : Int32) (i1 : Int32) (k : Nat) (n : Nat) (vf : Value) (hk : i0.toInt = (k : Int)) (hn : i1.toInt = (n : Int)) (hkn : k < n) (S3 : Sta Z h "jdk/internal/util/Preconditions" "SIOOBE_FORMATTER" "Ljava/util/function/BiFunction;" vf) (hv : vf = .null) :
    Go p e below s 0 0 (PQ none h []) (T.setTop (mkF m 0 #[.val (.int i0), .val (.int i1)] [])) := by
  subst hv
  refine g_iloadN X B skN_d0 (pc' := 1) rfl (v := i0) rfl ?_
  refine g_iloadN X B skN_d1 (pc' := 2) rfl (v := i1) rfl ?_
  refine g_getS X B (B.w 225 rfl) Via.refl eT S3 skN_d2 (pc' := 5) rfl (fun T1 X1 e1 => ?_)
  refine g_callS X1 B e1 0 (y := (⟨"jdk/internal/util/Preconditions", "checkIndex", "(IILjava/util/function/BiFunction;)I"⟩ : MethodName)) (argsL := [(.int i0), (.int i1), .null]) (rest := []) (B.w 227 rfl) (B.w 228 rfl) (B.w 226 rfl) (B.w 229 rfl) (by decide) (pkN_met l Z a0 B.2.2.1 [] h i0 i1 k n hk hn hkn) (by decide) (by decide) (by decide) (by decide) rfl (lenOf own_pd21 rfl) rfl (Nat.le_of_eq rfl) skN_d5 (pc' := 8) rfl (fun T2 v2 L2 X2 Q2 => ?_)
  obtain ⟨rfl, hh2, rfl⟩ := Q2
  rw [List.append_nil] at X2
  show Go p e below s _ _ _ (T2.setTop (mkF m 8 #[.val (.int i0), .val (.int i1)] [(.int i0)]))
  refine g_pop X2 B skN_d8 (pc' := 9) rfl rfl ?_
  exact g_ret0 X2 B rfl skN_d9 (by decide) (by decide) ⟨rfl, hh2, rfl⟩
theorem skN_met (l : Launch) (Z : State) (a0 : Array Value) (hw : ∀ d ∈ tables_1, d.before a0 Z = true) (ws : List Jvm.Cond) (h : Heap) (i0 : Int32) (i1 : Int32) (k : Nat) (n : Nat) (vf : Value) (hk : i0.toInt = (k : Int)) (hn : i1.toInt = (n : Int)) (hkn : k < n) (S3 : Sta Z h "jdk/internal/util/Preconditions" "SIOOBE_FORMATTER" "Ljava/util/function/BiFunction;" vf) (hv : vf = .null) :
    Met l Z (⟨"java/lang/String", "checkIndex", "(II)V"⟩ : MethodName) jdk_42_method_155_code 2 none ws (⟨1, 0, 0, 14⟩ : Room) #[(.int i0), (.int i1)] h (PQ none h []) :=
  met_of own_pn_skN hw fun p e s m below meth c T X B eT => Go.top (own_ef_skN m i0 i1) (skN_go X B eT i0 i1 k n vf hk hn hkn S3 hv)
theorem pkR_d0 : decode jdk_41_method_11_code 0 = .ok (.iload_n 0, 1) := by decide +kernel
theorem pkR_d1 : decode jdk_41_method_11_code 1 = .ok (.ifCond .lt 8, 3) := by decide +kernel
theorem pkR_d4 : decode jdk_41_method_11_code 4 = .ok (.iload_n 0, 1) := by decide +kernel
theorem pkR_d5 : decode jdk_41_method_11_code 5 = .ok (.iload_n 1, 1) := by decide +kernel
theorem pkR_d6 : decode jdk_41_method_11_code 6 = .ok (.if_icmp .lt 10, 3) := by decide +kernel
theorem pkR_d16 : decode jdk_41_method_11_code 16 = .ok (.iload_n 0, 1) := by decide +kernel
theorem pkR_d17 : decode jdk_41_method_11_code 17 = .ok (.ireturn, 1) := by decide +kernel
theorem own_pn_pkR : plainFor (⟨"jdk/internal/util/Preconditions", "checkIndex", "(IILjava/util/function/BiFunction;)I"⟩ : MethodName) = true := plainFor_of_name (by first | (simp [plainName, overriddenIn]; done) | decide +kernel)
theorem own_ef_pkR (m : MethodId) (i0 : Int32) (i1 : Int32) (o2 : Addr) : entryFrame m #[(.int i0), (.int i1), (.ref o2)] 3 = (mkF m 0 #[.val (.int i0), .val (.int i1), .val (.ref o2)] []) := by first | (simp [entryFrame, mkF, argsToLocals, Value.category]; done) | rfl
set_option maxRecDepth 65536 in
set_option maxHeartbeats 40000000 in
theorem pkR_go {p : Program} {l : Launch} {e : Env} {s : State} {m : MethodId} {args : Array Value} {below : List Frame} {meth : Method} {c : Code} {T : State} {Z : State} {a0 : Array Value} {h : Heap} (X : Stand p l e (⟨0, 0, 0, 0⟩ : Room) s m args below meth c T [] 0 0) (B : Bdy p s m meth c Z a0 "jdk/internal/util/Preconditions" "checkIndex" jdk_41_method_11_code 3 (some .int) tables_1) (eT : T.heap = h) (i0 : Int32) (i1 : Int32) (o2 : Addr) (k : Nat) (n : Nat) (hk : i0.toInt = (k : Int)) (hn : i1.toInt = (n : Int)) (hkn : k < n) :
    Go p e below s 0 0 (PQ (some (.int i0)) h []) (T.setTop (mkF m 0 #[.val (.int i0), .val (.int i1), .val (.ref o2)] [])) := by
  refine g_iloadN X B pkR_d0 (pc' := 1) rfl (v := i0) rfl ?_
  refine g_if_lt X B pkR_d1 (pcT := 9) (pcF := 4) (by decide) rfl rfl (fun c1_0 => ?_) (fun c1_0 => ?_)
  · exact absurd c1_0 (own_ge0 hk)
  · refine g_iloadN X B pkR_d4 (pc' := 5) rfl (v := i0) rfl ?_
    refine g_iloadN X B pkR_d5 (pc' := 6) rfl (v := i1) rfl ?_
    refine g_icmp_lt X B pkR_d6 (pcT := 16) (pcF := 9) (by decide) rfl rfl (fun c6_1 => ?_) (fun c6_1 => ?_)
    · refine g_iloadN X B pkR_d16 (pc' := 17) rfl (v := i0) rfl ?_
      exact g_retI X B rfl pkR_d17 (by decide) (by decide) ⟨rfl, eT, rfl⟩
    · exact absurd (by rw [Int32.lt_iff_toInt_lt]; omega) c6_1
theorem pkR_met (l : Launch) (Z : State) (a0 : Array Value) (hw : ∀ d ∈ tables_1, d.before a0 Z = true) (ws : List Jvm.Cond) (h : Heap) (i0 : Int32) (i1 : Int32) (o2 : Addr) (k : Nat) (n : Nat) (hk : i0.toInt = (k : Int)) (hn : i1.toInt = (n : Int)) (hkn : k < n) :
    Met l Z (⟨"jdk/internal/util/Preconditions", "checkIndex", "(IILjava/util/function/BiFunction;)I"⟩ : MethodName) jdk_41_method_11_code 3 (some .int) ws (⟨0, 0, 0, 0⟩ : Room) #[(.int i0), (.int i1), (.ref o2)] h (PQ (some (.int i0)) h []) :=
  met_of own_pn_pkR hw fun p e s m below meth c T X B eT => Go.top (own_ef_pkR m i0 i1 o2) (pkR_go X B eT i0 i1 o2 k n hk hn hkn)
theorem skR_d0 : decode jdk_42_method_155_code 0 = .ok (.iload_n 0, 1) := by decide +kernel
theorem skR_d1 : decode jdk_42_method_155_code 1 = .ok (.iload_n 1, 1) := by decide +kernel
theorem skR_d2 : decode jdk_42_method_155_code 2 = .ok (.getstatic 1053, 3) := by decide +kernel
theorem skR_d5 : decode jdk_42_method_155_code 5 = .ok (.invokestatic 1059, 3) := by decide +kernel
theorem skR_d8 : decode jdk_42_method_155_code 8 = .ok (.pop, 1) := by decide +kernel
theorem skR_d9 : decode jdk_42_method_155_code 9 = .ok (.return_, 1) := by decide +kernel
theorem own_pn_skR : plainFor (⟨"java/lang/String", "checkIndex", "(II)V"⟩ : MethodName) = true := plainFor_of_name (by first | (simp [plainName, overriddenIn]; done) | decide +kernel)
theorem own_ef_skR (m : MethodId) (i0 : Int32) (i1 : Int32) : entryFrame m #[(.int i0), (.int i1)] 2 = (mkF m 0 #[.val (.int i0), .val (.int i1)] []) := by first | (simp [entryFrame, mkF, argsToLocals, Value.category]; done) | rfl
set_option maxRecDepth 65536 in
set_option maxHeartbeats 40000000 in
theorem skR_go {p : Program} {l : Launch} {e : Env} {s : State} {m : MethodId} {args : Array Value} {below : List Frame} {meth : Method} {c : Code} {T : State} {Z : State} {a0 : Array Value} {h : Heap} (X : Stand p l e (⟨1, 0, 0, 14⟩ : Room) s m args below meth c T [] 0 0) (B : Bdy p s m meth c Z a0 "java/lang/String" "checkIndex" jdk_42_method_155_code 2 none tables_1) (eT : T.heap = h) (i0 : Int32) (i1 : Int32) (k : Nat) (n : Nat) (vf : Value) (ff : Addr) (hk : i0.toInt = (k : Int)) (hn : i1.toInt = (n : Int)) (hkn : k < n) (S3 : Sta Z h "jdk/internal/util/Preconditions" "SIOOBE_FORMATTER" "Ljava/util/function/BiFunction;" vf) (hv : vf = .ref ff) :
    Go p e below s 0 0 (PQ none h []) (T.setTop (mkF m 0 #[.val (.int i0), .val (.int i1)] [])) := by
  subst hv
  refine g_iloadN X B skR_d0 (pc' := 1) rfl (v := i0) rfl ?_
  refine g_iloadN X B skR_d1 (pc' := 2) rfl (v := i1) rfl ?_
  refine g_getS X B (B.w 225 rfl) Via.refl eT S3 skR_d2 (pc' := 5) rfl (fun T1 X1 e1 => ?_)
  refine g_callS X1 B e1 0 (y := (⟨"jdk/internal/util/Preconditions", "checkIndex", "(IILjava/util/function/BiFunction;)I"⟩ : MethodName)) (argsL := [(.int i0), (.int i1), (.ref ff)]) (rest := []) (B.w 227 rfl) (B.w 228 rfl) (B.w 226 rfl) (B.w 229 rfl) (by decide) (pkR_met l Z a0 B.2.2.1 [] h i0 i1 ff k n hk hn hkn) (by decide) (by decide) (by decide) (by decide) rfl (lenOf own_pd21 rfl) rfl (Nat.le_of_eq rfl) skR_d5 (pc' := 8) rfl (fun T2 v2 L2 X2 Q2 => ?_)
  obtain ⟨rfl, hh2, rfl⟩ := Q2
  rw [List.append_nil] at X2
  show Go p e below s _ _ _ (T2.setTop (mkF m 8 #[.val (.int i0), .val (.int i1)] [(.int i0)]))
  refine g_pop X2 B skR_d8 (pc' := 9) rfl rfl ?_
  exact g_ret0 X2 B rfl skR_d9 (by decide) (by decide) ⟨rfl, hh2, rfl⟩
theorem skR_met (l : Launch) (Z : State) (a0 : Array Value) (hw : ∀ d ∈ tables_1, d.before a0 Z = true) (ws : List Jvm.Cond) (h : Heap) (i0 : Int32) (i1 : Int32) (k : Nat) (n : Nat) (vf : Value) (ff : Addr) (hk : i0.toInt = (k : Int)) (hn : i1.toInt = (n : Int)) (hkn : k < n) (S3 : Sta Z h "jdk/internal/util/Preconditions" "SIOOBE_FORMATTER" "Ljava/util/function/BiFunction;" vf) (hv : vf = .ref ff) :
    Met l Z (⟨"java/lang/String", "checkIndex", "(II)V"⟩ : MethodName) jdk_42_method_155_code 2 none ws (⟨1, 0, 0, 14⟩ : Room) #[(.int i0), (.int i1)] h (PQ none h []) :=
  met_of own_pn_skR hw fun p e s m below meth c T X B eT => Go.top (own_ef_skR m i0 i1) (skR_go X B eT i0 i1 k n vf ff hk hn hkn S3 hv)
theorem sk_any (l : Launch) (Z : State) (a0 : Array Value) (hw : ∀ d ∈ tables_1, d.before a0 Z = true) (ws : List Jvm.Cond) (h : Heap) (i0 i1 : Int32) (k n : Nat) (vf : Value) (hk : i0.toInt = (k : Int)) (hn : i1.toInt = (n : Int)) (hkn : k < n) (S3 : Sta Z h "jdk/internal/util/Preconditions" "SIOOBE_FORMATTER" "Ljava/util/function/BiFunction;" vf) (hv : vf.isRef = true) :
    Met l Z (⟨"java/lang/String", "checkIndex", "(II)V"⟩ : MethodName) jdk_42_method_155_code 2 none ws (⟨1, 0, 0, 14⟩ : Room) #[.int i0, .int i1] h (PQ none h []) := by
  cases vf with
  | null => exact skN_met l Z a0 hw ws h i0 i1 k n _ hk hn hkn S3 rfl
  | ref f => exact skR_met l Z a0 hw ws h i0 i1 k n _ f hk hn hkn S3 rfl
  | _ => exact absurd hv (by simp [Value.isRef])
theorem lc_d0 : decode jdk_43_method_2_code 0 = .ok (.iload_n 1, 1) := by decide +kernel
theorem lc_d1 : decode jdk_43_method_2_code 1 = .ok (.aload_n 0, 1) := by decide +kernel
theorem lc_d2 : decode jdk_43_method_2_code 2 = .ok (.arraylength, 1) := by decide +kernel
theorem lc_d3 : decode jdk_43_method_2_code 3 = .ok (.invokestatic 9, 3) := by decide +kernel
theorem lc_d6 : decode jdk_43_method_2_code 6 = .ok (.aload_n 0, 1) := by decide +kernel
theorem lc_d7 : decode jdk_43_method_2_code 7 = .ok (.iload_n 1, 1) := by decide +kernel
theorem lc_d8 : decode jdk_43_method_2_code 8 = .ok (.baload, 1) := by decide +kernel
theorem lc_d9 : decode jdk_43_method_2_code 9 = .ok (.sipush 255, 3) := by decide +kernel
theorem lc_d12 : decode jdk_43_method_2_code 12 = .ok (.iand, 1) := by decide +kernel
theorem lc_d13 : decode jdk_43_method_2_code 13 = .ok (.i2c, 1) := by decide +kernel
theorem lc_d14 : decode jdk_43_method_2_code 14 = .ok (.ireturn, 1) := by decide +kernel
theorem own_pn_lc : plainFor (⟨"java/lang/StringLatin1", "charAt", "([BI)C"⟩ : MethodName) = true := plainFor_of_name (by first | (simp [plainName, overriddenIn]; done) | decide +kernel)
theorem own_ef_lc (m : MethodId) (o0 : Addr) (i1 : Int32) : entryFrame m #[(.ref o0), (.int i1)] 2 = (mkF m 0 #[.val (.ref o0), .val (.int i1)] []) := by first | (simp [entryFrame, mkF, argsToLocals, Value.category]; done) | rfl
set_option maxRecDepth 65536 in
set_option maxHeartbeats 40000000 in
theorem lc_go {p : Program} {l : Launch} {e : Env} {s : State} {m : MethodId} {args : Array Value} {below : List Frame} {meth : Method} {c : Code} {T : State} {Z : State} {a0 : Array Value} {h : Heap} (X : Stand p l e (⟨2, 0, 0, 28⟩ : Room) s m args below meth c T [] 0 0) (B : Bdy p s m meth c Z a0 "java/lang/StringLatin1" "charAt" jdk_43_method_2_code 2 (some .char) tables_1) (eT : T.heap = h) (o0 : Addr) (i1 : Int32) (cs : List Int32) (k : Nat) (vf : Value) (tt4 : Ax Z h o0 .byte cs.length (own_v cs)) (hk : i1.toInt = (k : Int)) (hkn : k < cs.length) (hrg : ∀ c ∈ cs, 0 ≤ c.toInt ∧ c.toInt < 128) (S3 : Sta Z h "jdk/internal/util/Preconditions" "SIOOBE_FORMATTER" "Ljava/util/function/BiFunction;" vf) (hv : vf.isRef = true) :
    Go p e below s 0 0 (PQ (some (.int (cs.getD k 0))) h []) (T.setTop (mkF m 0 #[.val (.ref o0), .val (.int i1)] [])) := by
  refine g_iloadN X B lc_d0 (pc' := 1) rfl (v := i1) rfl ?_
  refine g_aloadN X B lc_d1 (pc' := 2) rfl (v := (.ref o0)) rfl rfl ?_
  refine g_arrlen X B (Int32.ofNat cs.length) eT tt4 (Int32.toInt_ofNat_small tt4.1) lc_d2 (pc' := 3) rfl ?_
  refine g_callS X B eT 0 (y := (⟨"java/lang/String", "checkIndex", "(II)V"⟩ : MethodName)) (argsL := [(.int i1), (.int (Int32.ofNat cs.length))]) (rest := []) (B.w 222 rfl) (B.w 223 rfl) (B.w 67 rfl) (B.w 224 rfl) (by decide) (sk_any l Z a0 B.2.2.1 [] h i1 (Int32.ofNat cs.length) k cs.length vf hk (Int32.toInt_ofNat_small tt4.1) hkn S3 hv) (by decide) (by decide) (by decide) (by decide) rfl (lenOf own_pd15 rfl) rfl (Nat.le_of_eq rfl) lc_d3 (pc' := 6) rfl (fun T1 v1 L1 X1 Q1 => ?_)
  obtain ⟨rfl, hh1, rfl⟩ := Q1
  rw [List.append_nil] at X1
  show Go p e below s _ _ _ (T1.setTop (mkF m 6 #[.val (.ref o0), .val (.int i1)] []))
  refine g_aloadN X1 B lc_d6 (pc' := 7) rfl (v := (.ref o0)) rfl rfl ?_
  refine g_iloadN X1 B lc_d7 (pc' := 8) rfl (v := i1) rfl ?_
  refine g_baloadB X1 B k hh1 tt4 hk hkn (v := (.int (cs.getD k 0))) rfl lc_d8 (pc' := 9) rfl ?_
  refine g_sipush X1 B lc_d9 (pc' := 12) rfl (v := (255 : Int32)) (by decide) ?_
  refine g_iand X1 B lc_d12 (pc' := 13) rfl ?_
  refine g_i2c X1 B lc_d13 (pc' := 14) rfl ?_
  exact g_retN X1 B (t := .char) rfl (by simp) lc_d14 (by decide) (by decide) ⟨congrArg (fun z => some (Value.int z)) (own_chr (own_gr hrg)), hh1, rfl⟩
theorem lc_met (l : Launch) (Z : State) (a0 : Array Value) (hw : ∀ d ∈ tables_1, d.before a0 Z = true) (ws : List Jvm.Cond) (h : Heap) (o0 : Addr) (i1 : Int32) (cs : List Int32) (k : Nat) (vf : Value) (tt4 : Ax Z h o0 .byte cs.length (own_v cs)) (hk : i1.toInt = (k : Int)) (hkn : k < cs.length) (hrg : ∀ c ∈ cs, 0 ≤ c.toInt ∧ c.toInt < 128) (S3 : Sta Z h "jdk/internal/util/Preconditions" "SIOOBE_FORMATTER" "Ljava/util/function/BiFunction;" vf) (hv : vf.isRef = true) :
    Met l Z (⟨"java/lang/StringLatin1", "charAt", "([BI)C"⟩ : MethodName) jdk_43_method_2_code 2 (some .char) ws (⟨2, 0, 0, 28⟩ : Room) #[(.ref o0), (.int i1)] h (PQ (some (.int (cs.getD k 0))) h []) :=
  met_of own_pn_lc hw fun p e s m below meth c T X B eT => Go.top (own_ef_lc m o0 i1) (lc_go X B eT o0 i1 cs k vf tt4 hk hkn hrg S3 hv)
theorem sx_d0 : decode jdk_42_method_56_code 0 = .ok (.aload_n 0, 1) := by decide +kernel
theorem sx_d1 : decode jdk_42_method_56_code 1 = .ok (.invokevirtual 492, 3) := by decide +kernel
theorem sx_d4 : decode jdk_42_method_56_code 4 = .ok (.ifCond .eq 12, 3) := by decide +kernel
theorem sx_d7 : decode jdk_42_method_56_code 7 = .ok (.aload_n 0, 1) := by decide +kernel
theorem sx_d8 : decode jdk_42_method_56_code 8 = .ok (.getfield 9, 3) := by decide +kernel
theorem sx_d11 : decode jdk_42_method_56_code 11 = .ok (.iload_n 1, 1) := by decide +kernel
theorem sx_d12 : decode jdk_42_method_56_code 12 = .ok (.invokestatic 495, 3) := by decide +kernel
theorem sx_d15 : decode jdk_42_method_56_code 15 = .ok (.ireturn, 1) := by decide +kernel
theorem own_pn_sx : plainFor (⟨"java/lang/String", "charAt", "(I)C"⟩ : MethodName) = true := plainFor_of_name (by first | (simp [plainName, overriddenIn]; done) | decide +kernel)
theorem own_ef_sx (m : MethodId) (o0 : Addr) (i1 : Int32) : entryFrame m #[(.ref o0), (.int i1)] 2 = (mkF m 0 #[.val (.ref o0), .val (.int i1)] []) := by first | (simp [entryFrame, mkF, argsToLocals, Value.category]; done) | rfl
set_option maxRecDepth 65536 in
set_option maxHeartbeats 40000000 in
theorem sx_go {p : Program} {l : Launch} {e : Env} {s : State} {m : MethodId} {args : Array Value} {below : List Frame} {meth : Method} {c : Code} {T : State} {Z : State} {a0 : Array Value} {h : Heap} (X : Stand p l e (⟨3, 0, 0, 44⟩ : Room) s m args below meth c T [] 0 0) (B : Bdy p s m meth c Z a0 "java/lang/String" "charAt" jdk_42_method_56_code 2 (some .char) tables_1) (eT : T.heap = h) (o0 : Addr) (i1 : Int32) (t : Addr) (cs : List Int32) (k : Nat) (vf : Value) (z : Int32) (tt1 : Exa Z h o0 "java/lang/String") (tt2 : Fld Z h o0 "java/lang/String" "value" "[B" (.ref t)) (tt3 : Fld Z h o0 "java/lang/String" "coder" "B" (.int (0 : Int32))) (tt4 : Ax Z h t .byte cs.length (own_v cs)) (hk : i1.toInt = (k : Int)) (hkn : k < cs.length) (hrg : ∀ c ∈ cs, 0 ≤ c.toInt ∧ c.toInt < 128) (S3 : Sta Z h "jdk/internal/util/Preconditions" "SIOOBE_FORMATTER" "Ljava/util/function/BiFunction;" vf) (hv : vf.isRef = true) (S0 : Sta Z h "java/lang/String" "COMPACT_STRINGS" "Z" (.int z)) (hz : ¬ z = 0) :
    Go p e below s 0 0 (PQ (some (.int (cs.getD k 0))) h []) (T.setTop (mkF m 0 #[.val (.ref o0), .val (.int i1)] [])) := by
  refine g_aloadN X B sx_d0 (pc' := 1) rfl (v := (.ref o0)) rfl rfl ?_
  refine g_virtual X B eT 0 tt1 (y := (⟨"java/lang/String", "isLatin1", "()Z"⟩ : MethodName)) (argsL := []) (rest := []) (a := o0) (B.w 213 rfl) (B.w 214 rfl) (B.w 216 rfl) (B.w 215 rfl) (B.w 67 rfl) (B.w 217 rfl) (by decide) (si_met l Z a0 B.2.2.1 [] h o0 z tt3 S0 hz) (by decide) (by decide) (by decide) (by decide) rfl (lenOf own_pd6 rfl) rfl (Nat.le_of_eq rfl) sx_d1 (pc' := 4) rfl (fun T1 v1 L1 X1 Q1 => ?_)
  obtain ⟨rfl, hh1, rfl⟩ := Q1
  rw [List.append_nil] at X1
  show Go p e below s _ _ _ (T1.setTop (mkF m 4 #[.val (.ref o0), .val (.int i1)] [(.int (1 : Int32))]))
  refine g_if_eq X1 B sx_d4 (pcT := 16) (pcF := 7) (by decide) rfl rfl (fun c4_0 => ?_) (fun c4_0 => ?_)
  · exact absurd c4_0 (by decide)
  · refine g_aloadN X1 B sx_d7 (pc' := 8) rfl (v := (.ref o0)) rfl rfl ?_
    refine g_getF X1 B (B.w 127 rfl) Via.refl hh1 tt2 sx_d8 (pc' := 11) rfl (fun T2 X2 e2 => ?_)
    refine g_iloadN X2 B sx_d11 (pc' := 12) rfl (v := i1) rfl ?_
    refine g_callS X2 B e2 0 (y := (⟨"java/lang/StringLatin1", "charAt", "([BI)C"⟩ : MethodName)) (argsL := [(.ref t), (.int i1)]) (rest := []) (B.w 218 rfl) (B.w 219 rfl) (B.w 220 rfl) (B.w 221 rfl) (by decide) (lc_met l Z a0 B.2.2.1 [] h t i1 cs k vf tt4 hk hkn hrg S3 hv) (by decide) (by decide) (by decide) (by decide) rfl (lenOf own_pd22 rfl) rfl (Nat.le_of_eq rfl) sx_d12 (pc' := 15) rfl (fun T3 v3 L3 X3 Q3 => ?_)
    obtain ⟨rfl, hh3, rfl⟩ := Q3
    rw [List.append_nil] at X3
    show Go p e below s _ _ _ (T3.setTop (mkF m 15 #[.val (.ref o0), .val (.int i1)] [(.int (cs.getD k 0))]))
    exact g_retN X3 B (t := .char) rfl (by simp) sx_d15 (by decide) (by decide) ⟨congrArg (fun z => some (Value.int z)) (own_nar ⟨(own_gr hrg).1, Int.lt_trans (own_gr hrg).2 (by decide)⟩), hh3, rfl⟩
theorem sx_met (l : Launch) (Z : State) (a0 : Array Value) (hw : ∀ d ∈ tables_1, d.before a0 Z = true) (ws : List Jvm.Cond) (h : Heap) (o0 : Addr) (i1 : Int32) (t : Addr) (cs : List Int32) (k : Nat) (vf : Value) (z : Int32) (tt1 : Exa Z h o0 "java/lang/String") (tt2 : Fld Z h o0 "java/lang/String" "value" "[B" (.ref t)) (tt3 : Fld Z h o0 "java/lang/String" "coder" "B" (.int (0 : Int32))) (tt4 : Ax Z h t .byte cs.length (own_v cs)) (hk : i1.toInt = (k : Int)) (hkn : k < cs.length) (hrg : ∀ c ∈ cs, 0 ≤ c.toInt ∧ c.toInt < 128) (S3 : Sta Z h "jdk/internal/util/Preconditions" "SIOOBE_FORMATTER" "Ljava/util/function/BiFunction;" vf) (hv : vf.isRef = true) (S0 : Sta Z h "java/lang/String" "COMPACT_STRINGS" "Z" (.int z)) (hz : ¬ z = 0) :
    Met l Z (⟨"java/lang/String", "charAt", "(I)C"⟩ : MethodName) jdk_42_method_56_code 2 (some .char) ws (⟨3, 0, 0, 44⟩ : Room) #[(.ref o0), (.int i1)] h (PQ (some (.int (cs.getD k 0))) h []) :=
  met_of own_pn_sx hw fun p e s m below meth c T X B eT => Go.top (own_ef_sx m o0 i1) (sx_go X B eT o0 i1 t cs k vf z tt1 tt2 tt3 tt4 hk hkn hrg S3 hv S0 hz)
theorem ma_d0 : decode method_3_code 0 = .ok (.lload_n 1, 1) := by decide +kernel
theorem ma_d1 : decode method_3_code 1 = .ok (.ldc2_w 50, 3) := by decide +kernel
theorem ma_d4 : decode method_3_code 4 = .ok (.ldiv, 1) := by decide +kernel
theorem ma_d5 : decode method_3_code 5 = .ok (.lstore_n 3, 1) := by decide +kernel
theorem ma_d6 : decode method_3_code 6 = .ok (.ldc2_w 52, 3) := by decide +kernel
theorem ma_d9 : decode method_3_code 9 = .ok (.lload_n 1, 1) := by decide +kernel
theorem ma_d10 : decode method_3_code 10 = .ok (.ldc2_w 50, 3) := by decide +kernel
theorem ma_d13 : decode method_3_code 13 = .ok (.lrem, 1) := by decide +kernel
theorem ma_d14 : decode method_3_code 14 = .ok (.ladd, 1) := by decide +kernel
theorem ma_d15 : decode method_3_code 15 = .ok (.l2i, 1) := by decide +kernel
theorem ma_d16 : decode method_3_code 16 = .ok (.i2c, 1) := by decide +kernel
theorem ma_d17 : decode method_3_code 17 = .ok (.istore 5, 2) := by decide +kernel
theorem ma_d19 : decode method_3_code 19 = .ok (.lload_n 3, 1) := by decide +kernel
theorem ma_d20 : decode method_3_code 20 = .ok (.ldc2_w 50, 3) := by decide +kernel
theorem ma_d23 : decode method_3_code 23 = .ok (.lcmp, 1) := by decide +kernel
theorem ma_d24 : decode method_3_code 24 = .ok (.ifCond .ge 52, 3) := by decide +kernel
theorem ma_d27 : decode method_3_code 27 = .ok (.aload_n 0, 1) := by decide +kernel
theorem ma_d28 : decode method_3_code 28 = .ok (.invokevirtual 54, 3) := by decide +kernel
theorem ma_d31 : decode method_3_code 31 = .ok (.iconst 3, 1) := by decide +kernel
theorem ma_d32 : decode method_3_code 32 = .ok (.if_icmp .ne 42, 3) := by decide +kernel
theorem ma_d35 : decode method_3_code 35 = .ok (.aload_n 0, 1) := by decide +kernel
theorem ma_d36 : decode method_3_code 36 = .ok (.iconst 0, 1) := by decide +kernel
theorem ma_d37 : decode method_3_code 37 = .ok (.invokevirtual 58, 3) := by decide +kernel
theorem ma_d40 : decode method_3_code 40 = .ok (.ldc2_w 52, 3) := by decide +kernel
theorem ma_d43 : decode method_3_code 43 = .ok (.lload_n 3, 1) := by decide +kernel
theorem ma_d44 : decode method_3_code 44 = .ok (.ladd, 1) := by decide +kernel
theorem ma_d45 : decode method_3_code 45 = .ok (.l2i, 1) := by decide +kernel
theorem ma_d46 : decode method_3_code 46 = .ok (.i2c, 1) := by decide +kernel
theorem ma_d47 : decode method_3_code 47 = .ok (.if_icmp .ne 27, 3) := by decide +kernel
theorem ma_d50 : decode method_3_code 50 = .ok (.aload_n 0, 1) := by decide +kernel
theorem ma_d51 : decode method_3_code 51 = .ok (.iconst 1, 1) := by decide +kernel
theorem ma_d52 : decode method_3_code 52 = .ok (.invokevirtual 58, 3) := by decide +kernel
theorem ma_d55 : decode method_3_code 55 = .ok (.bipush 46, 2) := by decide +kernel
theorem ma_d57 : decode method_3_code 57 = .ok (.if_icmp .ne 17, 3) := by decide +kernel
theorem ma_d60 : decode method_3_code 60 = .ok (.aload_n 0, 1) := by decide +kernel
theorem ma_d61 : decode method_3_code 61 = .ok (.iconst 2, 1) := by decide +kernel
theorem ma_d62 : decode method_3_code 62 = .ok (.invokevirtual 58, 3) := by decide +kernel
theorem ma_d65 : decode method_3_code 65 = .ok (.iload 5, 2) := by decide +kernel
theorem ma_d67 : decode method_3_code 67 = .ok (.if_icmp .ne 7, 3) := by decide +kernel
theorem ma_d70 : decode method_3_code 70 = .ok (.iconst 1, 1) := by decide +kernel
theorem ma_d71 : decode method_3_code 71 = .ok (.goto 4, 3) := by decide +kernel
theorem ma_d75 : decode method_3_code 75 = .ok (.ireturn, 1) := by decide +kernel
theorem ma_d76 : decode method_3_code 76 = .ok (.lload_n 3, 1) := by decide +kernel
theorem ma_d77 : decode method_3_code 77 = .ok (.ldc2_w 62, 3) := by decide +kernel
theorem ma_d80 : decode method_3_code 80 = .ok (.lcmp, 1) := by decide +kernel
theorem ma_d81 : decode method_3_code 81 = .ok (.ifCond .ge 75, 3) := by decide +kernel
theorem ma_d84 : decode method_3_code 84 = .ok (.aload_n 0, 1) := by decide +kernel
theorem ma_d85 : decode method_3_code 85 = .ok (.invokevirtual 54, 3) := by decide +kernel
theorem ma_d88 : decode method_3_code 88 = .ok (.iconst 4, 1) := by decide +kernel
theorem ma_d89 : decode method_3_code 89 = .ok (.if_icmp .ne 65, 3) := by decide +kernel
theorem ma_d92 : decode method_3_code 92 = .ok (.aload_n 0, 1) := by decide +kernel
theorem ma_d93 : decode method_3_code 93 = .ok (.iconst 0, 1) := by decide +kernel
theorem ma_d94 : decode method_3_code 94 = .ok (.invokevirtual 58, 3) := by decide +kernel
theorem ma_d97 : decode method_3_code 97 = .ok (.ldc2_w 52, 3) := by decide +kernel
theorem ma_d100 : decode method_3_code 100 = .ok (.lload_n 3, 1) := by decide +kernel
theorem ma_d101 : decode method_3_code 101 = .ok (.ldc2_w 50, 3) := by decide +kernel
theorem ma_d104 : decode method_3_code 104 = .ok (.ldiv, 1) := by decide +kernel
theorem ma_d105 : decode method_3_code 105 = .ok (.ladd, 1) := by decide +kernel
theorem ma_d106 : decode method_3_code 106 = .ok (.l2i, 1) := by decide +kernel
theorem ma_d107 : decode method_3_code 107 = .ok (.i2c, 1) := by decide +kernel
theorem ma_d108 : decode method_3_code 108 = .ok (.if_icmp .ne 46, 3) := by decide +kernel
theorem ma_d111 : decode method_3_code 111 = .ok (.aload_n 0, 1) := by decide +kernel
theorem ma_d112 : decode method_3_code 112 = .ok (.iconst 1, 1) := by decide +kernel
theorem ma_d113 : decode method_3_code 113 = .ok (.invokevirtual 58, 3) := by decide +kernel
theorem ma_d116 : decode method_3_code 116 = .ok (.ldc2_w 52, 3) := by decide +kernel
theorem ma_d119 : decode method_3_code 119 = .ok (.lload_n 3, 1) := by decide +kernel
theorem ma_d120 : decode method_3_code 120 = .ok (.ldc2_w 50, 3) := by decide +kernel
theorem ma_d123 : decode method_3_code 123 = .ok (.lrem, 1) := by decide +kernel
theorem ma_d124 : decode method_3_code 124 = .ok (.ladd, 1) := by decide +kernel
theorem ma_d125 : decode method_3_code 125 = .ok (.l2i, 1) := by decide +kernel
theorem ma_d126 : decode method_3_code 126 = .ok (.i2c, 1) := by decide +kernel
theorem ma_d127 : decode method_3_code 127 = .ok (.if_icmp .ne 27, 3) := by decide +kernel
theorem ma_d130 : decode method_3_code 130 = .ok (.aload_n 0, 1) := by decide +kernel
theorem ma_d131 : decode method_3_code 131 = .ok (.iconst 2, 1) := by decide +kernel
theorem ma_d132 : decode method_3_code 132 = .ok (.invokevirtual 58, 3) := by decide +kernel
theorem ma_d135 : decode method_3_code 135 = .ok (.bipush 46, 2) := by decide +kernel
theorem ma_d137 : decode method_3_code 137 = .ok (.if_icmp .ne 17, 3) := by decide +kernel
theorem ma_d140 : decode method_3_code 140 = .ok (.aload_n 0, 1) := by decide +kernel
theorem ma_d141 : decode method_3_code 141 = .ok (.iconst 3, 1) := by decide +kernel
theorem ma_d142 : decode method_3_code 142 = .ok (.invokevirtual 58, 3) := by decide +kernel
theorem ma_d145 : decode method_3_code 145 = .ok (.iload 5, 2) := by decide +kernel
theorem ma_d147 : decode method_3_code 147 = .ok (.if_icmp .ne 7, 3) := by decide +kernel
theorem ma_d150 : decode method_3_code 150 = .ok (.iconst 1, 1) := by decide +kernel
theorem ma_d151 : decode method_3_code 151 = .ok (.goto 4, 3) := by decide +kernel
theorem ma_d155 : decode method_3_code 155 = .ok (.ireturn, 1) := by decide +kernel
theorem ma_d156 : decode method_3_code 156 = .ok (.aload_n 0, 1) := by decide +kernel
theorem ma_d157 : decode method_3_code 157 = .ok (.invokevirtual 54, 3) := by decide +kernel
theorem ma_d160 : decode method_3_code 160 = .ok (.iconst 5, 1) := by decide +kernel
theorem ma_d161 : decode method_3_code 161 = .ok (.if_icmp .ne 88, 3) := by decide +kernel
theorem ma_d164 : decode method_3_code 164 = .ok (.aload_n 0, 1) := by decide +kernel
theorem ma_d165 : decode method_3_code 165 = .ok (.iconst 0, 1) := by decide +kernel
theorem ma_d166 : decode method_3_code 166 = .ok (.invokevirtual 58, 3) := by decide +kernel
theorem ma_d169 : decode method_3_code 169 = .ok (.ldc2_w 52, 3) := by decide +kernel
theorem ma_d172 : decode method_3_code 172 = .ok (.lload_n 3, 1) := by decide +kernel
theorem ma_d173 : decode method_3_code 173 = .ok (.ldc2_w 62, 3) := by decide +kernel
theorem ma_d176 : decode method_3_code 176 = .ok (.ldiv, 1) := by decide +kernel
theorem ma_d177 : decode method_3_code 177 = .ok (.ladd, 1) := by decide +kernel
theorem ma_d178 : decode method_3_code 178 = .ok (.l2i, 1) := by decide +kernel
theorem ma_d179 : decode method_3_code 179 = .ok (.i2c, 1) := by decide +kernel
theorem ma_d180 : decode method_3_code 180 = .ok (.if_icmp .ne 69, 3) := by decide +kernel
theorem ma_d183 : decode method_3_code 183 = .ok (.aload_n 0, 1) := by decide +kernel
theorem ma_d184 : decode method_3_code 184 = .ok (.iconst 1, 1) := by decide +kernel
theorem ma_d185 : decode method_3_code 185 = .ok (.invokevirtual 58, 3) := by decide +kernel
theorem ma_d188 : decode method_3_code 188 = .ok (.ldc2_w 52, 3) := by decide +kernel
theorem ma_d191 : decode method_3_code 191 = .ok (.lload_n 3, 1) := by decide +kernel
theorem ma_d192 : decode method_3_code 192 = .ok (.ldc2_w 50, 3) := by decide +kernel
theorem ma_d195 : decode method_3_code 195 = .ok (.ldiv, 1) := by decide +kernel
theorem ma_d196 : decode method_3_code 196 = .ok (.ldc2_w 50, 3) := by decide +kernel
theorem ma_d199 : decode method_3_code 199 = .ok (.lrem, 1) := by decide +kernel
theorem ma_d200 : decode method_3_code 200 = .ok (.ladd, 1) := by decide +kernel
theorem ma_d201 : decode method_3_code 201 = .ok (.l2i, 1) := by decide +kernel
theorem ma_d202 : decode method_3_code 202 = .ok (.i2c, 1) := by decide +kernel
theorem ma_d203 : decode method_3_code 203 = .ok (.if_icmp .ne 46, 3) := by decide +kernel
theorem ma_d206 : decode method_3_code 206 = .ok (.aload_n 0, 1) := by decide +kernel
theorem ma_d207 : decode method_3_code 207 = .ok (.iconst 2, 1) := by decide +kernel
theorem ma_d208 : decode method_3_code 208 = .ok (.invokevirtual 58, 3) := by decide +kernel
theorem ma_d211 : decode method_3_code 211 = .ok (.ldc2_w 52, 3) := by decide +kernel
theorem ma_d214 : decode method_3_code 214 = .ok (.lload_n 3, 1) := by decide +kernel
theorem ma_d215 : decode method_3_code 215 = .ok (.ldc2_w 50, 3) := by decide +kernel
theorem ma_d218 : decode method_3_code 218 = .ok (.lrem, 1) := by decide +kernel
theorem ma_d219 : decode method_3_code 219 = .ok (.ladd, 1) := by decide +kernel
theorem ma_d220 : decode method_3_code 220 = .ok (.l2i, 1) := by decide +kernel
theorem ma_d221 : decode method_3_code 221 = .ok (.i2c, 1) := by decide +kernel
theorem ma_d222 : decode method_3_code 222 = .ok (.if_icmp .ne 27, 3) := by decide +kernel
theorem ma_d225 : decode method_3_code 225 = .ok (.aload_n 0, 1) := by decide +kernel
theorem ma_d226 : decode method_3_code 226 = .ok (.iconst 3, 1) := by decide +kernel
theorem ma_d227 : decode method_3_code 227 = .ok (.invokevirtual 58, 3) := by decide +kernel
theorem ma_d230 : decode method_3_code 230 = .ok (.bipush 46, 2) := by decide +kernel
theorem ma_d232 : decode method_3_code 232 = .ok (.if_icmp .ne 17, 3) := by decide +kernel
theorem ma_d235 : decode method_3_code 235 = .ok (.aload_n 0, 1) := by decide +kernel
theorem ma_d236 : decode method_3_code 236 = .ok (.iconst 4, 1) := by decide +kernel
theorem ma_d237 : decode method_3_code 237 = .ok (.invokevirtual 58, 3) := by decide +kernel
theorem ma_d240 : decode method_3_code 240 = .ok (.iload 5, 2) := by decide +kernel
theorem ma_d242 : decode method_3_code 242 = .ok (.if_icmp .ne 7, 3) := by decide +kernel
theorem ma_d245 : decode method_3_code 245 = .ok (.iconst 1, 1) := by decide +kernel
theorem ma_d246 : decode method_3_code 246 = .ok (.goto 4, 3) := by decide +kernel
theorem ma_d250 : decode method_3_code 250 = .ok (.ireturn, 1) := by decide +kernel
theorem own_pn_ma : plainFor (⟨"com/example/measured_grab/measuredgrab/bench/LatenciesAddPinLaw", "matches", "(Ljava/lang/String;J)Z"⟩ : MethodName) = true := plainFor_of_name (by first | (simp [plainName, overriddenIn]; done) | decide +kernel)
theorem own_ef_ma (m : MethodId) (o0 : Addr) (j1 : Int64) : entryFrame m #[(.ref o0), (.long j1)] 6 = (mkF m 0 #[.val (.ref o0), .val (.long j1), .second, .unset, .unset, .unset] []) := by first | (simp [entryFrame, mkF, argsToLocals, Value.category]; done) | rfl
set_option maxRecDepth 65536 in
set_option maxHeartbeats 40000000 in
theorem ma_go {p : Program} {l : Launch} {e : Env} {s : State} {m : MethodId} {args : Array Value} {below : List Frame} {meth : Method} {c : Code} {T : State} {Z : State} {a0 : Array Value} {h : Heap} (X : Stand p l e (⟨4, 0, 0, 60⟩ : Room) s m args below meth c T [] 0 0) (B : Bdy p s m meth c Z a0 "com/example/measured_grab/measuredgrab/bench/LatenciesAddPinLaw" "matches" method_3_code 6 (some .boolean) tables_1) (eT : T.heap = h) (o0 : Addr) (j1 : Int64) (t : Addr) (cs : List Int32) (tn : Nat) (vf : Value) (z : Int32) (tt1 : Exa Z h o0 "java/lang/String") (tt2 : Fld Z h o0 "java/lang/String" "value" "[B" (.ref t)) (tt3 : Fld Z h o0 "java/lang/String" "coder" "B" (.int (0 : Int32))) (tt4 : Ax Z h t .byte cs.length (own_v cs)) (hcs : cs = own_fm tn) (ht : j1.toInt = (tn : Int)) (htn : tn < 10000) (S3 : Sta Z h "jdk/internal/util/Preconditions" "SIOOBE_FORMATTER" "Ljava/util/function/BiFunction;" vf) (hv : vf.isRef = true) (S0 : Sta Z h "java/lang/String" "COMPACT_STRINGS" "Z" (.int z)) (hz : ¬ z = 0) :
    Go p e below s 0 0 (PQ (some (.int (1 : Int32))) h []) (T.setTop (mkF m 0 #[.val (.ref o0), .val (.long j1), .second, .unset, .unset, .unset] [])) := by
  have hrg : ∀ c ∈ cs, 0 ≤ c.toInt ∧ c.toInt < 128 := by rw [hcs]; exact own_fmr tn
  refine g_lloadN X B ma_d0 (pc' := 1) rfl (v := j1) rfl ?_
  refine g_ldc2 X B (B.w 205 rfl) ma_d1 (pc' := 4) rfl ?_
  refine g_ldiv X B (by decide) ma_d4 (pc' := 5) rfl ?_
  refine g_lstoreN X B ma_d5 (pc' := 6) rfl (Ls' := #[.val (.ref o0), .val (.long j1), .second, .val (.long (j1 / (10 : Int64))), .second, .unset]) rfl ?_
  obtain ⟨jw, g_jw⟩ : ∃ z, z = (j1 / (10 : Int64)) := ⟨_, rfl⟩
  rw [← g_jw]
  have hw : jw.toInt = ((tn / 10 : Nat) : Int) := by rw [g_jw]; exact own_ld ht rfl (by decide)
  refine g_ldc2 X B (B.w 206 rfl) ma_d6 (pc' := 9) rfl ?_
  refine g_lloadN X B ma_d9 (pc' := 10) rfl (v := j1) rfl ?_
  refine g_ldc2 X B (B.w 205 rfl) ma_d10 (pc' := 13) rfl ?_
  refine g_lrem X B (by decide) ma_d13 (pc' := 14) rfl ?_
  refine g_ladd X B ma_d14 (pc' := 15) rfl ?_
  refine g_l2i X B ma_d15 (pc' := 16) rfl ?_
  refine g_i2c X B ma_d16 (pc' := 17) rfl ?_
  refine g_istore X B ma_d17 (pc' := 19) rfl (Ls' := #[.val (.ref o0), .val (.long j1), .second, .val (.long jw), .second, .val (.int ((((48 : Int64) + (j1 % (10 : Int64))).toInt32).toUInt32.toUInt16.toUInt32.toInt32))]) rfl ?_
  obtain ⟨i5f, g_i5f⟩ : ∃ z, z = ((((48 : Int64) + (j1 % (10 : Int64))).toInt32).toUInt32.toUInt16.toUInt32.toInt32) := ⟨_, rfl⟩
  rw [← g_i5f]
  have h5 : i5f = Int32.ofNat (48 + tn % 10) := by rw [g_i5f]; exact own_dch (own_lm ht rfl) (by omega)
  refine g_lloadN X B ma_d19 (pc' := 20) rfl (v := jw) rfl ?_
  refine g_ldc2 X B (B.w 205 rfl) ma_d20 (pc' := 23) rfl ?_
  refine g_lcmp_ge X B ma_d23 ma_d24 (pcT := 76) (pcF := 27) (by decide) rfl rfl (fun c23_0 => ?_) (fun c23_0 => ?_)
  · have k10 : (10 : Int64).toInt = 10 := rfl
    have k100 : (100 : Int64).toInt = 100 := rfl
    rw [Int64.lt_iff_toInt_lt] at c23_0
    have hc := hcs.trans (own_fm1 (by omega))
    refine g_aloadN X B ma_d27 (pc' := 28) rfl (v := (.ref o0)) rfl rfl ?_
    refine g_virtual X B eT 0 tt1 (y := (⟨"java/lang/String", "length", "()I"⟩ : MethodName)) (argsL := []) (rest := []) (a := o0) (B.w 207 rfl) (B.w 123 rfl) (B.w 125 rfl) (B.w 124 rfl) (B.w 67 rfl) (B.w 126 rfl) (by decide) (sl_met l Z a0 B.2.2.1 [] h o0 t cs z tt1 tt2 tt3 tt4 S0 hz) (by decide) (by decide) (by decide) (by decide) rfl (lenOf own_pd12 rfl) rfl (Nat.le_of_eq rfl) ma_d28 (pc' := 31) rfl (fun T1 v1 L1 X1 Q1 => ?_)
    obtain ⟨rfl, hh1, rfl⟩ := Q1
    rw [List.append_nil] at X1
    show Go p e below s _ _ _ (T1.setTop (mkF m 31 #[.val (.ref o0), .val (.long j1), .second, .val (.long jw), .second, .val (.int i5f)] [(.int (Int32.ofNat cs.length))]))
    refine g_iconst X1 B ma_d31 (pc' := 32) rfl (v := (3 : Int32)) (by decide) ?_
    refine g_icmp_ne X1 B ma_d32 (pcT := 74) (pcF := 35) (by decide) rfl rfl (fun c32_1 => ?_) (fun c32_1 => ?_)
    · refine g_aloadN X1 B ma_d35 (pc' := 36) rfl (v := (.ref o0)) rfl rfl ?_
      refine g_iconst X1 B ma_d36 (pc' := 37) rfl (v := (0 : Int32)) (by decide) ?_
      refine g_virtual X1 B hh1 0 tt1 (y := (⟨"java/lang/String", "charAt", "(I)C"⟩ : MethodName)) (argsL := [(.int (0 : Int32))]) (rest := []) (a := o0) (B.w 208 rfl) (B.w 209 rfl) (B.w 211 rfl) (B.w 210 rfl) (B.w 67 rfl) (B.w 212 rfl) (by decide) (sx_met l Z a0 B.2.2.1 [] h o0 (0 : Int32) t cs 0 vf z tt1 tt2 tt3 tt4 (by decide) (by rw [hc]; simp) hrg S3 hv S0 hz) (by decide) (by decide) (by decide) (by decide) rfl (lenOf own_pd23 rfl) rfl (Nat.le_of_eq rfl) ma_d37 (pc' := 40) rfl (fun T2 v2 L2 X2 Q2 => ?_)
      obtain ⟨rfl, hh2, rfl⟩ := Q2
      rw [List.append_nil] at X2
      show Go p e below s _ _ _ (T2.setTop (mkF m 40 #[.val (.ref o0), .val (.long j1), .second, .val (.long jw), .second, .val (.int i5f)] [(.int (cs.getD 0 0))]))
      refine g_ldc2 X2 B (B.w 206 rfl) ma_d40 (pc' := 43) rfl ?_
      refine g_lloadN X2 B ma_d43 (pc' := 44) rfl (v := jw) rfl ?_
      refine g_ladd X2 B ma_d44 (pc' := 45) rfl ?_
      refine g_l2i X2 B ma_d45 (pc' := 46) rfl ?_
      refine g_i2c X2 B ma_d46 (pc' := 47) rfl ?_
      refine g_icmp_ne X2 B ma_d47 (pcT := 74) (pcF := 50) (by decide) rfl rfl (fun c47_2 => ?_) (fun c47_2 => ?_)
      · refine g_aloadN X2 B ma_d50 (pc' := 51) rfl (v := (.ref o0)) rfl rfl ?_
        refine g_iconst X2 B ma_d51 (pc' := 52) rfl (v := (1 : Int32)) (by decide) ?_
        refine g_virtual X2 B hh2 0 tt1 (y := (⟨"java/lang/String", "charAt", "(I)C"⟩ : MethodName)) (argsL := [(.int (1 : Int32))]) (rest := []) (a := o0) (B.w 208 rfl) (B.w 209 rfl) (B.w 211 rfl) (B.w 210 rfl) (B.w 67 rfl) (B.w 212 rfl) (by decide) (sx_met l Z a0 B.2.2.1 [] h o0 (1 : Int32) t cs 1 vf z tt1 tt2 tt3 tt4 (by decide) (by rw [hc]; simp) hrg S3 hv S0 hz) (by decide) (by decide) (by decide) (by decide) rfl (lenOf own_pd23 rfl) rfl (Nat.le_of_eq rfl) ma_d52 (pc' := 55) rfl (fun T3 v3 L3 X3 Q3 => ?_)
        obtain ⟨rfl, hh3, rfl⟩ := Q3
        rw [List.append_nil] at X3
        show Go p e below s _ _ _ (T3.setTop (mkF m 55 #[.val (.ref o0), .val (.long j1), .second, .val (.long jw), .second, .val (.int i5f)] [(.int (cs.getD 1 0))]))
        refine g_bipush X3 B ma_d55 (pc' := 57) rfl (v := (46 : Int32)) (by decide) ?_
        refine g_icmp_ne X3 B ma_d57 (pcT := 74) (pcF := 60) (by decide) rfl rfl (fun c57_3 => ?_) (fun c57_3 => ?_)
        · refine g_aloadN X3 B ma_d60 (pc' := 61) rfl (v := (.ref o0)) rfl rfl ?_
          refine g_iconst X3 B ma_d61 (pc' := 62) rfl (v := (2 : Int32)) (by decide) ?_
          refine g_virtual X3 B hh3 0 tt1 (y := (⟨"java/lang/String", "charAt", "(I)C"⟩ : MethodName)) (argsL := [(.int (2 : Int32))]) (rest := []) (a := o0) (B.w 208 rfl) (B.w 209 rfl) (B.w 211 rfl) (B.w 210 rfl) (B.w 67 rfl) (B.w 212 rfl) (by decide) (sx_met l Z a0 B.2.2.1 [] h o0 (2 : Int32) t cs 2 vf z tt1 tt2 tt3 tt4 (by decide) (by rw [hc]; simp) hrg S3 hv S0 hz) (by decide) (by decide) (by decide) (by decide) rfl (lenOf own_pd23 rfl) rfl (Nat.le_of_eq rfl) ma_d62 (pc' := 65) rfl (fun T4 v4 L4 X4 Q4 => ?_)
          obtain ⟨rfl, hh4, rfl⟩ := Q4
          rw [List.append_nil] at X4
          show Go p e below s _ _ _ (T4.setTop (mkF m 65 #[.val (.ref o0), .val (.long j1), .second, .val (.long jw), .second, .val (.int i5f)] [(.int (cs.getD 2 0))]))
          refine g_iload X4 B ma_d65 (pc' := 67) rfl (v := i5f) rfl ?_
          refine g_icmp_ne X4 B ma_d67 (pcT := 74) (pcF := 70) (by decide) rfl rfl (fun c67_4 => ?_) (fun c67_4 => ?_)
          · refine g_iconst X4 B ma_d70 (pc' := 71) rfl (v := (1 : Int32)) (by decide) ?_
            refine g_goto X4 B ma_d71 (pc' := 75) (by decide) rfl ?_
            exact g_retN X4 B (t := .boolean) rfl (by simp) ma_d75 (by decide) (by decide) ⟨congrArg (fun z => some (Value.int z)) (by decide : nar .boolean (1 : Int32) = 1), hh4, rfl⟩
          · exact absurd (by rw [hc]; exact h5.symm) c67_4
        · exact absurd (by rw [hc]; exact rfl) c57_3
      · exact absurd (by rw [hc]; exact (own_dch hw (by omega)).symm) c47_2
    · exact absurd (by rw [hc]; exact rfl) c32_1
  · have k10 : (10 : Int64).toInt = 10 := rfl
    have k100 : (100 : Int64).toInt = 100 := rfl
    rw [Int64.lt_iff_toInt_lt] at c23_0
    have h10 : 10 ≤ tn / 10 := by omega
    refine g_lloadN X B ma_d76 (pc' := 77) rfl (v := jw) rfl ?_
    refine g_ldc2 X B (B.w 232 rfl) ma_d77 (pc' := 80) rfl ?_
    refine g_lcmp_ge X B ma_d80 ma_d81 (pcT := 156) (pcF := 84) (by decide) rfl rfl (fun c80_1 => ?_) (fun c80_1 => ?_)
    · have k10 : (10 : Int64).toInt = 10 := rfl
      have k100 : (100 : Int64).toInt = 100 := rfl
      rw [Int64.lt_iff_toInt_lt] at c80_1
      have hc := hcs.trans (own_fm2 (by omega) (by omega))
      refine g_aloadN X B ma_d84 (pc' := 85) rfl (v := (.ref o0)) rfl rfl ?_
      refine g_virtual X B eT 0 tt1 (y := (⟨"java/lang/String", "length", "()I"⟩ : MethodName)) (argsL := []) (rest := []) (a := o0) (B.w 207 rfl) (B.w 123 rfl) (B.w 125 rfl) (B.w 124 rfl) (B.w 67 rfl) (B.w 126 rfl) (by decide) (sl_met l Z a0 B.2.2.1 [] h o0 t cs z tt1 tt2 tt3 tt4 S0 hz) (by decide) (by decide) (by decide) (by decide) rfl (lenOf own_pd12 rfl) rfl (Nat.le_of_eq rfl) ma_d85 (pc' := 88) rfl (fun T5 v5 L5 X5 Q5 => ?_)
      obtain ⟨rfl, hh5, rfl⟩ := Q5
      rw [List.append_nil] at X5
      show Go p e below s _ _ _ (T5.setTop (mkF m 88 #[.val (.ref o0), .val (.long j1), .second, .val (.long jw), .second, .val (.int i5f)] [(.int (Int32.ofNat cs.length))]))
      refine g_iconst X5 B ma_d88 (pc' := 89) rfl (v := (4 : Int32)) (by decide) ?_
      refine g_icmp_ne X5 B ma_d89 (pcT := 154) (pcF := 92) (by decide) rfl rfl (fun c89_2 => ?_) (fun c89_2 => ?_)
      · refine g_aloadN X5 B ma_d92 (pc' := 93) rfl (v := (.ref o0)) rfl rfl ?_
        refine g_iconst X5 B ma_d93 (pc' := 94) rfl (v := (0 : Int32)) (by decide) ?_
        refine g_virtual X5 B hh5 0 tt1 (y := (⟨"java/lang/String", "charAt", "(I)C"⟩ : MethodName)) (argsL := [(.int (0 : Int32))]) (rest := []) (a := o0) (B.w 208 rfl) (B.w 209 rfl) (B.w 211 rfl) (B.w 210 rfl) (B.w 67 rfl) (B.w 212 rfl) (by decide) (sx_met l Z a0 B.2.2.1 [] h o0 (0 : Int32) t cs 0 vf z tt1 tt2 tt3 tt4 (by decide) (by rw [hc]; simp) hrg S3 hv S0 hz) (by decide) (by decide) (by decide) (by decide) rfl (lenOf own_pd23 rfl) rfl (Nat.le_of_eq rfl) ma_d94 (pc' := 97) rfl (fun T6 v6 L6 X6 Q6 => ?_)
        obtain ⟨rfl, hh6, rfl⟩ := Q6
        rw [List.append_nil] at X6
        show Go p e below s _ _ _ (T6.setTop (mkF m 97 #[.val (.ref o0), .val (.long j1), .second, .val (.long jw), .second, .val (.int i5f)] [(.int (cs.getD 0 0))]))
        refine g_ldc2 X6 B (B.w 206 rfl) ma_d97 (pc' := 100) rfl ?_
        refine g_lloadN X6 B ma_d100 (pc' := 101) rfl (v := jw) rfl ?_
        refine g_ldc2 X6 B (B.w 205 rfl) ma_d101 (pc' := 104) rfl ?_
        refine g_ldiv X6 B (by decide) ma_d104 (pc' := 105) rfl ?_
        refine g_ladd X6 B ma_d105 (pc' := 106) rfl ?_
        refine g_l2i X6 B ma_d106 (pc' := 107) rfl ?_
        refine g_i2c X6 B ma_d107 (pc' := 108) rfl ?_
        refine g_icmp_ne X6 B ma_d108 (pcT := 154) (pcF := 111) (by decide) rfl rfl (fun c108_3 => ?_) (fun c108_3 => ?_)
        · refine g_aloadN X6 B ma_d111 (pc' := 112) rfl (v := (.ref o0)) rfl rfl ?_
          refine g_iconst X6 B ma_d112 (pc' := 113) rfl (v := (1 : Int32)) (by decide) ?_
          refine g_virtual X6 B hh6 0 tt1 (y := (⟨"java/lang/String", "charAt", "(I)C"⟩ : MethodName)) (argsL := [(.int (1 : Int32))]) (rest := []) (a := o0) (B.w 208 rfl) (B.w 209 rfl) (B.w 211 rfl) (B.w 210 rfl) (B.w 67 rfl) (B.w 212 rfl) (by decide) (sx_met l Z a0 B.2.2.1 [] h o0 (1 : Int32) t cs 1 vf z tt1 tt2 tt3 tt4 (by decide) (by rw [hc]; simp) hrg S3 hv S0 hz) (by decide) (by decide) (by decide) (by decide) rfl (lenOf own_pd23 rfl) rfl (Nat.le_of_eq rfl) ma_d113 (pc' := 116) rfl (fun T7 v7 L7 X7 Q7 => ?_)
          obtain ⟨rfl, hh7, rfl⟩ := Q7
          rw [List.append_nil] at X7
          show Go p e below s _ _ _ (T7.setTop (mkF m 116 #[.val (.ref o0), .val (.long j1), .second, .val (.long jw), .second, .val (.int i5f)] [(.int (cs.getD 1 0))]))
          refine g_ldc2 X7 B (B.w 206 rfl) ma_d116 (pc' := 119) rfl ?_
          refine g_lloadN X7 B ma_d119 (pc' := 120) rfl (v := jw) rfl ?_
          refine g_ldc2 X7 B (B.w 205 rfl) ma_d120 (pc' := 123) rfl ?_
          refine g_lrem X7 B (by decide) ma_d123 (pc' := 124) rfl ?_
          refine g_ladd X7 B ma_d124 (pc' := 125) rfl ?_
          refine g_l2i X7 B ma_d125 (pc' := 126) rfl ?_
          refine g_i2c X7 B ma_d126 (pc' := 127) rfl ?_
          refine g_icmp_ne X7 B ma_d127 (pcT := 154) (pcF := 130) (by decide) rfl rfl (fun c127_4 => ?_) (fun c127_4 => ?_)
          · refine g_aloadN X7 B ma_d130 (pc' := 131) rfl (v := (.ref o0)) rfl rfl ?_
            refine g_iconst X7 B ma_d131 (pc' := 132) rfl (v := (2 : Int32)) (by decide) ?_
            refine g_virtual X7 B hh7 0 tt1 (y := (⟨"java/lang/String", "charAt", "(I)C"⟩ : MethodName)) (argsL := [(.int (2 : Int32))]) (rest := []) (a := o0) (B.w 208 rfl) (B.w 209 rfl) (B.w 211 rfl) (B.w 210 rfl) (B.w 67 rfl) (B.w 212 rfl) (by decide) (sx_met l Z a0 B.2.2.1 [] h o0 (2 : Int32) t cs 2 vf z tt1 tt2 tt3 tt4 (by decide) (by rw [hc]; simp) hrg S3 hv S0 hz) (by decide) (by decide) (by decide) (by decide) rfl (lenOf own_pd23 rfl) rfl (Nat.le_of_eq rfl) ma_d132 (pc' := 135) rfl (fun T8 v8 L8 X8 Q8 => ?_)
            obtain ⟨rfl, hh8, rfl⟩ := Q8
            rw [List.append_nil] at X8
            show Go p e below s _ _ _ (T8.setTop (mkF m 135 #[.val (.ref o0), .val (.long j1), .second, .val (.long jw), .second, .val (.int i5f)] [(.int (cs.getD 2 0))]))
            refine g_bipush X8 B ma_d135 (pc' := 137) rfl (v := (46 : Int32)) (by decide) ?_
            refine g_icmp_ne X8 B ma_d137 (pcT := 154) (pcF := 140) (by decide) rfl rfl (fun c137_5 => ?_) (fun c137_5 => ?_)
            · refine g_aloadN X8 B ma_d140 (pc' := 141) rfl (v := (.ref o0)) rfl rfl ?_
              refine g_iconst X8 B ma_d141 (pc' := 142) rfl (v := (3 : Int32)) (by decide) ?_
              refine g_virtual X8 B hh8 0 tt1 (y := (⟨"java/lang/String", "charAt", "(I)C"⟩ : MethodName)) (argsL := [(.int (3 : Int32))]) (rest := []) (a := o0) (B.w 208 rfl) (B.w 209 rfl) (B.w 211 rfl) (B.w 210 rfl) (B.w 67 rfl) (B.w 212 rfl) (by decide) (sx_met l Z a0 B.2.2.1 [] h o0 (3 : Int32) t cs 3 vf z tt1 tt2 tt3 tt4 (by decide) (by rw [hc]; simp) hrg S3 hv S0 hz) (by decide) (by decide) (by decide) (by decide) rfl (lenOf own_pd23 rfl) rfl (Nat.le_of_eq rfl) ma_d142 (pc' := 145) rfl (fun T9 v9 L9 X9 Q9 => ?_)
              obtain ⟨rfl, hh9, rfl⟩ := Q9
              rw [List.append_nil] at X9
              show Go p e below s _ _ _ (T9.setTop (mkF m 145 #[.val (.ref o0), .val (.long j1), .second, .val (.long jw), .second, .val (.int i5f)] [(.int (cs.getD 3 0))]))
              refine g_iload X9 B ma_d145 (pc' := 147) rfl (v := i5f) rfl ?_
              refine g_icmp_ne X9 B ma_d147 (pcT := 154) (pcF := 150) (by decide) rfl rfl (fun c147_6 => ?_) (fun c147_6 => ?_)
              · refine g_iconst X9 B ma_d150 (pc' := 151) rfl (v := (1 : Int32)) (by decide) ?_
                refine g_goto X9 B ma_d151 (pc' := 155) (by decide) rfl ?_
                exact g_retN X9 B (t := .boolean) rfl (by simp) ma_d155 (by decide) (by decide) ⟨congrArg (fun z => some (Value.int z)) (by decide : nar .boolean (1 : Int32) = 1), hh9, rfl⟩
              · exact absurd (by rw [hc]; exact h5.symm) c147_6
            · exact absurd (by rw [hc]; exact rfl) c137_5
          · exact absurd (by rw [hc]; exact (own_dch (own_lm hw rfl) (by omega)).symm) c127_4
        · exact absurd (by rw [hc]; exact (own_dch (own_ld hw rfl (by decide)) (by omega)).symm) c108_3
      · exact absurd (by rw [hc]; exact rfl) c89_2
    · have k10 : (10 : Int64).toInt = 10 := rfl
      have k100 : (100 : Int64).toInt = 100 := rfl
      rw [Int64.lt_iff_toInt_lt] at c80_1
      have hc := hcs.trans (own_fm3 (by omega) (by omega))
      refine g_aloadN X B ma_d156 (pc' := 157) rfl (v := (.ref o0)) rfl rfl ?_
      refine g_virtual X B eT 0 tt1 (y := (⟨"java/lang/String", "length", "()I"⟩ : MethodName)) (argsL := []) (rest := []) (a := o0) (B.w 207 rfl) (B.w 123 rfl) (B.w 125 rfl) (B.w 124 rfl) (B.w 67 rfl) (B.w 126 rfl) (by decide) (sl_met l Z a0 B.2.2.1 [] h o0 t cs z tt1 tt2 tt3 tt4 S0 hz) (by decide) (by decide) (by decide) (by decide) rfl (lenOf own_pd12 rfl) rfl (Nat.le_of_eq rfl) ma_d157 (pc' := 160) rfl (fun T10 v10 L10 X10 Q10 => ?_)
      obtain ⟨rfl, hh10, rfl⟩ := Q10
      rw [List.append_nil] at X10
      show Go p e below s _ _ _ (T10.setTop (mkF m 160 #[.val (.ref o0), .val (.long j1), .second, .val (.long jw), .second, .val (.int i5f)] [(.int (Int32.ofNat cs.length))]))
      refine g_iconst X10 B ma_d160 (pc' := 161) rfl (v := (5 : Int32)) (by decide) ?_
      refine g_icmp_ne X10 B ma_d161 (pcT := 249) (pcF := 164) (by decide) rfl rfl (fun c161_2 => ?_) (fun c161_2 => ?_)
      · refine g_aloadN X10 B ma_d164 (pc' := 165) rfl (v := (.ref o0)) rfl rfl ?_
        refine g_iconst X10 B ma_d165 (pc' := 166) rfl (v := (0 : Int32)) (by decide) ?_
        refine g_virtual X10 B hh10 0 tt1 (y := (⟨"java/lang/String", "charAt", "(I)C"⟩ : MethodName)) (argsL := [(.int (0 : Int32))]) (rest := []) (a := o0) (B.w 208 rfl) (B.w 209 rfl) (B.w 211 rfl) (B.w 210 rfl) (B.w 67 rfl) (B.w 212 rfl) (by decide) (sx_met l Z a0 B.2.2.1 [] h o0 (0 : Int32) t cs 0 vf z tt1 tt2 tt3 tt4 (by decide) (by rw [hc]; simp) hrg S3 hv S0 hz) (by decide) (by decide) (by decide) (by decide) rfl (lenOf own_pd23 rfl) rfl (Nat.le_of_eq rfl) ma_d166 (pc' := 169) rfl (fun T11 v11 L11 X11 Q11 => ?_)
        obtain ⟨rfl, hh11, rfl⟩ := Q11
        rw [List.append_nil] at X11
        show Go p e below s _ _ _ (T11.setTop (mkF m 169 #[.val (.ref o0), .val (.long j1), .second, .val (.long jw), .second, .val (.int i5f)] [(.int (cs.getD 0 0))]))
        refine g_ldc2 X11 B (B.w 206 rfl) ma_d169 (pc' := 172) rfl ?_
        refine g_lloadN X11 B ma_d172 (pc' := 173) rfl (v := jw) rfl ?_
        refine g_ldc2 X11 B (B.w 232 rfl) ma_d173 (pc' := 176) rfl ?_
        refine g_ldiv X11 B (by decide) ma_d176 (pc' := 177) rfl ?_
        refine g_ladd X11 B ma_d177 (pc' := 178) rfl ?_
        refine g_l2i X11 B ma_d178 (pc' := 179) rfl ?_
        refine g_i2c X11 B ma_d179 (pc' := 180) rfl ?_
        refine g_icmp_ne X11 B ma_d180 (pcT := 249) (pcF := 183) (by decide) rfl rfl (fun c180_3 => ?_) (fun c180_3 => ?_)
        · refine g_aloadN X11 B ma_d183 (pc' := 184) rfl (v := (.ref o0)) rfl rfl ?_
          refine g_iconst X11 B ma_d184 (pc' := 185) rfl (v := (1 : Int32)) (by decide) ?_
          refine g_virtual X11 B hh11 0 tt1 (y := (⟨"java/lang/String", "charAt", "(I)C"⟩ : MethodName)) (argsL := [(.int (1 : Int32))]) (rest := []) (a := o0) (B.w 208 rfl) (B.w 209 rfl) (B.w 211 rfl) (B.w 210 rfl) (B.w 67 rfl) (B.w 212 rfl) (by decide) (sx_met l Z a0 B.2.2.1 [] h o0 (1 : Int32) t cs 1 vf z tt1 tt2 tt3 tt4 (by decide) (by rw [hc]; simp) hrg S3 hv S0 hz) (by decide) (by decide) (by decide) (by decide) rfl (lenOf own_pd23 rfl) rfl (Nat.le_of_eq rfl) ma_d185 (pc' := 188) rfl (fun T12 v12 L12 X12 Q12 => ?_)
          obtain ⟨rfl, hh12, rfl⟩ := Q12
          rw [List.append_nil] at X12
          show Go p e below s _ _ _ (T12.setTop (mkF m 188 #[.val (.ref o0), .val (.long j1), .second, .val (.long jw), .second, .val (.int i5f)] [(.int (cs.getD 1 0))]))
          refine g_ldc2 X12 B (B.w 206 rfl) ma_d188 (pc' := 191) rfl ?_
          refine g_lloadN X12 B ma_d191 (pc' := 192) rfl (v := jw) rfl ?_
          refine g_ldc2 X12 B (B.w 205 rfl) ma_d192 (pc' := 195) rfl ?_
          refine g_ldiv X12 B (by decide) ma_d195 (pc' := 196) rfl ?_
          refine g_ldc2 X12 B (B.w 205 rfl) ma_d196 (pc' := 199) rfl ?_
          refine g_lrem X12 B (by decide) ma_d199 (pc' := 200) rfl ?_
          refine g_ladd X12 B ma_d200 (pc' := 201) rfl ?_
          refine g_l2i X12 B ma_d201 (pc' := 202) rfl ?_
          refine g_i2c X12 B ma_d202 (pc' := 203) rfl ?_
          refine g_icmp_ne X12 B ma_d203 (pcT := 249) (pcF := 206) (by decide) rfl rfl (fun c203_4 => ?_) (fun c203_4 => ?_)
          · refine g_aloadN X12 B ma_d206 (pc' := 207) rfl (v := (.ref o0)) rfl rfl ?_
            refine g_iconst X12 B ma_d207 (pc' := 208) rfl (v := (2 : Int32)) (by decide) ?_
            refine g_virtual X12 B hh12 0 tt1 (y := (⟨"java/lang/String", "charAt", "(I)C"⟩ : MethodName)) (argsL := [(.int (2 : Int32))]) (rest := []) (a := o0) (B.w 208 rfl) (B.w 209 rfl) (B.w 211 rfl) (B.w 210 rfl) (B.w 67 rfl) (B.w 212 rfl) (by decide) (sx_met l Z a0 B.2.2.1 [] h o0 (2 : Int32) t cs 2 vf z tt1 tt2 tt3 tt4 (by decide) (by rw [hc]; simp) hrg S3 hv S0 hz) (by decide) (by decide) (by decide) (by decide) rfl (lenOf own_pd23 rfl) rfl (Nat.le_of_eq rfl) ma_d208 (pc' := 211) rfl (fun T13 v13 L13 X13 Q13 => ?_)
            obtain ⟨rfl, hh13, rfl⟩ := Q13
            rw [List.append_nil] at X13
            show Go p e below s _ _ _ (T13.setTop (mkF m 211 #[.val (.ref o0), .val (.long j1), .second, .val (.long jw), .second, .val (.int i5f)] [(.int (cs.getD 2 0))]))
            refine g_ldc2 X13 B (B.w 206 rfl) ma_d211 (pc' := 214) rfl ?_
            refine g_lloadN X13 B ma_d214 (pc' := 215) rfl (v := jw) rfl ?_
            refine g_ldc2 X13 B (B.w 205 rfl) ma_d215 (pc' := 218) rfl ?_
            refine g_lrem X13 B (by decide) ma_d218 (pc' := 219) rfl ?_
            refine g_ladd X13 B ma_d219 (pc' := 220) rfl ?_
            refine g_l2i X13 B ma_d220 (pc' := 221) rfl ?_
            refine g_i2c X13 B ma_d221 (pc' := 222) rfl ?_
            refine g_icmp_ne X13 B ma_d222 (pcT := 249) (pcF := 225) (by decide) rfl rfl (fun c222_5 => ?_) (fun c222_5 => ?_)
            · refine g_aloadN X13 B ma_d225 (pc' := 226) rfl (v := (.ref o0)) rfl rfl ?_
              refine g_iconst X13 B ma_d226 (pc' := 227) rfl (v := (3 : Int32)) (by decide) ?_
              refine g_virtual X13 B hh13 0 tt1 (y := (⟨"java/lang/String", "charAt", "(I)C"⟩ : MethodName)) (argsL := [(.int (3 : Int32))]) (rest := []) (a := o0) (B.w 208 rfl) (B.w 209 rfl) (B.w 211 rfl) (B.w 210 rfl) (B.w 67 rfl) (B.w 212 rfl) (by decide) (sx_met l Z a0 B.2.2.1 [] h o0 (3 : Int32) t cs 3 vf z tt1 tt2 tt3 tt4 (by decide) (by rw [hc]; simp) hrg S3 hv S0 hz) (by decide) (by decide) (by decide) (by decide) rfl (lenOf own_pd23 rfl) rfl (Nat.le_of_eq rfl) ma_d227 (pc' := 230) rfl (fun T14 v14 L14 X14 Q14 => ?_)
              obtain ⟨rfl, hh14, rfl⟩ := Q14
              rw [List.append_nil] at X14
              show Go p e below s _ _ _ (T14.setTop (mkF m 230 #[.val (.ref o0), .val (.long j1), .second, .val (.long jw), .second, .val (.int i5f)] [(.int (cs.getD 3 0))]))
              refine g_bipush X14 B ma_d230 (pc' := 232) rfl (v := (46 : Int32)) (by decide) ?_
              refine g_icmp_ne X14 B ma_d232 (pcT := 249) (pcF := 235) (by decide) rfl rfl (fun c232_6 => ?_) (fun c232_6 => ?_)
              · refine g_aloadN X14 B ma_d235 (pc' := 236) rfl (v := (.ref o0)) rfl rfl ?_
                refine g_iconst X14 B ma_d236 (pc' := 237) rfl (v := (4 : Int32)) (by decide) ?_
                refine g_virtual X14 B hh14 0 tt1 (y := (⟨"java/lang/String", "charAt", "(I)C"⟩ : MethodName)) (argsL := [(.int (4 : Int32))]) (rest := []) (a := o0) (B.w 208 rfl) (B.w 209 rfl) (B.w 211 rfl) (B.w 210 rfl) (B.w 67 rfl) (B.w 212 rfl) (by decide) (sx_met l Z a0 B.2.2.1 [] h o0 (4 : Int32) t cs 4 vf z tt1 tt2 tt3 tt4 (by decide) (by rw [hc]; simp) hrg S3 hv S0 hz) (by decide) (by decide) (by decide) (by decide) rfl (lenOf own_pd23 rfl) rfl (Nat.le_of_eq rfl) ma_d237 (pc' := 240) rfl (fun T15 v15 L15 X15 Q15 => ?_)
                obtain ⟨rfl, hh15, rfl⟩ := Q15
                rw [List.append_nil] at X15
                show Go p e below s _ _ _ (T15.setTop (mkF m 240 #[.val (.ref o0), .val (.long j1), .second, .val (.long jw), .second, .val (.int i5f)] [(.int (cs.getD 4 0))]))
                refine g_iload X15 B ma_d240 (pc' := 242) rfl (v := i5f) rfl ?_
                refine g_icmp_ne X15 B ma_d242 (pcT := 249) (pcF := 245) (by decide) rfl rfl (fun c242_7 => ?_) (fun c242_7 => ?_)
                · refine g_iconst X15 B ma_d245 (pc' := 246) rfl (v := (1 : Int32)) (by decide) ?_
                  refine g_goto X15 B ma_d246 (pc' := 250) (by decide) rfl ?_
                  exact g_retN X15 B (t := .boolean) rfl (by simp) ma_d250 (by decide) (by decide) ⟨congrArg (fun z => some (Value.int z)) (by decide : nar .boolean (1 : Int32) = 1), hh15, rfl⟩
                · exact absurd (by rw [hc]; exact h5.symm) c242_7
              · exact absurd (by rw [hc]; exact rfl) c232_6
            · exact absurd (by rw [hc]; exact (own_dch (own_lm hw rfl) (by omega)).symm) c222_5
          · exact absurd (by rw [hc]; exact (own_dch (own_lm (own_ld hw rfl (by decide)) rfl) (by omega)).symm) c203_4
        · exact absurd (by rw [hc]; exact (own_dch (own_ld hw rfl (by decide)) (by omega)).symm) c180_3
      · exact absurd (by rw [hc]; exact rfl) c161_2
theorem ma_met (l : Launch) (Z : State) (a0 : Array Value) (hw : ∀ d ∈ tables_1, d.before a0 Z = true) (ws : List Jvm.Cond) (h : Heap) (o0 : Addr) (j1 : Int64) (t : Addr) (cs : List Int32) (tn : Nat) (vf : Value) (z : Int32) (tt1 : Exa Z h o0 "java/lang/String") (tt2 : Fld Z h o0 "java/lang/String" "value" "[B" (.ref t)) (tt3 : Fld Z h o0 "java/lang/String" "coder" "B" (.int (0 : Int32))) (tt4 : Ax Z h t .byte cs.length (own_v cs)) (hcs : cs = own_fm tn) (ht : j1.toInt = (tn : Int)) (htn : tn < 10000) (S3 : Sta Z h "jdk/internal/util/Preconditions" "SIOOBE_FORMATTER" "Ljava/util/function/BiFunction;" vf) (hv : vf.isRef = true) (S0 : Sta Z h "java/lang/String" "COMPACT_STRINGS" "Z" (.int z)) (hz : ¬ z = 0) :
    Met l Z (⟨"com/example/measured_grab/measuredgrab/bench/LatenciesAddPinLaw", "matches", "(Ljava/lang/String;J)Z"⟩ : MethodName) method_3_code 6 (some .boolean) ws (⟨4, 0, 0, 60⟩ : Room) #[(.ref o0), (.long j1)] h (PQ (some (.int (1 : Int32))) h []) :=
  met_of own_pn_ma hw fun p e s m below meth c T X B eT => Go.top (own_ef_ma m o0 j1) (ma_go X B eT o0 j1 t cs tn vf z tt1 tt2 tt3 tt4 hcs ht htn S3 hv S0 hz)
theorem own_wS {a0 : Array Value} {Z : State} (hw : ∀ d ∈ tables_1, d.before a0 Z = true) : ∀ a ∈ Bundle.stringAtoms, a.before a0 Z = true := fun a ha => hw a ((by decide +kernel : ∀ d ∈ Bundle.stringAtoms, d ∈ tables_1) a ha)
theorem own_B.ext {Z : State} {h h' : Heap} {b da : Addr} {cs : List Int32} (H : own_B Z h b da cs) (E : Ext h h') : own_B Z h' b da cs := by
  obtain ⟨h1, h2, h3, h4, w, h5, h6⟩ := H
  exact ⟨h1.ext E, h2.ext E, h3.ext E, h4.ext E, w, h5.ext E, h6⟩
theorem own_Blt {Z : State} {h : Heap} {b da : Addr} {cs : List Int32} (H : own_B Z h b da cs) : da < h.size := by
  obtain ⟨h1, h2, h3, h4, w, h5, h6⟩ := H
  exact h5.lt
theorem own_safe {Z : State} {EL : List (String × Nat)} {vm : Vm} {h h0 : Heap} {ws : List Addr} {x : Addr} (K : Keep h0 h ws) (hs : ∀ x ∈ ws, Safe Z EL vm h0 x) (H : CHv Z EL vm h0) (hx : h0.size ≤ x) : Safe Z EL vm h x := fun B => Safe.new hx ((H.keepStep K hs).2 _ B)
theorem own_safe2 {Z : State} {EL : List (String × Nat)} {vm : Vm} {h : Heap} {a fa : Addr} {C : String} {ty : FieldType} {n : Nat} {w : Nat → Value} (hal : Z.vm.Alike vm) (E : Exa Z h a C) (h1 : C ≠ "java/lang/String") (h2 : C ≠ "[B") (A : Ax Z h fa ty n w) (ht : ty ≠ .byte) : ∀ x ∈ [a, fa], Safe Z EL vm h x := fun x hx => by
  simp only [List.mem_cons, List.not_mem_nil, or_false] at hx
  rcases hx with rfl | rfl
  · exact Safe.exa hal E h1 h2
  · obtain ⟨-, c, A, -⟩ := A
    exact Safe.arr hal A ht
theorem own_lit {Z : State} {h : Heap} {b : Addr} {kb : ClassId} (A : Arv Z h b kb .byte (1 : Int32) [.int 46] (.int 0)) : Ax Z h b .byte ([46] : List Int32).length (own_v [46]) := by
  obtain ⟨c, A1, -, r2, -, H, -⟩ := A
  have r3 : c.slots.size = 1 := r2
  refine ⟨by decide, c, A1, r3, fun j hj => ?_⟩
  have e : j = 0 := by have : j < 1 := hj; omega
  subst e
  exact H 0 (by omega)
def own_pk (i : Int32) (lo md hi : Int64) : Int64 := if (33 : Int32) < i then (if (66 : Int32) < i then hi else md) else lo
theorem own_rk (i : Int32) (h1 : 1 ≤ i.toInt) (h2 : i.toInt ≤ 100) :
    ((mx_f0 (1 : Int64) (((i.toInt64 * (3 : Int32).toInt64) + (99 : Int64)) / (100 : Int64))).toInt32 = 1 ∧ ∀ lo md hi, own_pk i lo md hi = lo) ∨
    ((mx_f0 (1 : Int64) (((i.toInt64 * (3 : Int32).toInt64) + (99 : Int64)) / (100 : Int64))).toInt32 = 2 ∧ ∀ lo md hi, own_pk i lo md hi = md) ∨
    ((mx_f0 (1 : Int64) (((i.toInt64 * (3 : Int32).toInt64) + (99 : Int64)) / (100 : Int64))).toInt32 = 3 ∧ ∀ lo md hi, own_pk i lo md hi = hi) := by
  have e0 := c_i2l i
  have e1 := c_lmul i.toInt64 (3 : Int32).toInt64
  have e2 : ((3 : Int32).toInt64).toInt = 3 := rfl
  rw [e2] at e1
  have e3 := c_ladd (i.toInt64 * (3 : Int32).toInt64) 99
  have e4 : (99 : Int64).toInt = 99 := rfl
  generalize i.toInt64 * (3 : Int32).toInt64 = a at *
  have r1 := a.toInt_lt; have r2 := a.le_toInt
  have r3 := (a + 99).toInt_lt; have r4 := (a + 99).le_toInt
  have q : (a + 99).toInt = 3 * i.toInt + 99 := by omega
  have e5 := c_ldiv (a + 99) 100 100 rfl (by decide)
  have q2 := e5.1 (by omega)
  generalize (a + 99) / 100 = d at *
  have e6 := own_mxI 1 d
  have e7 : (1 : Int64).toInt = 1 := rfl
  generalize mx_f0 1 d = m at *
  have e8 := c_l2i m
  have r5 := m.toInt32.toInt_lt; have r6 := m.toInt32.le_toInt
  have k1 : (1 : Int32).toInt = 1 := rfl
  have k2 : (2 : Int32).toInt = 2 := rfl
  have k3 : (3 : Int32).toInt = 3 := rfl
  have k33 : (33 : Int32).toInt = 33 := rfl
  have k66 : (66 : Int32).toInt = 66 := rfl
  have m1 : 1 ≤ m.toInt ∧ m.toInt ≤ 3 := by omega
  have m2 : m.toInt32.toInt = m.toInt := by omega
  clear e8 r5 r6 e3 r1 r2 r3 r4
  by_cases c1 : (33 : Int32) < i
  · by_cases c2 : (66 : Int32) < i
    · refine Or.inr (Or.inr ⟨?_, fun lo md hi => by unfold own_pk; rw [if_pos c1, if_pos c2]⟩)
      rw [Int32.lt_iff_toInt_lt] at c1 c2
      rw [← Int32.toInt_inj]; omega
    · refine Or.inr (Or.inl ⟨?_, fun lo md hi => by unfold own_pk; rw [if_pos c1, if_neg c2]⟩)
      rw [Int32.lt_iff_toInt_lt] at c1 c2
      rw [← Int32.toInt_inj]; omega
  · refine Or.inl ⟨?_, fun lo md hi => by unfold own_pk; rw [if_neg c1]⟩
    rw [Int32.lt_iff_toInt_lt] at c1
    rw [← Int32.toInt_inj]; omega
theorem own_nn3 {x y z : Int64} (hx : 0 ≤ x.toInt) (hy : 0 ≤ y.toInt) (hz : 0 ≤ z.toInt) : 0 ≤ (own_lo x y z).toInt ∧ 0 ≤ (own_md x y z).toInt ∧ 0 ≤ (own_hi x y z).toInt := by
  have i1 := own_mnI x y; have i2 := own_mnI (mi_f0 x y) z; have i3 := own_mxI x y; have i4 := own_mxI (mx_f0 x y) z; have i5 := own_mnI (mx_f0 x y) z; have i6 := own_mxI (mi_f0 x y) (mi_f0 (mx_f0 x y) z)
  unfold own_lo own_md own_hi
  omega
theorem pq_d0 : decode prog_4_method_3_code 0 = .ok (.aload_n 0, 1) := by decide +kernel
theorem pq_d1 : decode prog_4_method_3_code 1 = .ok (.getfield 17, 3) := by decide +kernel
theorem pq_d4 : decode prog_4_method_3_code 4 = .ok (.ifCond .ne 6, 3) := by decide +kernel
theorem pq_d10 : decode prog_4_method_3_code 10 = .ok (.aload_n 0, 1) := by decide +kernel
theorem pq_d11 : decode prog_4_method_3_code 11 = .ok (.getfield 7, 3) := by decide +kernel
theorem pq_d14 : decode prog_4_method_3_code 14 = .ok (.ifCond .ne 20, 3) := by decide +kernel
theorem pq_d17 : decode prog_4_method_3_code 17 = .ok (.aload_n 0, 1) := by decide +kernel
theorem pq_d18 : decode prog_4_method_3_code 18 = .ok (.getfield 13, 3) := by decide +kernel
theorem pq_d21 : decode prog_4_method_3_code 21 = .ok (.iconst 0, 1) := by decide +kernel
theorem pq_d22 : decode prog_4_method_3_code 22 = .ok (.aload_n 0, 1) := by decide +kernel
theorem pq_d23 : decode prog_4_method_3_code 23 = .ok (.getfield 17, 3) := by decide +kernel
theorem pq_d26 : decode prog_4_method_3_code 26 = .ok (.invokestatic 23, 3) := by decide +kernel
theorem pq_d29 : decode prog_4_method_3_code 29 = .ok (.aload_n 0, 1) := by decide +kernel
theorem pq_d30 : decode prog_4_method_3_code 30 = .ok (.iconst 1, 1) := by decide +kernel
theorem pq_d31 : decode prog_4_method_3_code 31 = .ok (.putfield 7, 3) := by decide +kernel
theorem pq_d34 : decode prog_4_method_3_code 34 = .ok (.lconst 1, 1) := by decide +kernel
theorem pq_d35 : decode prog_4_method_3_code 35 = .ok (.iload_n 1, 1) := by decide +kernel
theorem pq_d36 : decode prog_4_method_3_code 36 = .ok (.i2l, 1) := by decide +kernel
theorem pq_d37 : decode prog_4_method_3_code 37 = .ok (.aload_n 0, 1) := by decide +kernel
theorem pq_d38 : decode prog_4_method_3_code 38 = .ok (.getfield 17, 3) := by decide +kernel
theorem pq_d41 : decode prog_4_method_3_code 41 = .ok (.i2l, 1) := by decide +kernel
theorem pq_d42 : decode prog_4_method_3_code 42 = .ok (.lmul, 1) := by decide +kernel
theorem pq_d43 : decode prog_4_method_3_code 43 = .ok (.ldc2_w 29, 3) := by decide +kernel
theorem pq_d46 : decode prog_4_method_3_code 46 = .ok (.ladd, 1) := by decide +kernel
theorem pq_d47 : decode prog_4_method_3_code 47 = .ok (.ldc2_w 31, 3) := by decide +kernel
theorem pq_d50 : decode prog_4_method_3_code 50 = .ok (.ldiv, 1) := by decide +kernel
theorem pq_d51 : decode prog_4_method_3_code 51 = .ok (.invokestatic 33, 3) := by decide +kernel
theorem pq_d54 : decode prog_4_method_3_code 54 = .ok (.l2i, 1) := by decide +kernel
theorem pq_d55 : decode prog_4_method_3_code 55 = .ok (.istore_n 2, 1) := by decide +kernel
theorem pq_d56 : decode prog_4_method_3_code 56 = .ok (.aload_n 0, 1) := by decide +kernel
theorem pq_d57 : decode prog_4_method_3_code 57 = .ok (.getfield 13, 3) := by decide +kernel
theorem pq_d60 : decode prog_4_method_3_code 60 = .ok (.iload_n 2, 1) := by decide +kernel
theorem pq_d61 : decode prog_4_method_3_code 61 = .ok (.iconst 1, 1) := by decide +kernel
theorem pq_d62 : decode prog_4_method_3_code 62 = .ok (.isub, 1) := by decide +kernel
theorem pq_d63 : decode prog_4_method_3_code 63 = .ok (.laload, 1) := by decide +kernel
theorem pq_d64 : decode prog_4_method_3_code 64 = .ok (.ldc2_w 39, 3) := by decide +kernel
theorem pq_d67 : decode prog_4_method_3_code 67 = .ok (.ldiv, 1) := by decide +kernel
theorem pq_d68 : decode prog_4_method_3_code 68 = .ok (.lstore_n 3, 1) := by decide +kernel
theorem pq_d69 : decode prog_4_method_3_code 69 = .ok (.new 41, 3) := by decide +kernel
theorem pq_d72 : decode prog_4_method_3_code 72 = .ok (.dup, 1) := by decide +kernel
theorem pq_d73 : decode prog_4_method_3_code 73 = .ok (.invokespecial 43, 3) := by decide +kernel
theorem pq_d76 : decode prog_4_method_3_code 76 = .ok (.lload_n 3, 1) := by decide +kernel
theorem pq_d77 : decode prog_4_method_3_code 77 = .ok (.ldc2_w 44, 3) := by decide +kernel
theorem pq_d80 : decode prog_4_method_3_code 80 = .ok (.ldiv, 1) := by decide +kernel
theorem pq_d81 : decode prog_4_method_3_code 81 = .ok (.invokevirtual 46, 3) := by decide +kernel
theorem pq_d84 : decode prog_4_method_3_code 84 = .ok (.ldc 50, 2) := by decide +kernel
theorem pq_d86 : decode prog_4_method_3_code 86 = .ok (.invokevirtual 52, 3) := by decide +kernel
theorem pq_d89 : decode prog_4_method_3_code 89 = .ok (.lload_n 3, 1) := by decide +kernel
theorem pq_d90 : decode prog_4_method_3_code 90 = .ok (.ldc2_w 44, 3) := by decide +kernel
theorem pq_d93 : decode prog_4_method_3_code 93 = .ok (.lrem, 1) := by decide +kernel
theorem pq_d94 : decode prog_4_method_3_code 94 = .ok (.invokevirtual 46, 3) := by decide +kernel
theorem pq_d97 : decode prog_4_method_3_code 97 = .ok (.invokevirtual 55, 3) := by decide +kernel
theorem pq_d100 : decode prog_4_method_3_code 100 = .ok (.areturn, 1) := by decide +kernel
set_option maxRecDepth 65536 in
set_option maxHeartbeats 40000000 in
theorem pqB {p : Program} {l : Launch} {e : Env} {s : State} {m : MethodId} {args : Array Value} {below : List Frame} {meth : Method} {c : Code} {T : State} {Z : State} {a0 : Array Value} {h : Heap} {locs : List Loc} (X : Stand p l e (⟨6, 6, 48, 104⟩ : Room) s m args below meth c T locs 4 28) (B : Bdy p s m meth c Z a0 "com/example/measured_grab/measuredgrab/bench/Latencies" "percentile" prog_4_method_3_code 5 (some (.object "java/lang/String")) tables_1) (eT : T.heap = h) (n0 : Nat) (Zs : n0 ≤ h.size) (N : Fr n0 locs) (o0 : Addr) (i1 : Int32) (i2 : Int32) (j3 : Int64) (b0 : Addr) (b1 : Addr) (da : Addr) (t : Addr) (fa : Addr) (tn : Nat) (z : Int32) (a1 : Addr) (a2 : Addr) (h0 : Heap) (vm1 : Vm) (hn0 : Z.heap.size ≤ n0) (hO : Ext Z.heap h) (S0 : Sta Z Z.heap "java/lang/String" "COMPACT_STRINGS" "Z" (.int z)) (hz : ¬ z = 0) (S1 : Sta Z Z.heap "java/lang/Integer" "DigitOnes" "[B" (.ref a1)) (S2 : Sta Z Z.heap "java/lang/Integer" "DigitTens" "[B" (.ref a2)) (Da1 : Ax Z Z.heap a1 .byte 100 own_d1) (Da2 : Ax Z Z.heap a2 .byte 100 own_d2) (gb : n0 ≤ b1) (gd : n0 ≤ da) (nbd : b1 ≠ da) (hB : own_B Z h b1 da ([] ++ own_ds (tn / 10))) (tt1 : Exa Z h b0 "java/lang/String") (tt2 : Fld Z h b0 "java/lang/String" "value" "[B" (.ref t)) (tt3 : Fld Z h b0 "java/lang/String" "coder" "B" (.int (0 : Int32))) (tt4 : Ax Z h t .byte ([46] : List Int32).length (own_v ([46] : List Int32))) (nt : t ≠ da) (nx : b0 ≠ da) (nt0 : t ≠ b1) (nx0 : b0 ≠ b1) (htn : j3.toInt = (tn : Int)) (hl1 : (own_ds (tn / 10)).length ≤ 13) (hl2 : (own_ds (tn % 10)).length ≤ 1) (KK : Keep h0 h [o0, fa]) (Hb : h0.size ≤ b1) (Hd : h0.size ≤ da) (hsf : ∀ x ∈ [b1, da], Safe Z consts_1 vm1 h x) :
    Go p e below s 6 48 (fun v h2 L => (∃ o t, v = some (.ref o) ∧ Fr n0 L ∧ Keep h0 h2 [o0, fa] ∧ h0.size ≤ o ∧ h0.size ≤ t ∧ own_T Z h2 o t (own_fm tn)) ∧ ∃ ws, Keep h h2 ws ∧ ∀ x ∈ ws, Safe Z consts_1 vm1 h x) (T.setTop (mkF m 86 #[.val (.ref o0), .val (.int i1), .val (.int i2), .val (.long j3), .second] [(.ref b0), (.ref b1)])) := by
  have hEb := hB.1
  have K := Keep.refl h [b1, da]
  refine g_virtual X B eT 0 hEb (y := (⟨"java/lang/StringBuilder", "append", "(Ljava/lang/String;)Ljava/lang/StringBuilder;"⟩ : MethodName)) (argsL := [(.ref b0)]) (rest := []) (a := b1) (B.w 113 rfl) (B.w 114 rfl) (B.w 116 rfl) (B.w 115 rfl) (B.w 55 rfl) (B.w 117 rfl) (by decide) (bs_met l Z a0 B.2.2.1 [] h b1 b0 da ([] ++ own_ds (tn / 10)) t [46] z n0 Zs gb gd nbd hB tt1 tt2 tt3 tt4 (own_fv (by intro c hc; cases List.mem_singleton.mp hc; exact ⟨by decide, by decide⟩)) nt nx nt0 nx0 (by simp only [List.length_append, List.length_nil, List.length_cons]; omega) hn0 hO S0 hz) (by decide) (by decide) (by decide) (by decide) rfl (lenOf own_pd24 rfl) rfl (Nat.le_of_eq rfl) pq_d86 (pc' := 89) rfl (fun T1 v1 L1 X1 Q1 => ?_)
  obtain ⟨rfl, Nq1, Kq1, Bq1⟩ := Q1
  have N1 := Fr.app N Nq1
  have E_b1_1 := hEb.keep Kq1
  have Zs_1 := Nat.le_trans Zs Kq1.1
  have O_1 := own_old_keep hO Kq1 (by intro x hx; simp only [List.mem_cons, List.not_mem_nil, or_false] at hx; rcases hx with rfl | rfl <;> first | exact Nat.le_trans hn0 gb | exact Nat.le_trans hn0 gd)
  have K_1 := K.trans Kq1 (by intro x hx; simp only [List.mem_cons, List.not_mem_nil, or_false] at hx; rcases hx with rfl | rfl <;> first | exact Or.inl (List.mem_of_getElem? (i := 0) rfl) | exact Or.inl (List.mem_of_getElem? (i := 1) rfl))
  have Eq1 := Bq1.1
  show GoX p e below _ _ (T1.setTop (mkF m 89 #[.val (.ref o0), .val (.int i1), .val (.int i2), .val (.long j3), .second] [(.ref b1)]))
  refine g_lloadN X1 B pq_d89 (pc' := 90) rfl (v := j3) rfl ?_
  refine g_ldc2 X1 B (B.w 73 rfl) pq_d90 (pc' := 93) rfl ?_
  refine g_lrem X1 B (by decide) pq_d93 (pc' := 94) rfl ?_
  refine g_virtual X1 B rfl 0 Eq1 (y := (⟨"java/lang/StringBuilder", "append", "(J)Ljava/lang/StringBuilder;"⟩ : MethodName)) (argsL := [(.long (j3 % (10 : Int64)))]) (rest := []) (a := b1) (B.w 74 rfl) (B.w 75 rfl) (B.w 77 rfl) (B.w 76 rfl) (B.w 55 rfl) (B.w 78 rfl) (by decide) (bj_met l Z a0 B.2.2.1 [] T1.heap b1 (j3 % (10 : Int64)) da (([] ++ own_ds (tn / 10)) ++ [46]) (tn % 10) z a1 a2 n0 Zs_1 gb gd nbd Bq1 (own_lm htn rfl) (by omega) (by simp only [List.length_append, List.length_nil, List.length_cons]; omega) hn0 O_1 S0 hz S1 S2 Da1 Da2) (by decide) (by decide) (by decide) (by decide) rfl (lenOf own_pd25 rfl) rfl (Nat.le_of_eq rfl) pq_d94 (pc' := 97) rfl (fun T2 v2 L2 X2 Q2 => ?_)
  obtain ⟨rfl, Nq2, Kq2, Bq2⟩ := Q2
  have N2 := Fr.app N1 Nq2
  have E_b1_2 := Eq1.keep Kq2
  have Zs_2 := Nat.le_trans Zs_1 Kq2.1
  have O_2 := own_old_keep O_1 Kq2 (by intro x hx; simp only [List.mem_cons, List.not_mem_nil, or_false] at hx; rcases hx with rfl | rfl <;> first | exact Nat.le_trans hn0 gb | exact Nat.le_trans hn0 gd)
  have K_2 := K_1.trans Kq2 (by intro x hx; simp only [List.mem_cons, List.not_mem_nil, or_false] at hx; rcases hx with rfl | rfl <;> first | exact Or.inl (List.mem_of_getElem? (i := 0) rfl) | exact Or.inl (List.mem_of_getElem? (i := 1) rfl))
  have Eq2 := Bq2.1
  show GoX p e below _ _ (T2.setTop (mkF m 97 #[.val (.ref o0), .val (.int i1), .val (.int i2), .val (.long j3), .second] [(.ref b1)]))
  refine g_virtual X2 B rfl 0 Eq2 (y := (⟨"java/lang/StringBuilder", "toString", "()Ljava/lang/String;"⟩ : MethodName)) (argsL := []) (rest := []) (a := b1) (B.w 155 rfl) (B.w 156 rfl) (B.w 158 rfl) (B.w 157 rfl) (B.w 55 rfl) (B.w 159 rfl) (by decide) (ts_met l Z a0 B.2.2.1 [] T2.heap b1 da ((([] ++ own_ds (tn / 10)) ++ [46]) ++ own_ds (tn % 10)) z n0 Zs_2 Bq2 (by simp only [List.length_append, List.length_nil, List.length_cons]; omega) hn0 O_2 S0 hz) (by decide) (by decide) (by decide) (by decide) rfl (lenOf own_pd26 rfl) rfl (Nat.le_of_eq rfl) pq_d97 (pc' := 100) rfl (fun T3 v3 L3 X3 Q3 => ?_)
  obtain ⟨oo, tq, rfl, Nq3, Kq3, go3, gt3, Tq3⟩ := Q3
  have N3 := Fr.app N2 Nq3
  have Ho3 := Nat.le_trans K_2.1 go3
  have Ht3 := Nat.le_trans K_2.1 gt3
  have E_b1_3 := Eq2.keep Kq3
  have Zs_3 := Nat.le_trans Zs_2 Kq3.1
  have O_3 := own_old_keep O_2 Kq3 (by intro x hx; cases hx)
  have K_3 := K_2.trans Kq3 (by intro x hx; cases hx)
  show GoX p e below _ _ (T3.setTop (mkF m 100 #[.val (.ref o0), .val (.int i1), .val (.int i2), .val (.long j3), .second] [(.ref oo)]))
  exact g_retA X3 B rfl rfl rfl rfl pq_d100 (by decide) (by decide) ⟨⟨oo, tq, rfl, N3, KK.trans K_3 (by intro x hx; simp only [List.mem_cons, List.not_mem_nil, or_false] at hx; rcases hx with rfl | rfl <;> first | exact Or.inr Hb | exact Or.inr Hd), Nat.le_trans KK.1 Ho3, Nat.le_trans KK.1 Ht3, Tq3⟩, [b1, da], K_3, hsf⟩
set_option maxRecDepth 65536 in
set_option maxHeartbeats 40000000 in
theorem pqA {p : Program} {l : Launch} {e : Env} {s : State} {m : MethodId} {args : Array Value} {below : List Frame} {meth : Method} {c : Code} {T : State} {Z : State} {a0 : Array Value} {h : Heap} {locs : List Loc} (X : Stand p l e (⟨6, 6, 48, 104⟩ : Room) s m args below meth c T locs 0 0) (B : Bdy p s m meth c Z a0 "com/example/measured_grab/measuredgrab/bench/Latencies" "percentile" prog_4_method_3_code 5 (some (.object "java/lang/String")) tables_1) (eT : T.heap = h) (n0 : Nat) (Zs : n0 ≤ h.size) (N : Fr n0 locs) (o0 : Addr) (i1 : Int32) (i2 : Int32) (u0 : Int64) (fa : Addr) (vn : Nat) (z : Int32) (a1 : Addr) (a2 : Addr) (h0 : Heap) (hn0 : Z.heap.size ≤ n0) (hO : Ext Z.heap h) (S0 : Sta Z Z.heap "java/lang/String" "COMPACT_STRINGS" "Z" (.int z)) (hz : ¬ z = 0) (S1 : Sta Z Z.heap "java/lang/Integer" "DigitOnes" "[B" (.ref a1)) (S2 : Sta Z Z.heap "java/lang/Integer" "DigitTens" "[B" (.ref a2)) (Da1 : Ax Z Z.heap a1 .byte 100 own_d1) (Da2 : Ax Z Z.heap a2 .byte 100 own_d2) (hval : u0.toInt = (vn : Int)) (KK : Keep h0 h [o0, fa]) (hs0 : ∀ x ∈ [o0, fa], Safe Z consts_1 s.vm h0 x) (HC : CHv Z consts_1 s.vm h0) (hsh : s.heap = h0) (hEL : EW Z a0 consts_1) :
    GoW p e below Z consts_1 s 6 48 (fun v h2 L => ∃ o t, v = some (.ref o) ∧ Fr n0 L ∧ Keep h0 h2 [o0, fa] ∧ h0.size ≤ o ∧ h0.size ≤ t ∧ own_T Z h2 o t (own_fm (vn / 100000))) (T.setTop (mkF m 64 #[.val (.ref o0), .val (.int i1), .val (.int i2), .unset, .unset] [(.long u0)])) := by
  refine g_ldc2 X B (B.w 52 rfl) pq_d64 (pc' := 67) rfl ?_
  refine g_ldiv X B (by decide) pq_d67 (pc' := 68) rfl ?_
  refine g_lstoreN X B pq_d68 (pc' := 69) rfl (Ls' := #[.val (.ref o0), .val (.int i1), .val (.int i2), .val (.long (u0 / (100000 : Int64))), .second]) rfl ?_
  obtain ⟨jt, g_jt⟩ : ∃ z, z = (u0 / (100000 : Int64)) := ⟨_, rfl⟩
  rw [← g_jt]
  have ht : jt.toInt = ((vn / 100000 : Nat) : Int) := by rw [g_jt]; exact own_ld hval rfl (by decide)
  refine g_new X B (B.w 53 rfl) (B.w 54 rfl) (B.w 55 rfl) eT pq_d69 (pc' := 72) rfl (by decide) (by decide) (fun T1 h1 ob1 q1 X1 e1 E1 A1 D1 => ?_)
  have G_ob1 : n0 ≤ ob1 := by rw [q1]; exact Zs
  have H_ob1 : h0.size ≤ ob1 := by rw [q1]; exact KK.1
  have Zs_1 := Nat.le_trans Zs E1.1
  have O_1 := own_old_ext hO E1
  have K_1 := KK.ext E1
  have F_ob1_value : Fld Z h1 ob1 "java/lang/AbstractStringBuilder" "value" "[B" .null := D1 (Or.inl (B.w 70 rfl)) (ty := (.array .byte)) (by decide)
  have F_ob1_coder : Fld Z h1 ob1 "java/lang/AbstractStringBuilder" "coder" "B" (.int (0 : Int32)) := D1 (Or.inl (B.w 72 rfl)) (ty := .byte) (by decide)
  have F_ob1_count : Fld Z h1 ob1 "java/lang/AbstractStringBuilder" "count" "I" (.int (0 : Int32)) := D1 (Or.inl (B.w 85 rfl)) (ty := .int) (by decide)
  refine g_dup X1 B pq_d72 (pc' := 73) rfl rfl ?_
  refine g_special X1 B e1 1 (y := (⟨"java/lang/StringBuilder", "<init>", "()V"⟩ : MethodName)) (argsL := []) (rest := [(.ref ob1)]) (a := ob1) rfl (B.w 56 rfl) (B.w 57 rfl) (B.w 55 rfl) (B.w 58 rfl) (by decide) (bi_met l Z a0 B.2.2.1 [] h1 ob1 z n0 Zs_1 A1 G_ob1 F_ob1_value F_ob1_coder F_ob1_count hn0 O_1 S0 hz) (by decide) (by decide) (by decide) (by decide) rfl (lenOf own_pd27 rfl) rfl (Nat.le_of_eq rfl) pq_d73 (pc' := 76) rfl (fun T2 v2 L2 X2 Q2 => ?_)
  obtain ⟨da, rfl, Nq2, Kq2, nbd, gq2, Bq2⟩ := Q2
  have N2 := Fr.app N Nq2
  have Hd := Nat.le_trans K_1.1 gq2
  have gd := Nat.le_trans Zs_1 gq2
  have gb := G_ob1
  have Hb := H_ob1
  have E_ob1_2 := A1.keep Kq2
  have Zs_2 := Nat.le_trans Zs_1 Kq2.1
  have O_2 := own_old_keep O_1 Kq2 (by intro x hx; simp only [List.mem_cons, List.not_mem_nil, or_false] at hx; subst hx; exact Nat.le_trans hn0 G_ob1)
  have K_2 := K_1.trans Kq2 (by intro x hx; simp only [List.mem_cons, List.not_mem_nil, or_false] at hx; subst hx; exact Or.inr H_ob1)
  show GoX p e below _ _ (T2.setTop (mkF m 76 #[.val (.ref o0), .val (.int i1), .val (.int i2), .val (.long jt), .second] [(.ref ob1)]))
  refine g_lloadN X2 B pq_d76 (pc' := 77) rfl (v := jt) rfl ?_
  refine g_ldc2 X2 B (B.w 73 rfl) pq_d77 (pc' := 80) rfl ?_
  refine g_ldiv X2 B (by decide) pq_d80 (pc' := 81) rfl ?_
  refine g_virtual X2 B rfl 0 E_ob1_2 (y := (⟨"java/lang/StringBuilder", "append", "(J)Ljava/lang/StringBuilder;"⟩ : MethodName)) (argsL := [(.long (jt / (10 : Int64)))]) (rest := []) (a := ob1) (B.w 74 rfl) (B.w 75 rfl) (B.w 77 rfl) (B.w 76 rfl) (B.w 55 rfl) (B.w 78 rfl) (by decide) (bj_met l Z a0 B.2.2.1 [] T2.heap ob1 (jt / (10 : Int64)) da [] (vn / 100000 / 10) z a1 a2 n0 Zs_2 gb gd nbd Bq2 (own_ld ht rfl (by decide)) (by have := u0.toInt_lt; omega) (by have := own_dlB (vn / 100000 / 10) 13 (by decide) (by have := u0.toInt_lt; omega); simp only [List.length_nil]; omega) hn0 O_2 S0 hz S1 S2 Da1 Da2) (by decide) (by decide) (by decide) (by decide) rfl (lenOf own_pd25 rfl) rfl (Nat.le_of_eq rfl) pq_d81 (pc' := 84) rfl (fun T3 v3 L3 X3 Q3 => ?_)
  obtain ⟨rfl, Nq3, Kq3, Bq3⟩ := Q3
  have N3 := Fr.app N2 Nq3
  have E_ob1_3 := E_ob1_2.keep Kq3
  have Zs_3 := Nat.le_trans Zs_2 Kq3.1
  have O_3 := own_old_keep O_2 Kq3 (by intro x hx; simp only [List.mem_cons, List.not_mem_nil, or_false] at hx; rcases hx with rfl | rfl <;> first | exact Nat.le_trans hn0 G_ob1 | exact Nat.le_trans hn0 gd)
  have K_3 := K_2.trans Kq3 (by intro x hx; simp only [List.mem_cons, List.not_mem_nil, or_false] at hx; rcases hx with rfl | rfl <;> first | exact Or.inr H_ob1 | exact Or.inr Hd)
  have Eq3 := Bq3.1
  show GoX p e below _ _ (T3.setTop (mkF m 84 #[.val (.ref o0), .val (.int i1), .val (.int i2), .val (.long jt), .second] [(.ref ob1)]))
  have Hc4 := CHr.keep K_3 hs0 HC
  have hlt4 := own_Blt Bq3
  refine g_ldcW X3 B (index := 50) (text := ".") (vs := [.int 46]) (z := (1 : Int32)) 4 rfl Hc4.1 hEL (List.mem_singleton.mpr rfl) (B.w 107 rfl) (own_wS B.2.2.1) (by decide) (by decide) (by decide) pq_d84 (pc' := 86) rfl (by decide) (by decide) (by decide) (by decide) (fun lt lb T4 h4 k4 kb4 X4 B4 e4 E4 hS4 hk4 hW4 q1 q2 q3 q4 hC4 hne => ?_)
  have Bl := Bq3.ext E4
  have sfb : Safe Z consts_1 T4.vm h4 ob1 := Safe.exa hW4.alike Bl.1 (by decide) (by decide)
  have sfd : Safe Z consts_1 T4.vm h4 da := hC4.safe hlt4 (own_safe K_3 hs0 HC Hd)
  refine own_wide hS4 hk4 hW4 hEL (by rw [hsh]; exact Hc4.trans hC4) ?_
  exact pqB X4 B4 e4 n0 (Nat.le_trans Zs_3 E4.1) N3 (o0) (i1) (i2) (jt) lt ob1 da lb fa (vn / 100000) z a1 a2 h0 _ hn0 (own_old_ext O_3 E4) S0 hz S1 S2 Da1 Da2 gb gd nbd Bl q1 q3 q2 (own_lit q4) (Ne.symm (hne da sfd).2) (Ne.symm (hne da sfd).1) (Ne.symm (hne ob1 sfb).2) (Ne.symm (hne ob1 sfb).1) ht (own_dlB _ 13 (by decide) (by have := u0.toInt_lt; omega)) (own_dlB _ 1 (by decide) (by omega)) (K_3.ext E4) Hb Hd (by intro x hx; simp only [List.mem_cons, List.not_mem_nil, or_false] at hx; rcases hx with rfl | rfl <;> first | exact sfb | exact sfd)
theorem own_pn_pq3 : plainFor (⟨"com/example/measured_grab/measuredgrab/bench/Latencies", "percentile", "(I)Ljava/lang/String;"⟩ : MethodName) = true := plainFor_of_name (by first | (simp [plainName, overriddenIn]; done) | decide +kernel)
theorem own_ef_pq3 (m : MethodId) (o0 : Addr) (i1 : Int32) : entryFrame m #[(.ref o0), (.int i1)] 5 = (mkF m 0 #[.val (.ref o0), .val (.int i1), .unset, .unset, .unset] []) := by first | (simp [entryFrame, mkF, argsToLocals, Value.category]; done) | rfl
set_option maxRecDepth 65536 in
set_option maxHeartbeats 40000000 in
theorem pq3_go {p : Program} {l : Launch} {e : Env} {s : State} {m : MethodId} {args : Array Value} {below : List Frame} {meth : Method} {c : Code} {T : State} {Z : State} {a0 : Array Value} {h : Heap} (X : Stand p l e (⟨6, 6, 48, 104⟩ : Room) s m args below meth c T [] 0 0) (B : Bdy p s m meth c Z a0 "com/example/measured_grab/measuredgrab/bench/Latencies" "percentile" prog_4_method_3_code 5 (some (.object "java/lang/String")) tables_1) (eT : T.heap = h) (o0 : Addr) (i1 : Int32) (fa : Addr) (x : Int64) (y : Int64) (u : Int64) (z : Int32) (a1 : Addr) (a2 : Addr) (n0 : Nat) (Zs : n0 ≤ h.size) (hE : Exa Z h o0 "com/example/measured_grab/measuredgrab/bench/Latencies") (g0 : n0 ≤ o0) (ga : n0 ≤ fa) (noa : o0 ≠ fa) (hL : own_L Z h o0 fa 3 0 3 (own_g3 x y u)) (hi1 : 1 ≤ i1.toInt) (hi2 : i1.toInt ≤ 100) (hx : 0 ≤ x.toInt) (hy : 0 ≤ y.toInt) (hu : 0 ≤ u.toInt) (hn0 : Z.heap.size ≤ n0) (hO : Ext Z.heap h) (S0 : Sta Z Z.heap "java/lang/String" "COMPACT_STRINGS" "Z" (.int z)) (hz : ¬ z = 0) (S1 : Sta Z Z.heap "java/lang/Integer" "DigitOnes" "[B" (.ref a1)) (S2 : Sta Z Z.heap "java/lang/Integer" "DigitTens" "[B" (.ref a2)) (Da1 : Ax Z Z.heap a1 .byte 100 own_d1) (Da2 : Ax Z Z.heap a2 .byte 100 own_d2) (hEL : EW Z a0 consts_1) (hsh : s.heap = h) (HC : CHv Z consts_1 s.vm h) :
    GoW p e below Z consts_1 s 6 48 (fun v h2 L => ∃ o t, v = some (.ref o) ∧ Fr n0 L ∧ Keep h h2 [o0, fa] ∧ h.size ≤ o ∧ h.size ≤ t ∧ own_T Z h2 o t (own_fm ((own_pk i1 (own_lo x y u) (own_md x y u) (own_hi x y u)).toInt.toNat / 100000))) (T.setTop (mkF m 0 #[.val (.ref o0), .val (.int i1), .unset, .unset, .unset] [])) := by
  have N := Fr.nil n0
  have K := Keep.refl h [o0, fa]
  obtain ⟨Fn, Fc, Fs, Aw⟩ := hL
  have hs0 : ∀ x ∈ [o0, fa], Safe Z consts_1 s.vm h x := own_safe2 B.z.alike hE (by decide) (by decide) Aw (by decide)
  refine g_aloadN X B pq_d0 (pc' := 1) rfl (v := (.ref o0)) rfl rfl ?_
  refine g_getF X B (B.w 22 rfl) Via.refl eT Fc pq_d1 (pc' := 4) rfl (fun T1 X1 e1 => ?_)
  refine g_if_ne X1 B pq_d4 (pcT := 10) (pcF := 7) (by decide) rfl rfl (fun c4_0 => ?_) (fun c4_0 => ?_)
  · exact absurd c4_0 (by decide)
  · refine g_aloadN X1 B pq_d10 (pc' := 11) rfl (v := (.ref o0)) rfl rfl ?_
    refine g_getF X1 B (B.w 12 rfl) Via.refl e1 Fs pq_d11 (pc' := 14) rfl (fun T2 X2 e2 => ?_)
    refine g_if_ne X2 B pq_d14 (pcT := 34) (pcF := 17) (by decide) rfl rfl (fun c14_1 => ?_) (fun c14_1 => ?_)
    · refine g_aloadN X2 B pq_d17 (pc' := 18) rfl (v := (.ref o0)) rfl rfl ?_
      refine g_getF X2 B (B.w 15 rfl) Via.refl e2 Fn pq_d18 (pc' := 21) rfl (fun T3 X3 e3 => ?_)
      refine g_iconst X3 B pq_d21 (pc' := 22) rfl (v := (0 : Int32)) (by decide) ?_
      refine g_aloadN X3 B pq_d22 (pc' := 23) rfl (v := (.ref o0)) rfl rfl ?_
      refine g_getF X3 B (B.w 22 rfl) Via.refl e3 Fc pq_d23 (pc' := 26) rfl (fun T4 X4 e4 => ?_)
      refine g_callS X4 B e4 0 (y := (⟨"java/util/Arrays", "sort", "([JII)V"⟩ : MethodName)) (argsL := [(.ref fa), (.int (0 : Int32)), (.int (3 : Int32))]) (rest := []) (B.w 29 rfl) (B.w 30 rfl) (B.w 31 rfl) (B.w 32 rfl) (by decide) (so3_met l Z a0 B.2.2.1 [] h fa (0 : Int32) (3 : Int32) x y u n0 Zs ga Aw rfl rfl) (by decide) (by decide) (by decide) (by decide) rfl (lenOf own_pd0 rfl) rfl (Nat.le_of_eq rfl) pq_d26 (pc' := 29) rfl (fun T5 v5 L5 X5 Q5 => ?_)
      obtain ⟨rfl, Nq5, Kq5, Aq5⟩ := Q5
      have N5 := Fr.app N Nq5
      have E_o0_5 := hE.keep Kq5
      have F_o0_nanos_5 := Fn.keep Kq5 (by simp only [List.mem_cons, List.not_mem_nil, or_false, not_or]; exact noa)
      have F_o0_count_5 := Fc.keep Kq5 (by simp only [List.mem_cons, List.not_mem_nil, or_false, not_or]; exact noa)
      have F_o0_sorted_5 := Fs.keep Kq5 (by simp only [List.mem_cons, List.not_mem_nil, or_false, not_or]; exact noa)
      have Zs_5 := Nat.le_trans Zs Kq5.1
      have O_5 := own_old_keep hO Kq5 (by intro x hx; simp only [List.mem_cons, List.not_mem_nil, or_false] at hx; subst hx; exact Nat.le_trans hn0 ga)
      have K_5 := K.trans Kq5 (by intro x hx; simp only [List.mem_cons, List.not_mem_nil, or_false] at hx; subst hx; exact Or.inl (List.mem_of_getElem? (i := 1) rfl))
      show GoX p e below _ _ (T5.setTop (mkF m 29 #[.val (.ref o0), .val (.int i1), .unset, .unset, .unset] []))
      refine g_aloadN X5 B pq_d29 (pc' := 30) rfl (v := (.ref o0)) rfl rfl ?_
      refine g_iconst X5 B pq_d30 (pc' := 31) rfl (v := (1 : Int32)) (by decide) ?_
      refine g_putF X5 B (B.w 12 rfl) Via.refl rfl F_o0_sorted_5 E_o0_5 (Or.inl (B.w 13 rfl)) (B.w 4 rfl) (ty := .boolean) (by decide) rfl rfl pq_d31 (pc' := 34) rfl (fun T6 h6 X6 e6 W6 => ?_)
      have N6 := Fr.snoc X6 N5 g0
      have E_o0_6 := E_o0_5.wr W6
      have F_o0_nanos_6 := F_o0_nanos_5.other W6 (Or.inr (slot_ne (Or.inr (B.w 16 rfl)) (Or.inl (B.w 13 rfl)) (by decide) (t := (.array .long)) (t' := .boolean) (by decide) (by decide)))
      have F_o0_count_6 := F_o0_count_5.other W6 (Or.inr (slot_ne (Or.inl (B.w 23 rfl)) (Or.inl (B.w 13 rfl)) (by decide) (t := .int) (t' := .boolean) (by decide) (by decide)))
      have F_o0_sorted_6 := F_o0_sorted_5.same W6
      have A_fa_6 := Aq5.other W6 (Ne.symm noa)
      have Zs_6 := Nat.le_trans Zs_5 (Keep.of_wr W6).1
      have O_6 := own_old_wr O_5 W6 (Nat.le_trans hn0 g0)
      have K_6 := K_5.wr W6 (Or.inl (List.mem_of_getElem? (i := 0) rfl))
      refine g_lconst X6 B pq_d34 (pc' := 35) rfl (v := (1 : Int64)) (by decide) ?_
      refine g_iloadN X6 B pq_d35 (pc' := 36) rfl (v := i1) rfl ?_
      refine g_i2l X6 B pq_d36 (pc' := 37) rfl ?_
      refine g_aloadN X6 B pq_d37 (pc' := 38) rfl (v := (.ref o0)) rfl rfl ?_
      refine g_getF X6 B (B.w 22 rfl) Via.refl e6 F_o0_count_6 pq_d38 (pc' := 41) rfl (fun T7 X7 e7 => ?_)
      refine g_i2l X7 B pq_d41 (pc' := 42) rfl ?_
      refine g_lmul X7 B pq_d42 (pc' := 43) rfl ?_
      refine g_ldc2 X7 B (B.w 46 rfl) pq_d43 (pc' := 46) rfl ?_
      refine g_ladd X7 B pq_d46 (pc' := 47) rfl ?_
      refine g_ldc2 X7 B (B.w 47 rfl) pq_d47 (pc' := 50) rfl ?_
      refine g_ldiv X7 B (by decide) pq_d50 (pc' := 51) rfl ?_
      refine g_callP X7 B e7 0 (y := (⟨"java/lang/Math", "max", "(JJ)J"⟩ : MethodName)) (argsL := [(.long (1 : Int64)), (.long ((((i1.toInt64) * ((3 : Int32).toInt64)) + (99 : Int64)) / (100 : Int64)))]) (rest := []) (w := (.long (mx_f0 (1 : Int64) ((((i1.toInt64) * ((3 : Int32).toInt64)) + (99 : Int64)) / (100 : Int64))))) (B.w 48 rfl) (B.w 49 rfl) (B.w 50 rfl) (B.w 51 rfl) (by decide) (mx_met l Z a0 B.2.2.1 [] h6 (1 : Int64) ((((i1.toInt64) * ((3 : Int32).toInt64)) + (99 : Int64)) / (100 : Int64))) (by decide) (by decide) (by decide) (by decide) rfl (lenOf own_pd28 rfl) rfl (Nat.le_of_eq rfl) pq_d51 (pc' := 54) rfl (fun T8 X8 e8 => ?_)
      refine g_l2i X8 B pq_d54 (pc' := 55) rfl ?_
      refine g_istoreN X8 B pq_d55 (pc' := 56) rfl (Ls' := #[.val (.ref o0), .val (.int i1), .val (.int ((mx_f0 (1 : Int64) ((((i1.toInt64) * ((3 : Int32).toInt64)) + (99 : Int64)) / (100 : Int64))).toInt32)), .unset, .unset]) rfl ?_
      rcases own_rk i1 hi1 hi2 with ⟨hr, hp⟩ | ⟨hr, hp⟩ | ⟨hr, hp⟩
      · rw [hr]
        rw [hp (own_lo x y u) (own_md x y u) (own_hi x y u)]
        refine g_aloadN X8 B pq_d56 (pc' := 57) rfl (v := (.ref o0)) rfl rfl ?_
        refine g_getF X8 B (B.w 15 rfl) Via.refl e8 F_o0_nanos_6 pq_d57 (pc' := 60) rfl (fun T9 X9 e9 => ?_)
        refine g_iloadN X9 B pq_d60 (pc' := 61) rfl (v := (1 : Int32)) rfl ?_
        refine g_iconst X9 B pq_d61 (pc' := 62) rfl (v := (1 : Int32)) (by decide) ?_
        refine g_isub X9 B pq_d62 (pc' := 63) rfl ?_
        refine g_laload X9 B 0 e9 A_fa_6 (by decide) (by decide) (v := (.long (own_lo x y u))) (own_g3_0 _ _ _) pq_d63 (pc' := 64) rfl ?_
        exact pqA X9 B e9 n0 Zs_6 N6 (o0) (i1) ((1 : Int32)) (own_lo x y u) fa _ z a1 a2 h hn0 O_6 S0 hz S1 S2 Da1 Da2 (Int.toNat_of_nonneg (own_nn3 hx hy hu).1).symm K_6 hs0 HC hsh hEL
      · rw [hr]
        rw [hp (own_lo x y u) (own_md x y u) (own_hi x y u)]
        refine g_aloadN X8 B pq_d56 (pc' := 57) rfl (v := (.ref o0)) rfl rfl ?_
        refine g_getF X8 B (B.w 15 rfl) Via.refl e8 F_o0_nanos_6 pq_d57 (pc' := 60) rfl (fun T10 X10 e10 => ?_)
        refine g_iloadN X10 B pq_d60 (pc' := 61) rfl (v := (2 : Int32)) rfl ?_
        refine g_iconst X10 B pq_d61 (pc' := 62) rfl (v := (1 : Int32)) (by decide) ?_
        refine g_isub X10 B pq_d62 (pc' := 63) rfl ?_
        refine g_laload X10 B 1 e10 A_fa_6 (by decide) (by decide) (v := (.long (own_md x y u))) (own_g3_1 _ _ _) pq_d63 (pc' := 64) rfl ?_
        exact pqA X10 B e10 n0 Zs_6 N6 (o0) (i1) ((2 : Int32)) (own_md x y u) fa _ z a1 a2 h hn0 O_6 S0 hz S1 S2 Da1 Da2 (Int.toNat_of_nonneg (own_nn3 hx hy hu).2.1).symm K_6 hs0 HC hsh hEL
      · rw [hr]
        rw [hp (own_lo x y u) (own_md x y u) (own_hi x y u)]
        refine g_aloadN X8 B pq_d56 (pc' := 57) rfl (v := (.ref o0)) rfl rfl ?_
        refine g_getF X8 B (B.w 15 rfl) Via.refl e8 F_o0_nanos_6 pq_d57 (pc' := 60) rfl (fun T11 X11 e11 => ?_)
        refine g_iloadN X11 B pq_d60 (pc' := 61) rfl (v := (3 : Int32)) rfl ?_
        refine g_iconst X11 B pq_d61 (pc' := 62) rfl (v := (1 : Int32)) (by decide) ?_
        refine g_isub X11 B pq_d62 (pc' := 63) rfl ?_
        refine g_laload X11 B 2 e11 A_fa_6 (by decide) (by decide) (v := (.long (own_hi x y u))) (own_g3_2 _ _ _) pq_d63 (pc' := 64) rfl ?_
        exact pqA X11 B e11 n0 Zs_6 N6 (o0) (i1) ((3 : Int32)) (own_hi x y u) fa _ z a1 a2 h hn0 O_6 S0 hz S1 S2 Da1 Da2 (Int.toNat_of_nonneg (own_nn3 hx hy hu).2.2).symm K_6 hs0 HC hsh hEL
    · exact absurd (by decide) c14_1
theorem pq3_met (l : Launch) (Z : State) (a0 : Array Value) (hw : ∀ d ∈ tables_1, d.before a0 Z = true) (h : Heap) (o0 : Addr) (i1 : Int32) (fa : Addr) (x : Int64) (y : Int64) (u : Int64) (z : Int32) (a1 : Addr) (a2 : Addr) (n0 : Nat) (Zs : n0 ≤ h.size) (hE : Exa Z h o0 "com/example/measured_grab/measuredgrab/bench/Latencies") (g0 : n0 ≤ o0) (ga : n0 ≤ fa) (noa : o0 ≠ fa) (hL : own_L Z h o0 fa 3 0 3 (own_g3 x y u)) (hi1 : 1 ≤ i1.toInt) (hi2 : i1.toInt ≤ 100) (hx : 0 ≤ x.toInt) (hy : 0 ≤ y.toInt) (hu : 0 ≤ u.toInt) (hn0 : Z.heap.size ≤ n0) (hO : Ext Z.heap h) (S0 : Sta Z Z.heap "java/lang/String" "COMPACT_STRINGS" "Z" (.int z)) (hz : ¬ z = 0) (S1 : Sta Z Z.heap "java/lang/Integer" "DigitOnes" "[B" (.ref a1)) (S2 : Sta Z Z.heap "java/lang/Integer" "DigitTens" "[B" (.ref a2)) (Da1 : Ax Z Z.heap a1 .byte 100 own_d1) (Da2 : Ax Z Z.heap a2 .byte 100 own_d2) (hEL : EW Z a0 consts_1) :
    MetW l Z consts_1 (⟨"com/example/measured_grab/measuredgrab/bench/Latencies", "percentile", "(I)Ljava/lang/String;"⟩ : MethodName) prog_4_method_3_code 5 (some (.object "java/lang/String")) [] (⟨6, 6, 48, 104⟩ : Room) #[(.ref o0), (.int i1)] h (fun v h2 L => ∃ o t, v = some (.ref o) ∧ Fr n0 L ∧ Keep h h2 [o0, fa] ∧ h.size ≤ o ∧ h.size ≤ t ∧ own_T Z h2 o t (own_fm ((own_pk i1 (own_lo x y u) (own_md x y u) (own_hi x y u)).toInt.toNat / 100000))) :=
  metW_of own_pn_pq3 hw fun p e s m below meth c T X B eT hsh hC => Go.top (own_ef_pq3 m o0 i1) (pq3_go X B eT o0 i1 fa x y u z a1 a2 n0 Zs hE g0 ga noa hL hi1 hi2 hx hy hu hn0 hO S0 hz S1 S2 Da1 Da2 hEL hsh hC)
theorem own_pn_pq1 : plainFor (⟨"com/example/measured_grab/measuredgrab/bench/Latencies", "percentile", "(I)Ljava/lang/String;"⟩ : MethodName) = true := plainFor_of_name (by first | (simp [plainName, overriddenIn]; done) | decide +kernel)
theorem own_ef_pq1 (m : MethodId) (o0 : Addr) (i1 : Int32) : entryFrame m #[(.ref o0), (.int i1)] 5 = (mkF m 0 #[.val (.ref o0), .val (.int i1), .unset, .unset, .unset] []) := by first | (simp [entryFrame, mkF, argsToLocals, Value.category]; done) | rfl
set_option maxRecDepth 65536 in
set_option maxHeartbeats 40000000 in
theorem pq1_go {p : Program} {l : Launch} {e : Env} {s : State} {m : MethodId} {args : Array Value} {below : List Frame} {meth : Method} {c : Code} {T : State} {Z : State} {a0 : Array Value} {h : Heap} (X : Stand p l e (⟨6, 6, 48, 104⟩ : Room) s m args below meth c T [] 0 0) (B : Bdy p s m meth c Z a0 "com/example/measured_grab/measuredgrab/bench/Latencies" "percentile" prog_4_method_3_code 5 (some (.object "java/lang/String")) tables_1) (eT : T.heap = h) (o0 : Addr) (i1 : Int32) (fa : Addr) (x : Int64) (y : Int64) (u : Int64) (z : Int32) (a1 : Addr) (a2 : Addr) (n0 : Nat) (Zs : n0 ≤ h.size) (hE : Exa Z h o0 "com/example/measured_grab/measuredgrab/bench/Latencies") (g0 : n0 ≤ o0) (ga : n0 ≤ fa) (noa : o0 ≠ fa) (hL : own_L Z h o0 fa 1 0 1 (own_g3 x y u)) (hi : i1 = (100 : Int32)) (hx : 0 ≤ x.toInt) (hn0 : Z.heap.size ≤ n0) (hO : Ext Z.heap h) (S0 : Sta Z Z.heap "java/lang/String" "COMPACT_STRINGS" "Z" (.int z)) (hz : ¬ z = 0) (S1 : Sta Z Z.heap "java/lang/Integer" "DigitOnes" "[B" (.ref a1)) (S2 : Sta Z Z.heap "java/lang/Integer" "DigitTens" "[B" (.ref a2)) (Da1 : Ax Z Z.heap a1 .byte 100 own_d1) (Da2 : Ax Z Z.heap a2 .byte 100 own_d2) (hEL : EW Z a0 consts_1) (hsh : s.heap = h) (HC : CHv Z consts_1 s.vm h) :
    GoW p e below Z consts_1 s 6 48 (fun v h2 L => ∃ o t, v = some (.ref o) ∧ Fr n0 L ∧ Keep h h2 [o0, fa] ∧ h.size ≤ o ∧ h.size ≤ t ∧ own_T Z h2 o t (own_fm (x.toInt.toNat / 100000))) (T.setTop (mkF m 0 #[.val (.ref o0), .val (.int i1), .unset, .unset, .unset] [])) := by
  have N := Fr.nil n0
  have K := Keep.refl h [o0, fa]
  obtain ⟨Fn, Fc, Fs, Aw⟩ := hL
  have hs0 : ∀ x ∈ [o0, fa], Safe Z consts_1 s.vm h x := own_safe2 B.z.alike hE (by decide) (by decide) Aw (by decide)
  subst hi
  refine g_aloadN X B pq_d0 (pc' := 1) rfl (v := (.ref o0)) rfl rfl ?_
  refine g_getF X B (B.w 22 rfl) Via.refl eT Fc pq_d1 (pc' := 4) rfl (fun T1 X1 e1 => ?_)
  refine g_if_ne X1 B pq_d4 (pcT := 10) (pcF := 7) (by decide) rfl rfl (fun c4_0 => ?_) (fun c4_0 => ?_)
  · exact absurd c4_0 (by decide)
  · refine g_aloadN X1 B pq_d10 (pc' := 11) rfl (v := (.ref o0)) rfl rfl ?_
    refine g_getF X1 B (B.w 12 rfl) Via.refl e1 Fs pq_d11 (pc' := 14) rfl (fun T2 X2 e2 => ?_)
    refine g_if_ne X2 B pq_d14 (pcT := 34) (pcF := 17) (by decide) rfl rfl (fun c14_1 => ?_) (fun c14_1 => ?_)
    · refine g_aloadN X2 B pq_d17 (pc' := 18) rfl (v := (.ref o0)) rfl rfl ?_
      refine g_getF X2 B (B.w 15 rfl) Via.refl e2 Fn pq_d18 (pc' := 21) rfl (fun T3 X3 e3 => ?_)
      refine g_iconst X3 B pq_d21 (pc' := 22) rfl (v := (0 : Int32)) (by decide) ?_
      refine g_aloadN X3 B pq_d22 (pc' := 23) rfl (v := (.ref o0)) rfl rfl ?_
      refine g_getF X3 B (B.w 22 rfl) Via.refl e3 Fc pq_d23 (pc' := 26) rfl (fun T4 X4 e4 => ?_)
      refine g_callS X4 B e4 0 (y := (⟨"java/util/Arrays", "sort", "([JII)V"⟩ : MethodName)) (argsL := [(.ref fa), (.int (0 : Int32)), (.int (1 : Int32))]) (rest := []) (B.w 29 rfl) (B.w 30 rfl) (B.w 31 rfl) (B.w 32 rfl) (by decide) (so1_met l Z a0 B.2.2.1 [] h fa (0 : Int32) (1 : Int32) x y u n0 Zs ga Aw rfl rfl) (by decide) (by decide) (by decide) (by decide) rfl (lenOf own_pd0 rfl) rfl (Nat.le_of_eq rfl) pq_d26 (pc' := 29) rfl (fun T5 v5 L5 X5 Q5 => ?_)
      obtain ⟨rfl, Nq5, Kq5, Aq5⟩ := Q5
      have N5 := Fr.app N Nq5
      have E_o0_5 := hE.keep Kq5
      have F_o0_nanos_5 := Fn.keep Kq5 (by simp only [List.mem_cons, List.not_mem_nil, or_false, not_or]; exact noa)
      have F_o0_count_5 := Fc.keep Kq5 (by simp only [List.mem_cons, List.not_mem_nil, or_false, not_or]; exact noa)
      have F_o0_sorted_5 := Fs.keep Kq5 (by simp only [List.mem_cons, List.not_mem_nil, or_false, not_or]; exact noa)
      have Zs_5 := Nat.le_trans Zs Kq5.1
      have O_5 := own_old_keep hO Kq5 (by intro x hx; simp only [List.mem_cons, List.not_mem_nil, or_false] at hx; subst hx; exact Nat.le_trans hn0 ga)
      have K_5 := K.trans Kq5 (by intro x hx; simp only [List.mem_cons, List.not_mem_nil, or_false] at hx; subst hx; exact Or.inl (List.mem_of_getElem? (i := 1) rfl))
      show GoX p e below _ _ (T5.setTop (mkF m 29 #[.val (.ref o0), .val (.int (100 : Int32)), .unset, .unset, .unset] []))
      refine g_aloadN X5 B pq_d29 (pc' := 30) rfl (v := (.ref o0)) rfl rfl ?_
      refine g_iconst X5 B pq_d30 (pc' := 31) rfl (v := (1 : Int32)) (by decide) ?_
      refine g_putF X5 B (B.w 12 rfl) Via.refl rfl F_o0_sorted_5 E_o0_5 (Or.inl (B.w 13 rfl)) (B.w 4 rfl) (ty := .boolean) (by decide) rfl rfl pq_d31 (pc' := 34) rfl (fun T6 h6 X6 e6 W6 => ?_)
      have N6 := Fr.snoc X6 N5 g0
      have E_o0_6 := E_o0_5.wr W6
      have F_o0_nanos_6 := F_o0_nanos_5.other W6 (Or.inr (slot_ne (Or.inr (B.w 16 rfl)) (Or.inl (B.w 13 rfl)) (by decide) (t := (.array .long)) (t' := .boolean) (by decide) (by decide)))
      have F_o0_count_6 := F_o0_count_5.other W6 (Or.inr (slot_ne (Or.inl (B.w 23 rfl)) (Or.inl (B.w 13 rfl)) (by decide) (t := .int) (t' := .boolean) (by decide) (by decide)))
      have F_o0_sorted_6 := F_o0_sorted_5.same W6
      have A_fa_6 := Aq5.other W6 (Ne.symm noa)
      have Zs_6 := Nat.le_trans Zs_5 (Keep.of_wr W6).1
      have O_6 := own_old_wr O_5 W6 (Nat.le_trans hn0 g0)
      have K_6 := K_5.wr W6 (Or.inl (List.mem_of_getElem? (i := 0) rfl))
      refine g_lconst X6 B pq_d34 (pc' := 35) rfl (v := (1 : Int64)) (by decide) ?_
      refine g_iloadN X6 B pq_d35 (pc' := 36) rfl (v := (100 : Int32)) rfl ?_
      refine g_i2l X6 B pq_d36 (pc' := 37) rfl ?_
      refine g_aloadN X6 B pq_d37 (pc' := 38) rfl (v := (.ref o0)) rfl rfl ?_
      refine g_getF X6 B (B.w 22 rfl) Via.refl e6 F_o0_count_6 pq_d38 (pc' := 41) rfl (fun T7 X7 e7 => ?_)
      refine g_i2l X7 B pq_d41 (pc' := 42) rfl ?_
      refine g_lmul X7 B pq_d42 (pc' := 43) rfl ?_
      refine g_ldc2 X7 B (B.w 46 rfl) pq_d43 (pc' := 46) rfl ?_
      refine g_ladd X7 B pq_d46 (pc' := 47) rfl ?_
      refine g_ldc2 X7 B (B.w 47 rfl) pq_d47 (pc' := 50) rfl ?_
      refine g_ldiv X7 B (by decide) pq_d50 (pc' := 51) rfl ?_
      refine g_callP X7 B e7 0 (y := (⟨"java/lang/Math", "max", "(JJ)J"⟩ : MethodName)) (argsL := [(.long (1 : Int64)), (.long (((((100 : Int32).toInt64) * ((1 : Int32).toInt64)) + (99 : Int64)) / (100 : Int64)))]) (rest := []) (w := (.long (mx_f0 (1 : Int64) (((((100 : Int32).toInt64) * ((1 : Int32).toInt64)) + (99 : Int64)) / (100 : Int64))))) (B.w 48 rfl) (B.w 49 rfl) (B.w 50 rfl) (B.w 51 rfl) (by decide) (mx_met l Z a0 B.2.2.1 [] h6 (1 : Int64) (((((100 : Int32).toInt64) * ((1 : Int32).toInt64)) + (99 : Int64)) / (100 : Int64))) (by decide) (by decide) (by decide) (by decide) rfl (lenOf own_pd28 rfl) rfl (Nat.le_of_eq rfl) pq_d51 (pc' := 54) rfl (fun T8 X8 e8 => ?_)
      refine g_l2i X8 B pq_d54 (pc' := 55) rfl ?_
      refine g_istoreN X8 B pq_d55 (pc' := 56) rfl (Ls' := #[.val (.ref o0), .val (.int (100 : Int32)), .val (.int ((mx_f0 (1 : Int64) (((((100 : Int32).toInt64) * ((1 : Int32).toInt64)) + (99 : Int64)) / (100 : Int64))).toInt32)), .unset, .unset]) rfl ?_
      have hr : ((mx_f0 (1 : Int64) (((((100 : Int32).toInt64) * ((1 : Int32).toInt64)) + (99 : Int64)) / (100 : Int64))).toInt32) = (1 : Int32) := by decide
      · rw [hr]
        refine g_aloadN X8 B pq_d56 (pc' := 57) rfl (v := (.ref o0)) rfl rfl ?_
        refine g_getF X8 B (B.w 15 rfl) Via.refl e8 F_o0_nanos_6 pq_d57 (pc' := 60) rfl (fun T9 X9 e9 => ?_)
        refine g_iloadN X9 B pq_d60 (pc' := 61) rfl (v := (1 : Int32)) rfl ?_
        refine g_iconst X9 B pq_d61 (pc' := 62) rfl (v := (1 : Int32)) (by decide) ?_
        refine g_isub X9 B pq_d62 (pc' := 63) rfl ?_
        refine g_laload X9 B 0 e9 A_fa_6 (by decide) (by decide) (v := (.long x)) (own_g3_0 _ _ _) pq_d63 (pc' := 64) rfl ?_
        exact pqA X9 B e9 n0 Zs_6 N6 (o0) ((100 : Int32)) ((1 : Int32)) x fa _ z a1 a2 h hn0 O_6 S0 hz S1 S2 Da1 Da2 (Int.toNat_of_nonneg hx).symm K_6 hs0 HC hsh hEL
    · exact absurd (by decide) c14_1
theorem pq1_met (l : Launch) (Z : State) (a0 : Array Value) (hw : ∀ d ∈ tables_1, d.before a0 Z = true) (h : Heap) (o0 : Addr) (i1 : Int32) (fa : Addr) (x : Int64) (y : Int64) (u : Int64) (z : Int32) (a1 : Addr) (a2 : Addr) (n0 : Nat) (Zs : n0 ≤ h.size) (hE : Exa Z h o0 "com/example/measured_grab/measuredgrab/bench/Latencies") (g0 : n0 ≤ o0) (ga : n0 ≤ fa) (noa : o0 ≠ fa) (hL : own_L Z h o0 fa 1 0 1 (own_g3 x y u)) (hi : i1 = (100 : Int32)) (hx : 0 ≤ x.toInt) (hn0 : Z.heap.size ≤ n0) (hO : Ext Z.heap h) (S0 : Sta Z Z.heap "java/lang/String" "COMPACT_STRINGS" "Z" (.int z)) (hz : ¬ z = 0) (S1 : Sta Z Z.heap "java/lang/Integer" "DigitOnes" "[B" (.ref a1)) (S2 : Sta Z Z.heap "java/lang/Integer" "DigitTens" "[B" (.ref a2)) (Da1 : Ax Z Z.heap a1 .byte 100 own_d1) (Da2 : Ax Z Z.heap a2 .byte 100 own_d2) (hEL : EW Z a0 consts_1) :
    MetW l Z consts_1 (⟨"com/example/measured_grab/measuredgrab/bench/Latencies", "percentile", "(I)Ljava/lang/String;"⟩ : MethodName) prog_4_method_3_code 5 (some (.object "java/lang/String")) [] (⟨6, 6, 48, 104⟩ : Room) #[(.ref o0), (.int i1)] h (fun v h2 L => ∃ o t, v = some (.ref o) ∧ Fr n0 L ∧ Keep h h2 [o0, fa] ∧ h.size ≤ o ∧ h.size ≤ t ∧ own_T Z h2 o t (own_fm (x.toInt.toNat / 100000))) :=
  metW_of own_pn_pq1 hw fun p e s m below meth c T X B eT hsh hC => Go.top (own_ef_pq1 m o0 i1) (pq1_go X B eT o0 i1 fa x y u z a1 a2 n0 Zs hE g0 ga noa hL hi hx hn0 hO S0 hz S1 S2 Da1 Da2 hEL hsh hC)
theorem le_d0 : decode jdk_43_method_13_code 0 = .ok (.aload_n 0, 1) := by decide +kernel
theorem le_d1 : decode jdk_43_method_13_code 1 = .ok (.arraylength, 1) := by decide +kernel
theorem le_d2 : decode jdk_43_method_13_code 2 = .ok (.aload_n 1, 1) := by decide +kernel
theorem le_d3 : decode jdk_43_method_13_code 3 = .ok (.arraylength, 1) := by decide +kernel
theorem le_d4 : decode jdk_43_method_13_code 4 = .ok (.if_icmp .ne 30, 3) := by decide +kernel
theorem le_d7 : decode jdk_43_method_13_code 7 = .ok (.iconst 0, 1) := by decide +kernel
theorem le_d8 : decode jdk_43_method_13_code 8 = .ok (.istore_n 2, 1) := by decide +kernel
theorem le_d9 : decode jdk_43_method_13_code 9 = .ok (.iload_n 2, 1) := by decide +kernel
theorem le_d10 : decode jdk_43_method_13_code 10 = .ok (.aload_n 0, 1) := by decide +kernel
theorem le_d11 : decode jdk_43_method_13_code 11 = .ok (.arraylength, 1) := by decide +kernel
theorem le_d12 : decode jdk_43_method_13_code 12 = .ok (.if_icmp .ge 20, 3) := by decide +kernel
theorem le_d15 : decode jdk_43_method_13_code 15 = .ok (.aload_n 0, 1) := by decide +kernel
theorem le_d16 : decode jdk_43_method_13_code 16 = .ok (.iload_n 2, 1) := by decide +kernel
theorem le_d17 : decode jdk_43_method_13_code 17 = .ok (.baload, 1) := by decide +kernel
theorem le_d18 : decode jdk_43_method_13_code 18 = .ok (.aload_n 1, 1) := by decide +kernel
theorem le_d19 : decode jdk_43_method_13_code 19 = .ok (.iload_n 2, 1) := by decide +kernel
theorem le_d20 : decode jdk_43_method_13_code 20 = .ok (.baload, 1) := by decide +kernel
theorem le_d21 : decode jdk_43_method_13_code 21 = .ok (.if_icmp .eq 5, 3) := by decide +kernel
theorem le_d26 : decode jdk_43_method_13_code 26 = .ok (.iinc 2 1, 3) := by decide +kernel
theorem le_d29 : decode jdk_43_method_13_code 29 = .ok (.goto (-20), 3) := by decide +kernel
theorem le_d32 : decode jdk_43_method_13_code 32 = .ok (.iconst 1, 1) := by decide +kernel
theorem le_d33 : decode jdk_43_method_13_code 33 = .ok (.ireturn, 1) := by decide +kernel
set_option maxRecDepth 65536 in
set_option maxHeartbeats 40000000 in
theorem le9 {p : Program} {l : Launch} {e : Env} {s : State} {m : MethodId} {args : Array Value} {below : List Frame} {meth : Method} {c : Code} {T : State} {Z : State} {a0 : Array Value} {h : Heap} (X : Stand p l e (⟨0, 0, 0, 0⟩ : Room) s m args below meth c T [] 0 0) (B : Bdy p s m meth c Z a0 "java/lang/StringLatin1" "equals" jdk_43_method_13_code 3 (some .boolean) tables_1) (eT : T.heap = h) (o0 : Addr) (o1 : Addr) (i2 : Int32) (cs : List Int32) (i : Nat) (X4 : Ax Z h o0 .byte cs.length (own_v cs)) (Y4 : Ax Z h o1 .byte cs.length (own_v cs)) (hi : i2.toInt = (i : Int)) :
    Go p e below s 0 0 (PQ (some (.int (1 : Int32))) h []) (T.setTop (mkF m 9 #[.val (.ref o0), .val (.ref o1), .val (.int i2)] [])) := by
  refine g_iloadN X B le_d9 (pc' := 10) rfl (v := i2) rfl ?_
  refine g_aloadN X B le_d10 (pc' := 11) rfl (v := (.ref o0)) rfl rfl ?_
  refine g_arrlen X B (Int32.ofNat cs.length) eT X4 (Int32.toInt_ofNat_small X4.1) le_d11 (pc' := 12) rfl ?_
  refine g_icmp_ge X B le_d12 (pcT := 32) (pcF := 15) (by decide) rfl rfl (fun c12_0 => ?_) (fun c12_0 => ?_)
  · rw [Int32.lt_iff_toInt_lt, Int32.toInt_ofNat_small X4.1] at c12_0
    have hlt : i < cs.length := by omega
    have hdec : cs.length - (i + 1) < cs.length - i := by omega
    have hi' : (i2 + (1 : Int32)).toInt = ((i + 1 : Nat) : Int) := by have e := c_iadd i2 1; have e1 : (1 : Int32).toInt = 1 := rfl; have r1 := (i2 + (1 : Int32)).toInt_lt; have r2 := (i2 + (1 : Int32)).le_toInt; have r3 := X4.1; omega
    refine g_aloadN X B le_d15 (pc' := 16) rfl (v := (.ref o0)) rfl rfl ?_
    refine g_iloadN X B le_d16 (pc' := 17) rfl (v := i2) rfl ?_
    refine g_baloadB X B i eT X4 hi hlt (v := (.int (cs.getD i 0))) rfl le_d17 (pc' := 18) rfl ?_
    refine g_aloadN X B le_d18 (pc' := 19) rfl (v := (.ref o1)) rfl rfl ?_
    refine g_iloadN X B le_d19 (pc' := 20) rfl (v := i2) rfl ?_
    refine g_baloadB X B i eT Y4 hi hlt (v := (.int (cs.getD i 0))) rfl le_d20 (pc' := 21) rfl ?_
    refine g_icmp_eq X B le_d21 (pcT := 26) (pcF := 24) (by decide) rfl rfl (fun c21_1 => ?_) (fun c21_1 => ?_)
    · refine g_iinc X B le_d26 (pc' := 29) rfl (v := i2) rfl (Ls' := #[.val (.ref o0), .val (.ref o1), .val (.int (i2 + (1 : Int32)))]) rfl ?_
      refine g_goto X B le_d29 (pc' := 9) (by decide) rfl ?_
      exact le9 X B eT (o0) (o1) ((i2 + (1 : Int32))) cs (i + 1) X4 Y4 hi'
    · exact absurd rfl c21_1
  · refine g_iconst X B le_d32 (pc' := 33) rfl (v := (1 : Int32)) (by decide) ?_
    exact g_retN X B (t := .boolean) rfl (by simp) le_d33 (by decide) (by decide) ⟨congrArg (fun z => some (Value.int z)) (by decide : nar .boolean (1 : Int32) = 1), eT, rfl⟩
termination_by cs.length - i
decreasing_by all_goals exact hdec
theorem own_pn_le : plainFor (⟨"java/lang/StringLatin1", "equals", "([B[B)Z"⟩ : MethodName) = true := plainFor_of_name (by first | (simp [plainName, overriddenIn]; done) | decide +kernel)
theorem own_ef_le (m : MethodId) (o0 : Addr) (o1 : Addr) : entryFrame m #[(.ref o0), (.ref o1)] 3 = (mkF m 0 #[.val (.ref o0), .val (.ref o1), .unset] []) := by first | (simp [entryFrame, mkF, argsToLocals, Value.category]; done) | rfl
set_option maxRecDepth 65536 in
set_option maxHeartbeats 40000000 in
theorem le_go {p : Program} {l : Launch} {e : Env} {s : State} {m : MethodId} {args : Array Value} {below : List Frame} {meth : Method} {c : Code} {T : State} {Z : State} {a0 : Array Value} {h : Heap} (X : Stand p l e (⟨0, 0, 0, 0⟩ : Room) s m args below meth c T [] 0 0) (B : Bdy p s m meth c Z a0 "java/lang/StringLatin1" "equals" jdk_43_method_13_code 3 (some .boolean) tables_1) (eT : T.heap = h) (o0 : Addr) (o1 : Addr) (cs : List Int32) (X4 : Ax Z h o0 .byte cs.length (own_v cs)) (Y4 : Ax Z h o1 .byte cs.length (own_v cs)) :
    Go p e below s 0 0 (PQ (some (.int (1 : Int32))) h []) (T.setTop (mkF m 0 #[.val (.ref o0), .val (.ref o1), .unset] [])) := by
  refine g_aloadN X B le_d0 (pc' := 1) rfl (v := (.ref o0)) rfl rfl ?_
  refine g_arrlen X B (Int32.ofNat cs.length) eT X4 (Int32.toInt_ofNat_small X4.1) le_d1 (pc' := 2) rfl ?_
  refine g_aloadN X B le_d2 (pc' := 3) rfl (v := (.ref o1)) rfl rfl ?_
  refine g_arrlen X B (Int32.ofNat cs.length) eT Y4 (Int32.toInt_ofNat_small X4.1) le_d3 (pc' := 4) rfl ?_
  refine g_icmp_ne X B le_d4 (pcT := 34) (pcF := 7) (by decide) rfl rfl (fun c4_0 => ?_) (fun c4_0 => ?_)
  · refine g_iconst X B le_d7 (pc' := 8) rfl (v := (0 : Int32)) (by decide) ?_
    refine g_istoreN X B le_d8 (pc' := 9) rfl (Ls' := #[.val (.ref o0), .val (.ref o1), .val (.int (0 : Int32))]) rfl ?_
    exact le9 X B eT (o0) (o1) ((0 : Int32)) cs 0 X4 Y4 rfl
  · exact absurd rfl c4_0
theorem le_met (l : Launch) (Z : State) (a0 : Array Value) (hw : ∀ d ∈ tables_1, d.before a0 Z = true) (ws : List Jvm.Cond) (h : Heap) (o0 : Addr) (o1 : Addr) (cs : List Int32) (X4 : Ax Z h o0 .byte cs.length (own_v cs)) (Y4 : Ax Z h o1 .byte cs.length (own_v cs)) :
    Met l Z (⟨"java/lang/StringLatin1", "equals", "([B[B)Z"⟩ : MethodName) jdk_43_method_13_code 3 (some .boolean) ws (⟨0, 0, 0, 0⟩ : Room) #[(.ref o0), (.ref o1)] h (PQ (some (.int (1 : Int32))) h []) :=
  met_of own_pn_le hw fun p e s m below meth c T X B eT => Go.top (own_ef_le m o0 o1) (le_go X B eT o0 o1 cs X4 Y4)
theorem se_d0 : decode jdk_42_method_66_code 0 = .ok (.aload_n 0, 1) := by decide +kernel
theorem se_d1 : decode jdk_42_method_66_code 1 = .ok (.aload_n 1, 1) := by decide +kernel
theorem se_d2 : decode jdk_42_method_66_code 2 = .ok (.if_acmp .ne 5, 3) := by decide +kernel
theorem se_d5 : decode jdk_42_method_66_code 5 = .ok (.iconst 1, 1) := by decide +kernel
theorem se_d6 : decode jdk_42_method_66_code 6 = .ok (.ireturn, 1) := by decide +kernel
theorem se_d7 : decode jdk_42_method_66_code 7 = .ok (.aload_n 1, 1) := by decide +kernel
theorem se_d8 : decode jdk_42_method_66_code 8 = .ok (.instanceof 10, 3) := by decide +kernel
theorem se_d11 : decode jdk_42_method_66_code 11 = .ok (.ifCond .eq 43, 3) := by decide +kernel
theorem se_d14 : decode jdk_42_method_66_code 14 = .ok (.aload_n 1, 1) := by decide +kernel
theorem se_d15 : decode jdk_42_method_66_code 15 = .ok (.checkcast 10, 3) := by decide +kernel
theorem se_d18 : decode jdk_42_method_66_code 18 = .ok (.astore_n 2, 1) := by decide +kernel
theorem se_d19 : decode jdk_42_method_66_code 19 = .ok (.getstatic 38, 3) := by decide +kernel
theorem se_d22 : decode jdk_42_method_66_code 22 = .ok (.ifCond .eq 14, 3) := by decide +kernel
theorem se_d25 : decode jdk_42_method_66_code 25 = .ok (.aload_n 0, 1) := by decide +kernel
theorem se_d26 : decode jdk_42_method_66_code 26 = .ok (.getfield 15, 3) := by decide +kernel
theorem se_d29 : decode jdk_42_method_66_code 29 = .ok (.aload_n 2, 1) := by decide +kernel
theorem se_d30 : decode jdk_42_method_66_code 30 = .ok (.getfield 15, 3) := by decide +kernel
theorem se_d33 : decode jdk_42_method_66_code 33 = .ok (.if_icmp .ne 21, 3) := by decide +kernel
theorem se_d36 : decode jdk_42_method_66_code 36 = .ok (.aload_n 0, 1) := by decide +kernel
theorem se_d37 : decode jdk_42_method_66_code 37 = .ok (.getfield 9, 3) := by decide +kernel
theorem se_d40 : decode jdk_42_method_66_code 40 = .ok (.aload_n 2, 1) := by decide +kernel
theorem se_d41 : decode jdk_42_method_66_code 41 = .ok (.getfield 9, 3) := by decide +kernel
theorem se_d44 : decode jdk_42_method_66_code 44 = .ok (.invokestatic 541, 3) := by decide +kernel
theorem se_d47 : decode jdk_42_method_66_code 47 = .ok (.ifCond .eq 7, 3) := by decide +kernel
theorem se_d50 : decode jdk_42_method_66_code 50 = .ok (.iconst 1, 1) := by decide +kernel
theorem se_d51 : decode jdk_42_method_66_code 51 = .ok (.goto 4, 3) := by decide +kernel
theorem se_d55 : decode jdk_42_method_66_code 55 = .ok (.ireturn, 1) := by decide +kernel
theorem own_pn_se : plainFor (⟨"java/lang/String", "equals", "(Ljava/lang/Object;)Z"⟩ : MethodName) = true := plainFor_of_name (by first | (simp [plainName, overriddenIn]; done) | decide +kernel)
theorem own_ef_se (m : MethodId) (o0 : Addr) (o1 : Addr) : entryFrame m #[(.ref o0), (.ref o1)] 3 = (mkF m 0 #[.val (.ref o0), .val (.ref o1), .unset] []) := by first | (simp [entryFrame, mkF, argsToLocals, Value.category]; done) | rfl
set_option maxRecDepth 65536 in
set_option maxHeartbeats 40000000 in
theorem se_go {p : Program} {l : Launch} {e : Env} {s : State} {m : MethodId} {args : Array Value} {below : List Frame} {meth : Method} {c : Code} {T : State} {Z : State} {a0 : Array Value} {h : Heap} (X : Stand p l e (⟨1, 0, 0, 14⟩ : Room) s m args below meth c T [] 0 0) (B : Bdy p s m meth c Z a0 "java/lang/String" "equals" jdk_42_method_66_code 3 (some .boolean) tables_1) (eT : T.heap = h) (o0 : Addr) (o1 : Addr) (tx : Addr) (ty : Addr) (cs : List Int32) (z : Int32) (hTx : own_T Z h o0 tx cs) (hTy : own_T Z h o1 ty cs) (S0 : Sta Z h "java/lang/String" "COMPACT_STRINGS" "Z" (.int z)) (hz : ¬ z = 0) :
    Go p e below s 0 0 (PQ (some (.int (1 : Int32))) h []) (T.setTop (mkF m 0 #[.val (.ref o0), .val (.ref o1), .unset] [])) := by
  obtain ⟨x1, x2, x3, x4⟩ := hTx
  obtain ⟨y1, y2, y3, y4⟩ := hTy
  refine g_aloadN X B se_d0 (pc' := 1) rfl (v := (.ref o0)) rfl rfl ?_
  refine g_aloadN X B se_d1 (pc' := 2) rfl (v := (.ref o1)) rfl rfl ?_
  refine g_acmp_ne X B se_d2 (pcT := 7) (pcF := 5) (by decide) rfl rfl (fun c2_0 => ?_) (fun c2_0 => ?_)
  · refine g_iconst X B se_d5 (pc' := 6) rfl (v := (1 : Int32)) (by decide) ?_
    exact g_retN X B (t := .boolean) rfl (by simp) se_d6 (by decide) (by decide) ⟨congrArg (fun z => some (Value.int z)) (by decide : nar .boolean (1 : Int32) = 1), eT, rfl⟩
  · refine g_aloadN X B se_d7 (pc' := 8) rfl (v := (.ref o1)) rfl rfl ?_
    refine g_instY X B (B.w 239 rfl) eT (Ins.self y1) se_d8 (pc' := 11) rfl (fun T1 X1 e1 => ?_)
    refine g_if_eq X1 B se_d11 (pcT := 54) (pcF := 14) (by decide) rfl rfl (fun c11_1 => ?_) (fun c11_1 => ?_)
    · exact absurd c11_1 (by decide)
    · refine g_aloadN X1 B se_d14 (pc' := 15) rfl (v := (.ref o1)) rfl rfl ?_
      refine g_castY X1 B (B.w 239 rfl) e1 (Ins.self y1) se_d15 (pc' := 18) rfl (fun T2 X2 e2 => ?_)
      refine g_astoreN X2 B se_d18 (pc' := 19) rfl rfl (Ls' := #[.val (.ref o0), .val (.ref o1), .val (.ref o1)]) rfl ?_
      refine g_getS X2 B (B.w 133 rfl) Via.refl e2 S0 se_d19 (pc' := 22) rfl (fun T3 X3 e3 => ?_)
      refine g_if_eq X3 B se_d22 (pcT := 36) (pcF := 25) (by decide) rfl rfl (fun c22_2 => ?_) (fun c22_2 => ?_)
      · exact absurd c22_2 hz
      · refine g_aloadN X3 B se_d25 (pc' := 26) rfl (v := (.ref o0)) rfl rfl ?_
        refine g_getF X3 B (B.w 134 rfl) Via.refl e3 x3 se_d26 (pc' := 29) rfl (fun T4 X4 e4 => ?_)
        refine g_aloadN X4 B se_d29 (pc' := 30) rfl (v := (.ref o1)) rfl rfl ?_
        refine g_getF X4 B (B.w 134 rfl) Via.refl e4 y3 se_d30 (pc' := 33) rfl (fun T5 X5 e5 => ?_)
        refine g_icmp_ne X5 B se_d33 (pcT := 54) (pcF := 36) (by decide) rfl rfl (fun c33_3 => ?_) (fun c33_3 => ?_)
        · refine g_aloadN X5 B se_d36 (pc' := 37) rfl (v := (.ref o0)) rfl rfl ?_
          refine g_getF X5 B (B.w 127 rfl) Via.refl e5 x2 se_d37 (pc' := 40) rfl (fun T6 X6 e6 => ?_)
          refine g_aloadN X6 B se_d40 (pc' := 41) rfl (v := (.ref o1)) rfl rfl ?_
          refine g_getF X6 B (B.w 127 rfl) Via.refl e6 y2 se_d41 (pc' := 44) rfl (fun T7 X7 e7 => ?_)
          refine g_callS X7 B e7 0 (y := (⟨"java/lang/StringLatin1", "equals", "([B[B)Z"⟩ : MethodName)) (argsL := [(.ref tx), (.ref ty)]) (rest := []) (B.w 240 rfl) (B.w 241 rfl) (B.w 220 rfl) (B.w 242 rfl) (by decide) (le_met l Z a0 B.2.2.1 [] h tx ty cs x4 y4) (by decide) (by decide) (by decide) (by decide) rfl (lenOf own_pd29 rfl) rfl (Nat.le_of_eq rfl) se_d44 (pc' := 47) rfl (fun T8 v8 L8 X8 Q8 => ?_)
          obtain ⟨rfl, hh8, rfl⟩ := Q8
          rw [List.append_nil] at X8
          show Go p e below s _ _ _ (T8.setTop (mkF m 47 #[.val (.ref o0), .val (.ref o1), .val (.ref o1)] [(.int (1 : Int32))]))
          refine g_if_eq X8 B se_d47 (pcT := 54) (pcF := 50) (by decide) rfl rfl (fun c47_4 => ?_) (fun c47_4 => ?_)
          · exact absurd c47_4 (by decide)
          · refine g_iconst X8 B se_d50 (pc' := 51) rfl (v := (1 : Int32)) (by decide) ?_
            refine g_goto X8 B se_d51 (pc' := 55) (by decide) rfl ?_
            exact g_retN X8 B (t := .boolean) rfl (by simp) se_d55 (by decide) (by decide) ⟨congrArg (fun z => some (Value.int z)) (by decide : nar .boolean (1 : Int32) = 1), hh8, rfl⟩
        · exact absurd (by decide) c33_3
theorem se_met (l : Launch) (Z : State) (a0 : Array Value) (hw : ∀ d ∈ tables_1, d.before a0 Z = true) (ws : List Jvm.Cond) (h : Heap) (o0 : Addr) (o1 : Addr) (tx : Addr) (ty : Addr) (cs : List Int32) (z : Int32) (hTx : own_T Z h o0 tx cs) (hTy : own_T Z h o1 ty cs) (S0 : Sta Z h "java/lang/String" "COMPACT_STRINGS" "Z" (.int z)) (hz : ¬ z = 0) :
    Met l Z (⟨"java/lang/String", "equals", "(Ljava/lang/Object;)Z"⟩ : MethodName) jdk_42_method_66_code 3 (some .boolean) ws (⟨1, 0, 0, 14⟩ : Room) #[(.ref o0), (.ref o1)] h (PQ (some (.int (1 : Int32))) h []) :=
  met_of own_pn_se hw fun p e s m below meth c T X B eT => Go.top (own_ef_se m o0 o1) (se_go X B eT o0 o1 tx ty cs z hTx hTy S0 hz)
theorem own_msk (a : Int64) : 0 ≤ (a &&& (9223372036854775807 : Int64)).toInt := (c_andSL a 9223372036854775807).2.2 (by decide)
theorem own_rem9 {x : Int64} (h : 0 ≤ x.toInt) : 0 ≤ (x % (1000000000 : Int64)).toInt := by
  have e := c_lrem x 1000000000 1000000000 rfl
  rw [lrem_mod] at e
  rw [e.1 h]; omega
theorem own_pp (i : Int32) : 1 ≤ ((1 : Int32) + (i &&& (2147483647 : Int32)) % (100 : Int32)).toInt ∧ ((1 : Int32) + (i &&& (2147483647 : Int32)) % (100 : Int32)).toInt ≤ 100 := by
  have e := c_and i 2147483647 (by decide)
  have e2 := c_irem (i &&& 2147483647) 100 100 rfl
  have e3 := e2.1 e.1
  have e4 := c_iadd 1 ((i &&& 2147483647) % 100)
  have e5 : (1 : Int32).toInt = 1 := rfl
  have r1 := ((1 : Int32) + (i &&& (2147483647 : Int32)) % (100 : Int32)).toInt_lt; have r2 := ((1 : Int32) + (i &&& (2147483647 : Int32)) % (100 : Int32)).le_toInt
  omega
theorem own_len {s : State} {as : Array Value} {t : Term} {a : Addr} {c : Cell} {ty : FieldType} {z : Int32} (ev : t.eval as s none [] s = some (.ref a)) (A : Arr s s.heap a c ty) (q : (Term.length t).eval as s none [] s = some (.int z)) : c.slots.size < 2 ^ 31 ∧ c.slots.size.toInt32 = z := by
  by_cases hl : c.slots.size < 2 ^ 31
  · exact ⟨hl, Value.int.inj (Option.some.inj ((len_f ev (A.fin (Vm.Alike.refl _)) hl).symm.trans q))⟩
  · have w := A.fin (Vm.Alike.refl s.vm)
    simp [Term.eval, ev, w, hl] at q
theorem own_dig {s : State} {as a0 : Array Value} {t F : Term} {a : Addr} {val : Nat → Int32} (ev : ∀ idx, t.eval as s none idx s = some (.ref a)) (hx : (Jvm.Cond.exactly t "[B").value as s none s [] = some true) (wa : (Jvm.Cond.arrayClass .byte).before a0 s = true) (hl : (Jvm.Cond.eq (.length t) (.int (100 : Int32))).value as s none s [] = some true)
    (hall : (Jvm.Cond.all t (.eq (.elem t (.index 0)) F)).value as s none s [] = some true) (hF : ∀ j, j < 100 → F.eval as s none [j] s = some (.int (val j))) : Ax s s.heap a .byte 100 (fun j => .int (val j)) := by
  obtain ⟨cell, k, e1, e2, e3, e4, -⟩ := Exa.start (ev []) hx
  obtain ⟨c4, k4, comp, f1, f2, f3⟩ := Cond.arrayClass_spec wa
  have f1' : s.vm.findClass "[B" = some c4 := f1
  cases e2.symm.trans f1'
  cases e3.symm.trans f2
  have hq := eqv_i (Term.int_eval 100) hl
  have hne : cell.vm ≠ .unknown := fun hu => by
    have ha : s.arrayAt? a = none := by simp [State.arrayAt?, e1, e3, hu]
    simp [Term.eval, ev, ha] at hq
  have A : Arr s s.heap a cell .byte := ⟨e1, ⟨fun q h => (by rw [h] at e4; cases e4), k, e3, comp, f3⟩, hne⟩
  obtain ⟨l1, l2⟩ := own_len (ev []) A hq
  have sz : cell.slots.size = 100 := by
    have q1 : cell.slots.size.toInt32.toInt = (cell.slots.size : Int) := Int32.toInt_ofNat_small l1
    rw [l2] at q1
    have q2 : (100 : Int32).toInt = 100 := rfl
    omega
  refine ⟨by decide, cell, A, sz, fun j hj => ?_⟩
  have u := Cond.all_elim (ev []) (A.fin (Vm.Alike.refl _)) hall j (by omega)
  have u2 := eqv_i (hF j hj) u
  have ej : (Int32.ofNat j).toInt = (j : Int) := Int32.toInt_ofNat_small (by omega)
  have hn : ¬ (Int32.ofNat j) < 0 := by rw [Int32.lt_iff_toInt_lt, ej]; have : (0 : Int32).toInt = 0 := rfl; omega
  have ec : (Int32.ofNat j).toNatClampNeg = j := by show (Int32.ofNat j).toInt.toNat = j; omega
  have ix : (Term.index 0).eval as s none [j] s = some (.int (Int32.ofNat j)) := by have := idx_at (args := as) (s := s) (first := s) (o := none) hn; rw [ec] at this; exact this
  have u3 := elem_f (ev [j]) ix (A.fin (Vm.Alike.refl _)) hn
  rw [ec] at u3
  exact u3.symm.trans u2
theorem own_v1 : ∀ j : Fin 100, (48 : Int32) + Int32.ofNat j.val % 10 = Int32.ofNat (48 + j.val % 10) := by decide
theorem own_v2 : ∀ j : Fin 100, (48 : Int32) + Int32.ofNat j.val / 10 = Int32.ofNat (48 + j.val / 10) := by decide
theorem own_ix {s : State} {as : Array Value} {j : Nat} (hj : j < 100) : (Term.index 0).eval as s none [j] s = some (.int (Int32.ofNat j)) := by
  have ej : (Int32.ofNat j).toInt = (j : Int) := Int32.toInt_ofNat_small (by omega)
  have hn : ¬ (Int32.ofNat j) < 0 := by rw [Int32.lt_iff_toInt_lt, ej]; have : (0 : Int32).toInt = 0 := rfl; omega
  have ec : (Int32.ofNat j).toNatClampNeg = j := by show (Int32.ofNat j).toInt.toNat = j; omega
  have := idx_at (args := as) (s := s) (first := s) (o := none) hn; rw [ec] at this; exact this
theorem own_F1 {s : State} {as : Array Value} {j : Nat} (hj : j < 100) : (Term.add (.int (48 : Int32)) (.rem (.index 0) (.int (10 : Int32)))).eval as s none [j] s = some (.int (Int32.ofNat (48 + j % 10))) := by
  rw [← own_v1 ⟨j, hj⟩]; simp [Term.eval, own_ix hj]
theorem own_F2 {s : State} {as : Array Value} {j : Nat} (hj : j < 100) : (Term.add (.int (48 : Int32)) (.div (.index 0) (.int (10 : Int32)))).eval as s none [j] s = some (.int (Int32.ofNat (48 + j / 10))) := by
  rw [← own_v2 ⟨j, hj⟩]; simp [Term.eval, own_ix hj]
theorem own_Tk {Z : State} {h h1 h2 : Heap} {x t : Addr} {cs : List Int32} {ws : List Addr} (H : own_T Z h x t cs) (K : Keep h h1 []) (K2 : Keep h1 h2 ws) (n1 : x ∉ ws) (n2 : t ∉ ws) : own_T Z h2 x t cs :=
  ⟨(H.1.keep K).keep K2, (H.2.1.keep K (by simp)).keep K2 n1, (H.2.2.1.keep K (by simp)).keep K2 n1, (H.2.2.2.keep K (by simp)).keep K2 n2⟩
theorem own_nin {k x o fa : Nat} (h : x < k) (h1 : k ≤ o) (h2 : k ≤ fa) : x ∉ [o, fa] := by
  simp only [List.mem_cons, List.not_mem_nil, or_false, not_or]
  constructor <;> intro e <;> omega
set_option maxRecDepth 65536 in
set_option maxHeartbeats 40000000 in
theorem law_e {p : Program} {l : Launch} {e : Env} {s : State} {m : MethodId} {args : Array Value} {below : List Frame} {meth : Method} {c : Code} {T : State} {Z : State} {a0 : Array Value} {h : Heap} {locs : List Loc} (X : Stand p l e room_1 s m args below meth c T locs 16 106) (B : Bdy p s m meth c Z a0 "com/example/measured_grab/measuredgrab/bench/LatenciesAddPinLaw" "law" code 26 (some .boolean) tables_1) (eT : T.heap = h) (n0 : Nat) (Zs : n0 ≤ h.size) (N : Fr n0 locs) (j0 : Int64) (j2 : Int64) (j4 : Int64) (i6 : Int32) (i7 : Int32) (j8 : Int64) (j10 : Int64) (j12 : Int64) (i14 : Int32) (o15 : Addr) (o16 : Addr) (j17 : Int64) (j19 : Int64) (j21 : Int64) (j23 : Int64) (o25 : Addr) (b0 : Addr) (b1 : Addr) (tx : Addr) (ty : Addr) (tn : Nat) (vm1 : Vm) (z : Int32) (a1 : Addr) (a2 : Addr) (vf : Value) (hTx : own_T Z h b1 tx (own_fm tn)) (hTy : own_T Z h b0 ty (own_fm tn)) (hn0 : Z.heap.size ≤ n0) (hO : Ext Z.heap h) (S0 : Sta Z Z.heap "java/lang/String" "COMPACT_STRINGS" "Z" (.int z)) (hz : ¬ z = 0) (S1 : Sta Z Z.heap "java/lang/Integer" "DigitOnes" "[B" (.ref a1)) (S2 : Sta Z Z.heap "java/lang/Integer" "DigitTens" "[B" (.ref a2)) (Da1 : Ax Z Z.heap a1 .byte 100 own_d1) (Da2 : Ax Z Z.heap a2 .byte 100 own_d2) (S3 : Sta Z Z.heap "jdk/internal/util/Preconditions" "SIOOBE_FORMATTER" "Ljava/util/function/BiFunction;" vf) (hv : vf.isRef = true) (hEL : EW Z a0 consts_1) :
    Go p e below s room_1.cells room_1.slots (fun v h2 L => (v = some (.int 1) ∧ Fr n0 L) ∧ ∃ ws, Keep h h2 ws ∧ ∀ x ∈ ws, Safe Z consts_1 vm1 h x) (T.setTop (mkF m 251 #[.val (.long j0), .second, .val (.long j2), .second, .val (.long j4), .second, .val (.int i6), .val (.int i7), .val (.long j8), .second, .val (.long j10), .second, .val (.long j12), .second, .val (.int i14), .val (.ref o15), .val (.ref o16), .val (.long j17), .second, .val (.long j19), .second, .val (.long j21), .second, .val (.long j23), .second, .val (.ref o25)] [(.ref b0), (.ref b1)])) := by
  refine g_virtual X B eT 0 hTx.1 (y := (⟨"java/lang/String", "equals", "(Ljava/lang/Object;)Z"⟩ : MethodName)) (argsL := [(.ref b0)]) (rest := []) (a := b1) (B.w 234 rfl) (B.w 235 rfl) (B.w 237 rfl) (B.w 236 rfl) (B.w 67 rfl) (B.w 238 rfl) (by decide) (se_met l Z a0 B.2.2.1 [] h b1 b0 tx ty _ z hTx hTy (S0.ext hO) hz) (by decide) (by decide) (by decide) (by decide) rfl (lenOf own_pd30 rfl) rfl (Nat.le_of_eq rfl) at_251 (pc' := 254) rfl (fun T1 v1 L1 X1 Q1 => ?_)
  obtain ⟨rfl, hh1, rfl⟩ := Q1
  rw [List.append_nil] at X1
  show GoX p e below _ _ (T1.setTop (mkF m 254 #[.val (.long j0), .second, .val (.long j2), .second, .val (.long j4), .second, .val (.int i6), .val (.int i7), .val (.long j8), .second, .val (.long j10), .second, .val (.long j12), .second, .val (.int i14), .val (.ref o15), .val (.ref o16), .val (.long j17), .second, .val (.long j19), .second, .val (.long j21), .second, .val (.long j23), .second, .val (.ref o25)] [(.int (1 : Int32))]))
  exact g_retN X1 B (t := .boolean) rfl (by simp) at_254 (by decide) (by decide) ⟨⟨congrArg (fun z => some (Value.int z)) (by decide : nar .boolean (1 : Int32) = 1), N⟩, [], by rw [hh1]; exact Keep.refl h [], by simp⟩
set_option maxRecDepth 65536 in
set_option maxHeartbeats 40000000 in
theorem law_d {p : Program} {l : Launch} {e : Env} {s : State} {m : MethodId} {args : Array Value} {below : List Frame} {meth : Method} {c : Code} {T : State} {Z : State} {a0 : Array Value} {h : Heap} {locs : List Loc} (X : Stand p l e room_1 s m args below meth c T locs 8 54) (B : Bdy p s m meth c Z a0 "com/example/measured_grab/measuredgrab/bench/LatenciesAddPinLaw" "law" code 26 (some .boolean) tables_1) (eT : T.heap = h) (n0 : Nat) (Zs : n0 ≤ h.size) (N : Fr n0 locs) (j0 : Int64) (j2 : Int64) (j4 : Int64) (i6 : Int32) (i7 : Int32) (j8 : Int64) (j10 : Int64) (j12 : Int64) (i14 : Int32) (o15 : Addr) (o16 : Addr) (j17 : Int64) (j19 : Int64) (j21 : Int64) (j23 : Int64) (t : Addr) (z : Int32) (a1 : Addr) (a2 : Addr) (vf : Value) (hT : own_T Z h o16 t (own_fm (j23.toInt.toNat / 100000))) (h23 : 0 ≤ j23.toInt) (HC : CHv Z consts_1 s.vm h) (hn0 : Z.heap.size ≤ n0) (hO : Ext Z.heap h) (S0 : Sta Z Z.heap "java/lang/String" "COMPACT_STRINGS" "Z" (.int z)) (hz : ¬ z = 0) (S1 : Sta Z Z.heap "java/lang/Integer" "DigitOnes" "[B" (.ref a1)) (S2 : Sta Z Z.heap "java/lang/Integer" "DigitTens" "[B" (.ref a2)) (Da1 : Ax Z Z.heap a1 .byte 100 own_d1) (Da2 : Ax Z Z.heap a2 .byte 100 own_d2) (S3 : Sta Z Z.heap "jdk/internal/util/Preconditions" "SIOOBE_FORMATTER" "Ljava/util/function/BiFunction;" vf) (hv : vf.isRef = true) (hEL : EW Z a0 consts_1) :
    GoV p e below Z consts_1 s.vm h s room_1.cells room_1.slots (fun v _ L => v = some (.int 1) ∧ Fr n0 L) (T.setTop (mkF m 204 #[.val (.long j0), .second, .val (.long j2), .second, .val (.long j4), .second, .val (.int i6), .val (.int i7), .val (.long j8), .second, .val (.long j10), .second, .val (.long j12), .second, .val (.int i14), .val (.ref o15), .val (.ref o16), .val (.long j17), .second, .val (.long j19), .second, .val (.long j21), .second, .val (.long j23), .second, .unset] [])) := by
  have K := Keep.refl h []
  refine g_lload X B at_204 (pc' := 206) rfl (v := j23) rfl ?_
  refine g_ldc2 X B (B.w 1 rfl) at_206 (pc' := 209) rfl ?_
  refine g_lcmp_ge X B at_209 at_210 (pcT := 225) (pcF := 213) (by decide) rfl rfl (fun c209_0 => ?_) (fun c209_0 => ?_)
  · rw [Int64.lt_iff_toInt_lt] at c209_0
    refine g_aload X B at_213 (pc' := 215) rfl (v := (.ref o16)) rfl rfl ?_
    refine g_lload X B at_215 (pc' := 217) rfl (v := j23) rfl ?_
    refine g_ldc2 X B (B.w 200 rfl) at_217 (pc' := 220) rfl ?_
    refine g_ldiv X B (by decide) at_220 (pc' := 221) rfl ?_
    refine g_callS X B eT 0 (y := (⟨"com/example/measured_grab/measuredgrab/bench/LatenciesAddPinLaw", "matches", "(Ljava/lang/String;J)Z"⟩ : MethodName)) (argsL := [(.ref o16), (.long (j23 / (100000 : Int64)))]) (rest := []) (B.w 201 rfl) (B.w 202 rfl) (B.w 203 rfl) (B.w 204 rfl) (by decide) (ma_met l Z a0 B.2.2.1 [] h o16 (j23 / (100000 : Int64)) t _ (j23.toInt.toNat / 100000) vf z hT.1 hT.2.1 hT.2.2.1 hT.2.2.2 rfl (own_ld (Int.toNat_of_nonneg h23).symm rfl (by decide)) (by have k9 : (1000000000 : Int64).toInt = 1000000000 := rfl; omega) (S3.ext hO) hv (S0.ext hO) hz) (by decide) (by decide) (by decide) (by decide) rfl (lenOf own_pd31 rfl) rfl (Nat.le_of_eq rfl) at_221 (pc' := 224) rfl (fun T1 v1 L1 X1 Q1 => ?_)
    obtain ⟨rfl, hh1, rfl⟩ := Q1
    rw [List.append_nil] at X1
    show GoX p e below _ _ (T1.setTop (mkF m 224 #[.val (.long j0), .second, .val (.long j2), .second, .val (.long j4), .second, .val (.int i6), .val (.int i7), .val (.long j8), .second, .val (.long j10), .second, .val (.long j12), .second, .val (.int i14), .val (.ref o15), .val (.ref o16), .val (.long j17), .second, .val (.long j19), .second, .val (.long j21), .second, .val (.long j23), .second, .unset] [(.int (1 : Int32))]))
    exact own_narrow B.z hEL HC (g_retN X1 B (t := .boolean) rfl (by simp) at_224 (by decide) (by decide) ⟨⟨congrArg (fun z => some (Value.int z)) (by decide : nar .boolean (1 : Int32) = 1), N⟩, [], by rw [hh1]; exact K, by simp⟩)
  · refine g_new X B (B.w 3 rfl) (B.w 4 rfl) (B.w 5 rfl) eT at_225 (pc' := 228) rfl (by decide) (by decide) (fun T2 h2 ob2 q2 X2 e2 E2 A2 D2 => ?_)
    have ne_o16_ob2 : o16 ≠ ob2 := fun q => absurd (hT.1.lt) (by rw [q, q2]; exact Nat.lt_irrefl _)
    have G_ob2 : n0 ≤ ob2 := by rw [q2]; exact Zs
    have H_ob2 : h.size ≤ ob2 := by rw [q2]; exact K.1
    have E_o16_2 := hT.1.ext E2
    have Zs_2 := Nat.le_trans Zs E2.1
    have O_2 := own_old_ext hO E2
    have K_2 := K.ext E2
    have F_ob2_sorted : Fld Z h2 ob2 "com/example/measured_grab/measuredgrab/bench/Latencies" "sorted" "Z" (.int (0 : Int32)) := D2 (Or.inl (B.w 13 rfl)) (ty := .boolean) (by decide)
    have F_ob2_nanos : Fld Z h2 ob2 "com/example/measured_grab/measuredgrab/bench/Latencies" "nanos" "[J" .null := D2 (Or.inr (B.w 16 rfl)) (ty := (.array .long)) (by decide)
    have F_ob2_count : Fld Z h2 ob2 "com/example/measured_grab/measuredgrab/bench/Latencies" "count" "I" (.int (0 : Int32)) := D2 (Or.inl (B.w 23 rfl)) (ty := .int) (by decide)
    refine g_dup X2 B at_228 (pc' := 229) rfl rfl ?_
    refine g_iconst X2 B at_229 (pc' := 230) rfl (v := (1 : Int32)) (by decide) ?_
    refine g_special X2 B e2 1 (y := (⟨"com/example/measured_grab/measuredgrab/bench/Latencies", "<init>", "(I)V"⟩ : MethodName)) (argsL := [(.int (1 : Int32))]) (rest := [(.ref ob2)]) (a := ob2) rfl (B.w 6 rfl) (B.w 7 rfl) (B.w 5 rfl) (B.w 8 rfl) (by decide) (in1_met l Z a0 B.2.2.1 [] h2 ob2 (1 : Int32) n0 Zs_2 A2 G_ob2 F_ob2_nanos F_ob2_count F_ob2_sorted rfl) (by decide) (by decide) (by decide) (by decide) rfl (lenOf own_pd4 rfl) rfl (Nat.le_of_eq rfl) at_230 (pc' := 233) rfl (fun T3 v3 L3 X3 Q3 => ?_)
    obtain ⟨fa, rfl, Nq3, Kq3, noa, gq3, Lq3⟩ := Q3
    have N3 := Fr.app N Nq3
    have ga := Nat.le_trans Zs_2 gq3
    have Hfa := Nat.le_trans K_2.1 gq3
    have E_o16_3 := E_o16_2.keep Kq3
    have E_ob2_3 := A2.keep Kq3
    have Zs_3 := Nat.le_trans Zs_2 Kq3.1
    have O_3 := own_old_keep O_2 Kq3 (by intro x hx; simp only [List.mem_cons, List.not_mem_nil, or_false] at hx; subst hx; exact Nat.le_trans hn0 G_ob2)
    have K_3 := K_2.trans Kq3 (by intro x hx; simp only [List.mem_cons, List.not_mem_nil, or_false] at hx; subst hx; exact Or.inr H_ob2)
    show GoX p e below _ _ (T3.setTop (mkF m 233 #[.val (.long j0), .second, .val (.long j2), .second, .val (.long j4), .second, .val (.int i6), .val (.int i7), .val (.long j8), .second, .val (.long j10), .second, .val (.long j12), .second, .val (.int i14), .val (.ref o15), .val (.ref o16), .val (.long j17), .second, .val (.long j19), .second, .val (.long j21), .second, .val (.long j23), .second, .unset] [(.ref ob2)]))
    refine g_astore X3 B at_233 (pc' := 235) rfl rfl (Ls' := #[.val (.long j0), .second, .val (.long j2), .second, .val (.long j4), .second, .val (.int i6), .val (.int i7), .val (.long j8), .second, .val (.long j10), .second, .val (.long j12), .second, .val (.int i14), .val (.ref o15), .val (.ref o16), .val (.long j17), .second, .val (.long j19), .second, .val (.long j21), .second, .val (.long j23), .second, .val (.ref ob2)]) rfl ?_
    refine g_aload X3 B at_235 (pc' := 237) rfl (v := (.ref ob2)) rfl rfl ?_
    refine g_lload X3 B at_237 (pc' := 239) rfl (v := j23) rfl ?_
    refine g_virtual X3 B rfl 0 E_ob2_3 (y := (⟨"com/example/measured_grab/measuredgrab/bench/Latencies", "add", "(J)V"⟩ : MethodName)) (argsL := [(.long j23)]) (rest := []) (a := ob2) (B.w 17 rfl) (B.w 18 rfl) (B.w 20 rfl) (B.w 19 rfl) (B.w 5 rfl) (B.w 21 rfl) (by decide) (ad10_met l Z a0 B.2.2.1 [] T3.heap ob2 j23 fa 0 0 0 1 n0 Zs_3 E_ob2_3 G_ob2 ga noa Lq3) (by decide) (by decide) (by decide) (by decide) rfl (lenOf own_pd32 rfl) rfl (Nat.le_of_eq rfl) at_239 (pc' := 242) rfl (fun T4 v4 L4 X4 Q4 => ?_)
    obtain ⟨rfl, Nq4, Kq4, Lq4⟩ := Q4
    have N4 := Fr.app N3 Nq4
    have E_o16_4 := E_o16_3.keep Kq4
    have E_ob2_4 := E_ob2_3.keep Kq4
    have Zs_4 := Nat.le_trans Zs_3 Kq4.1
    have O_4 := own_old_keep O_3 Kq4 (by intro x hx; simp only [List.mem_cons, List.not_mem_nil, or_false] at hx; rcases hx with rfl | rfl <;> first | exact Nat.le_trans hn0 G_ob2 | exact Nat.le_trans hn0 ga)
    have K_4 := K_3.trans Kq4 (by intro x hx; simp only [List.mem_cons, List.not_mem_nil, or_false] at hx; rcases hx with rfl | rfl <;> first | exact Or.inr H_ob2 | exact Or.inr Hfa)
    show GoX p e below _ _ (T4.setTop (mkF m 242 #[.val (.long j0), .second, .val (.long j2), .second, .val (.long j4), .second, .val (.int i6), .val (.int i7), .val (.long j8), .second, .val (.long j10), .second, .val (.long j12), .second, .val (.int i14), .val (.ref o15), .val (.ref o16), .val (.long j17), .second, .val (.long j19), .second, .val (.long j21), .second, .val (.long j23), .second, .val (.ref ob2)] []))
    refine g_aload X4 B at_242 (pc' := 244) rfl (v := (.ref o16)) rfl rfl ?_
    refine g_aload X4 B at_244 (pc' := 246) rfl (v := (.ref ob2)) rfl rfl ?_
    refine g_bipush X4 B at_246 (pc' := 248) rfl (v := (100 : Int32)) (by decide) ?_
    have hne16 : o16 ∉ [ob2, fa] := own_nin hT.1.lt H_ob2 Hfa
    have hnt16 : t ∉ [ob2, fa] := own_nin hT.2.2.2.lt H_ob2 Hfa
    have Hc5 := CHr.keep K_4 (by simp) HC
    refine g_virtualW X4 B rfl 1 E_ob2_4 (y := (⟨"com/example/measured_grab/measuredgrab/bench/Latencies", "percentile", "(I)Ljava/lang/String;"⟩ : MethodName)) (a := ob2) (argsL := [(.int (100 : Int32))]) (rest := [(.ref o16)]) Hc5.1 hEL (B.w 24 rfl) (B.w 25 rfl) (B.w 27 rfl) (B.w 26 rfl) (B.w 5 rfl) (B.w 28 rfl) (by decide) (pq1_met l Z a0 B.2.2.1 T4.heap ob2 (100 : Int32) fa j23 0 0 z a1 a2 n0 Zs_4 E_ob2_4 G_ob2 ga noa Lq4 rfl h23 hn0 O_4 S0 hz S1 S2 Da1 Da2 hEL) (by decide) (by decide) (by decide) (by decide) rfl (lenOf own_pd33 rfl) rfl (Nat.le_of_eq rfl) at_248 (pc' := 251) rfl (fun T5 v5 L5 X5 B5 hS5 hW5 hC5 Q5 => ?_)
    obtain ⟨oo, tq, rfl, Nq5, Kq5, go5, gt5, Tq5⟩ := Q5
    have N5 := Fr.app N4 Nq5
    have O5q := own_old_keep O_4 Kq5 (by intro x hx; simp only [List.mem_cons, List.not_mem_nil, or_false] at hx; rcases hx with rfl | rfl <;> first | exact Nat.le_trans hn0 G_ob2 | exact Nat.le_trans hn0 ga)
    have Zs5q := Nat.le_trans Zs_4 Kq5.1
    show GoX p e below _ _ (T5.setTop (mkF m 251 #[.val (.long j0), .second, .val (.long j2), .second, .val (.long j4), .second, .val (.int i6), .val (.int i7), .val (.long j8), .second, .val (.long j10), .second, .val (.long j12), .second, .val (.int i14), .val (.ref o15), .val (.ref o16), .val (.long j17), .second, .val (.long j19), .second, .val (.long j21), .second, .val (.long j23), .second, .val (.ref ob2)] [(.ref oo), (.ref o16)]))
    refine own_wide hS5 (Nat.le_refl _) hW5 hEL (Hc5.trans hC5) ?_
    exact law_e X5 B5 rfl n0 Zs5q N5 (j0) (j2) (j4) (i6) (i7) (j8) (j10) (j12) (i14) (o15) (o16) (j17) (j19) (j21) (j23) (ob2) oo o16 t tq (j23.toInt.toNat / 100000) _ z a1 a2 vf (own_Tk hT (K_4) Kq5 hne16 hnt16) Tq5 hn0 O5q S0 hz S1 S2 Da1 Da2 S3 hv hEL
set_option maxRecDepth 65536 in
set_option maxHeartbeats 40000000 in
theorem law_b {p : Program} {l : Launch} {e : Env} {s : State} {m : MethodId} {args : Array Value} {below : List Frame} {meth : Method} {c : Code} {T : State} {Z : State} {a0 : Array Value} {h : Heap} {locs : List Loc} (X : Stand p l e room_1 s m args below meth c T locs 8 54) (B : Bdy p s m meth c Z a0 "com/example/measured_grab/measuredgrab/bench/LatenciesAddPinLaw" "law" code 26 (some .boolean) tables_1) (eT : T.heap = h) (n0 : Nat) (Zs : n0 ≤ h.size) (N : Fr n0 locs) (j0 : Int64) (j2 : Int64) (j4 : Int64) (i6 : Int32) (i7 : Int32) (j8 : Int64) (j10 : Int64) (j12 : Int64) (i14 : Int32) (o15 : Addr) (b0 : Addr) (t : Addr) (z : Int32) (a1 : Addr) (a2 : Addr) (vf : Value) (hT : own_T Z h b0 t (own_fm ((own_pk i14 (own_lo j8 j10 j12) (own_md j8 j10 j12) (own_hi j8 j10 j12)).toInt.toNat / 100000))) (hx : 0 ≤ j8.toInt) (hy : 0 ≤ j10.toInt) (hu : 0 ≤ j12.toInt) (HC : CHv Z consts_1 s.vm h) (hn0 : Z.heap.size ≤ n0) (hO : Ext Z.heap h) (S0 : Sta Z Z.heap "java/lang/String" "COMPACT_STRINGS" "Z" (.int z)) (hz : ¬ z = 0) (S1 : Sta Z Z.heap "java/lang/Integer" "DigitOnes" "[B" (.ref a1)) (S2 : Sta Z Z.heap "java/lang/Integer" "DigitTens" "[B" (.ref a2)) (Da1 : Ax Z Z.heap a1 .byte 100 own_d1) (Da2 : Ax Z Z.heap a2 .byte 100 own_d2) (S3 : Sta Z Z.heap "jdk/internal/util/Preconditions" "SIOOBE_FORMATTER" "Ljava/util/function/BiFunction;" vf) (hv : vf.isRef = true) (hEL : EW Z a0 consts_1) :
    GoV p e below Z consts_1 s.vm h s room_1.cells room_1.slots (fun v _ L => v = some (.int 1) ∧ Fr n0 L) (T.setTop (mkF m 118 #[.val (.long j0), .second, .val (.long j2), .second, .val (.long j4), .second, .val (.int i6), .val (.int i7), .val (.long j8), .second, .val (.long j10), .second, .val (.long j12), .second, .val (.int i14), .val (.ref o15), .unset, .unset, .unset, .unset, .unset, .unset, .unset, .unset, .unset, .unset] [(.ref b0)])) := by
  refine g_astore X B at_118 (pc' := 120) rfl rfl (Ls' := #[.val (.long j0), .second, .val (.long j2), .second, .val (.long j4), .second, .val (.int i6), .val (.int i7), .val (.long j8), .second, .val (.long j10), .second, .val (.long j12), .second, .val (.int i14), .val (.ref o15), .val (.ref b0), .unset, .unset, .unset, .unset, .unset, .unset, .unset, .unset, .unset]) rfl ?_
  refine g_lload X B at_120 (pc' := 122) rfl (v := j8) rfl ?_
  refine g_lload X B at_122 (pc' := 124) rfl (v := j10) rfl ?_
  refine g_callP X B eT 0 (y := (⟨"java/lang/Math", "min", "(JJ)J"⟩ : MethodName)) (argsL := [(.long j8), (.long j10)]) (rest := []) (w := (.long (mi_f0 j8 j10))) (B.w 196 rfl) (B.w 197 rfl) (B.w 50 rfl) (B.w 198 rfl) (by decide) (mi_met l Z a0 B.2.2.1 [] h j8 j10) (by decide) (by decide) (by decide) (by decide) rfl (lenOf own_pd28 rfl) rfl (Nat.le_of_eq rfl) at_124 (pc' := 127) rfl (fun T1 X1 e1 => ?_)
  refine g_lload X1 B at_127 (pc' := 129) rfl (v := j12) rfl ?_
  refine g_callP X1 B e1 0 (y := (⟨"java/lang/Math", "min", "(JJ)J"⟩ : MethodName)) (argsL := [(.long (mi_f0 j8 j10)), (.long j12)]) (rest := []) (w := (.long (mi_f0 (mi_f0 j8 j10) j12))) (B.w 196 rfl) (B.w 197 rfl) (B.w 50 rfl) (B.w 198 rfl) (by decide) (mi_met l Z a0 B.2.2.1 [] h (mi_f0 j8 j10) j12) (by decide) (by decide) (by decide) (by decide) rfl (lenOf own_pd28 rfl) rfl (Nat.le_of_eq rfl) at_129 (pc' := 132) rfl (fun T2 X2 e2 => ?_)
  refine g_lstore X2 B at_132 (pc' := 134) rfl (Ls' := #[.val (.long j0), .second, .val (.long j2), .second, .val (.long j4), .second, .val (.int i6), .val (.int i7), .val (.long j8), .second, .val (.long j10), .second, .val (.long j12), .second, .val (.int i14), .val (.ref o15), .val (.ref b0), .val (.long (mi_f0 (mi_f0 j8 j10) j12)), .second, .unset, .unset, .unset, .unset, .unset, .unset, .unset]) rfl ?_
  obtain ⟨jl, g_jl⟩ : ∃ z, z = (mi_f0 (mi_f0 j8 j10) j12) := ⟨_, rfl⟩
  rw [← g_jl]
  have hjl : own_lo j8 j10 j12 = jl := g_jl.symm
  refine g_lload X2 B at_134 (pc' := 136) rfl (v := j8) rfl ?_
  refine g_lload X2 B at_136 (pc' := 138) rfl (v := j10) rfl ?_
  refine g_callP X2 B e2 0 (y := (⟨"java/lang/Math", "max", "(JJ)J"⟩ : MethodName)) (argsL := [(.long j8), (.long j10)]) (rest := []) (w := (.long (mx_f0 j8 j10))) (B.w 199 rfl) (B.w 49 rfl) (B.w 50 rfl) (B.w 51 rfl) (by decide) (mx_met l Z a0 B.2.2.1 [] h j8 j10) (by decide) (by decide) (by decide) (by decide) rfl (lenOf own_pd28 rfl) rfl (Nat.le_of_eq rfl) at_138 (pc' := 141) rfl (fun T3 X3 e3 => ?_)
  refine g_lload X3 B at_141 (pc' := 143) rfl (v := j12) rfl ?_
  refine g_callP X3 B e3 0 (y := (⟨"java/lang/Math", "max", "(JJ)J"⟩ : MethodName)) (argsL := [(.long (mx_f0 j8 j10)), (.long j12)]) (rest := []) (w := (.long (mx_f0 (mx_f0 j8 j10) j12))) (B.w 199 rfl) (B.w 49 rfl) (B.w 50 rfl) (B.w 51 rfl) (by decide) (mx_met l Z a0 B.2.2.1 [] h (mx_f0 j8 j10) j12) (by decide) (by decide) (by decide) (by decide) rfl (lenOf own_pd28 rfl) rfl (Nat.le_of_eq rfl) at_143 (pc' := 146) rfl (fun T4 X4 e4 => ?_)
  refine g_lstore X4 B at_146 (pc' := 148) rfl (Ls' := #[.val (.long j0), .second, .val (.long j2), .second, .val (.long j4), .second, .val (.int i6), .val (.int i7), .val (.long j8), .second, .val (.long j10), .second, .val (.long j12), .second, .val (.int i14), .val (.ref o15), .val (.ref b0), .val (.long jl), .second, .val (.long (mx_f0 (mx_f0 j8 j10) j12)), .second, .unset, .unset, .unset, .unset, .unset]) rfl ?_
  obtain ⟨jh, g_jh⟩ : ∃ z, z = (mx_f0 (mx_f0 j8 j10) j12) := ⟨_, rfl⟩
  rw [← g_jh]
  have hjh : own_hi j8 j10 j12 = jh := g_jh.symm
  refine g_lload X4 B at_148 (pc' := 150) rfl (v := j8) rfl ?_
  refine g_lload X4 B at_150 (pc' := 152) rfl (v := j10) rfl ?_
  refine g_callP X4 B e4 0 (y := (⟨"java/lang/Math", "min", "(JJ)J"⟩ : MethodName)) (argsL := [(.long j8), (.long j10)]) (rest := []) (w := (.long (mi_f0 j8 j10))) (B.w 196 rfl) (B.w 197 rfl) (B.w 50 rfl) (B.w 198 rfl) (by decide) (mi_met l Z a0 B.2.2.1 [] h j8 j10) (by decide) (by decide) (by decide) (by decide) rfl (lenOf own_pd28 rfl) rfl (Nat.le_of_eq rfl) at_152 (pc' := 155) rfl (fun T5 X5 e5 => ?_)
  refine g_lload X5 B at_155 (pc' := 157) rfl (v := j8) rfl ?_
  refine g_lload X5 B at_157 (pc' := 159) rfl (v := j10) rfl ?_
  refine g_callP X5 B e5 2 (y := (⟨"java/lang/Math", "max", "(JJ)J"⟩ : MethodName)) (argsL := [(.long j8), (.long j10)]) (rest := [(.long (mi_f0 j8 j10))]) (w := (.long (mx_f0 j8 j10))) (B.w 199 rfl) (B.w 49 rfl) (B.w 50 rfl) (B.w 51 rfl) (by decide) (mx_met l Z a0 B.2.2.1 [] h j8 j10) (by decide) (by decide) (by decide) (by decide) rfl (lenOf own_pd28 rfl) rfl (Nat.le_of_eq rfl) at_159 (pc' := 162) rfl (fun T6 X6 e6 => ?_)
  refine g_lload X6 B at_162 (pc' := 164) rfl (v := j12) rfl ?_
  refine g_callP X6 B e6 2 (y := (⟨"java/lang/Math", "min", "(JJ)J"⟩ : MethodName)) (argsL := [(.long (mx_f0 j8 j10)), (.long j12)]) (rest := [(.long (mi_f0 j8 j10))]) (w := (.long (mi_f0 (mx_f0 j8 j10) j12))) (B.w 196 rfl) (B.w 197 rfl) (B.w 50 rfl) (B.w 198 rfl) (by decide) (mi_met l Z a0 B.2.2.1 [] h (mx_f0 j8 j10) j12) (by decide) (by decide) (by decide) (by decide) rfl (lenOf own_pd28 rfl) rfl (Nat.le_of_eq rfl) at_164 (pc' := 167) rfl (fun T7 X7 e7 => ?_)
  refine g_callP X7 B e7 0 (y := (⟨"java/lang/Math", "max", "(JJ)J"⟩ : MethodName)) (argsL := [(.long (mi_f0 j8 j10)), (.long (mi_f0 (mx_f0 j8 j10) j12))]) (rest := []) (w := (.long (mx_f0 (mi_f0 j8 j10) (mi_f0 (mx_f0 j8 j10) j12)))) (B.w 199 rfl) (B.w 49 rfl) (B.w 50 rfl) (B.w 51 rfl) (by decide) (mx_met l Z a0 B.2.2.1 [] h (mi_f0 j8 j10) (mi_f0 (mx_f0 j8 j10) j12)) (by decide) (by decide) (by decide) (by decide) rfl (lenOf own_pd28 rfl) rfl (Nat.le_of_eq rfl) at_167 (pc' := 170) rfl (fun T8 X8 e8 => ?_)
  refine g_lstore X8 B at_170 (pc' := 172) rfl (Ls' := #[.val (.long j0), .second, .val (.long j2), .second, .val (.long j4), .second, .val (.int i6), .val (.int i7), .val (.long j8), .second, .val (.long j10), .second, .val (.long j12), .second, .val (.int i14), .val (.ref o15), .val (.ref b0), .val (.long jl), .second, .val (.long jh), .second, .val (.long (mx_f0 (mi_f0 j8 j10) (mi_f0 (mx_f0 j8 j10) j12))), .second, .unset, .unset, .unset]) rfl ?_
  obtain ⟨jm, g_jm⟩ : ∃ z, z = (mx_f0 (mi_f0 j8 j10) (mi_f0 (mx_f0 j8 j10) j12)) := ⟨_, rfl⟩
  rw [← g_jm]
  have hjm : own_md j8 j10 j12 = jm := g_jm.symm
  have hT2 := hT
  have hnn := own_nn3 hx hy hu
  rw [hjl, hjm, hjh] at hT2 hnn
  refine g_iload X8 B at_172 (pc' := 174) rfl (v := i14) rfl ?_
  refine g_bipush X8 B at_174 (pc' := 176) rfl (v := (33 : Int32)) (by decide) ?_
  refine g_icmp_gt X8 B at_176 (pcT := 186) (pcF := 179) (by decide) rfl rfl (fun c176_0 => ?_) (fun c176_0 => ?_)
  · refine g_iload X8 B at_186 (pc' := 188) rfl (v := i14) rfl ?_
    refine g_bipush X8 B at_188 (pc' := 190) rfl (v := (66 : Int32)) (by decide) ?_
    refine g_icmp_gt X8 B at_190 (pcT := 200) (pcF := 193) (by decide) rfl rfl (fun c190_1 => ?_) (fun c190_1 => ?_)
    · refine g_lload X8 B at_200 (pc' := 202) rfl (v := jh) rfl ?_
      refine g_lstore X8 B at_202 (pc' := 204) rfl (Ls' := #[.val (.long j0), .second, .val (.long j2), .second, .val (.long j4), .second, .val (.int i6), .val (.int i7), .val (.long j8), .second, .val (.long j10), .second, .val (.long j12), .second, .val (.int i14), .val (.ref o15), .val (.ref b0), .val (.long jl), .second, .val (.long jh), .second, .val (.long jm), .second, .val (.long jh), .second, .unset]) rfl ?_
      exact law_d X8 B e8 n0 Zs N (j0) (j2) (j4) (i6) (i7) (j8) (j10) (j12) (i14) (o15) (b0) (jl) (jh) (jm) (jh) t z a1 a2 vf (by rw [own_pk, if_pos c176_0, if_pos c190_1] at hT2; exact hT2) hnn.2.2 HC hn0 hO S0 hz S1 S2 Da1 Da2 S3 hv hEL
    · refine g_lload X8 B at_193 (pc' := 195) rfl (v := jm) rfl ?_
      refine g_lstore X8 B at_195 (pc' := 197) rfl (Ls' := #[.val (.long j0), .second, .val (.long j2), .second, .val (.long j4), .second, .val (.int i6), .val (.int i7), .val (.long j8), .second, .val (.long j10), .second, .val (.long j12), .second, .val (.int i14), .val (.ref o15), .val (.ref b0), .val (.long jl), .second, .val (.long jh), .second, .val (.long jm), .second, .val (.long jm), .second, .unset]) rfl ?_
      refine g_goto X8 B at_197 (pc' := 204) (by decide) rfl ?_
      exact law_d X8 B e8 n0 Zs N (j0) (j2) (j4) (i6) (i7) (j8) (j10) (j12) (i14) (o15) (b0) (jl) (jh) (jm) (jm) t z a1 a2 vf (by rw [own_pk, if_pos c176_0, if_neg c190_1] at hT2; exact hT2) hnn.2.1 HC hn0 hO S0 hz S1 S2 Da1 Da2 S3 hv hEL
  · refine g_lload X8 B at_179 (pc' := 181) rfl (v := jl) rfl ?_
    refine g_lstore X8 B at_181 (pc' := 183) rfl (Ls' := #[.val (.long j0), .second, .val (.long j2), .second, .val (.long j4), .second, .val (.int i6), .val (.int i7), .val (.long j8), .second, .val (.long j10), .second, .val (.long j12), .second, .val (.int i14), .val (.ref o15), .val (.ref b0), .val (.long jl), .second, .val (.long jh), .second, .val (.long jm), .second, .val (.long jl), .second, .unset]) rfl ?_
    refine g_goto X8 B at_183 (pc' := 204) (by decide) rfl ?_
    exact law_d X8 B e8 n0 Zs N (j0) (j2) (j4) (i6) (i7) (j8) (j10) (j12) (i14) (o15) (b0) (jl) (jh) (jm) (jl) t z a1 a2 vf (by rw [own_pk, if_neg c176_0] at hT2; exact hT2) hnn.1 HC hn0 hO S0 hz S1 S2 Da1 Da2 S3 hv hEL
set_option maxRecDepth 65536 in
set_option maxHeartbeats 40000000 in
theorem law_a {p : Program} {l : Launch} {e : Env} {s : State} {m : MethodId} {args : Array Value} {below : List Frame} {meth : Method} {c : Code} {T : State} {Z : State} {a0 : Array Value} {h : Heap} (X : Stand p l e room_1 s m args below meth c T [] 0 0) (B : Bdy p s m meth c Z a0 "com/example/measured_grab/measuredgrab/bench/LatenciesAddPinLaw" "law" code 26 (some .boolean) tables_1) (eT : T.heap = h) (n0 : Nat) (Zs : n0 ≤ h.size) (j0 : Int64) (j2 : Int64) (j4 : Int64) (i6 : Int32) (i7 : Int32) (j8 : Int64) (j10 : Int64) (j12 : Int64) (z : Int32) (a1 : Addr) (a2 : Addr) (vf : Value) (hx : 0 ≤ j8.toInt) (hy : 0 ≤ j10.toInt) (hu : 0 ≤ j12.toInt) (hsh : s.heap = h) (HC : CHv Z consts_1 s.vm h) (hn0 : Z.heap.size ≤ n0) (hO : Ext Z.heap h) (S0 : Sta Z Z.heap "java/lang/String" "COMPACT_STRINGS" "Z" (.int z)) (hz : ¬ z = 0) (S1 : Sta Z Z.heap "java/lang/Integer" "DigitOnes" "[B" (.ref a1)) (S2 : Sta Z Z.heap "java/lang/Integer" "DigitTens" "[B" (.ref a2)) (Da1 : Ax Z Z.heap a1 .byte 100 own_d1) (Da2 : Ax Z Z.heap a2 .byte 100 own_d2) (S3 : Sta Z Z.heap "jdk/internal/util/Preconditions" "SIOOBE_FORMATTER" "Ljava/util/function/BiFunction;" vf) (hv : vf.isRef = true) (hEL : EW Z a0 consts_1) :
    GoW p e below Z consts_1 s room_1.cells room_1.slots (fun v _ L => v = some (.int 1) ∧ Fr n0 L) (T.setTop (mkF m 68 #[.val (.long j0), .second, .val (.long j2), .second, .val (.long j4), .second, .val (.int i6), .val (.int i7), .val (.long j8), .second, .val (.long j10), .second, .val (.long j12), .second, .unset, .unset, .unset, .unset, .unset, .unset, .unset, .unset, .unset, .unset, .unset, .unset] [])) := by
  have N := Fr.nil n0
  have K := Keep.refl h []
  refine g_iconst X B at_68 (pc' := 69) rfl (v := (1 : Int32)) (by decide) ?_
  refine g_iload X B at_69 (pc' := 71) rfl (v := i6) rfl ?_
  refine g_ldc X B (B.w 2 rfl) at_71 (pc' := 73) rfl ?_
  refine g_iand X B at_73 (pc' := 74) rfl ?_
  refine g_bipush X B at_74 (pc' := 76) rfl (v := (100 : Int32)) (by decide) ?_
  refine g_irem X B (by decide) at_76 (pc' := 77) rfl ?_
  refine g_iadd X B at_77 (pc' := 78) rfl ?_
  refine g_istore X B at_78 (pc' := 80) rfl (Ls' := #[.val (.long j0), .second, .val (.long j2), .second, .val (.long j4), .second, .val (.int i6), .val (.int i7), .val (.long j8), .second, .val (.long j10), .second, .val (.long j12), .second, .val (.int ((1 : Int32) + ((i6 &&& (2147483647 : Int32)) % (100 : Int32)))), .unset, .unset, .unset, .unset, .unset, .unset, .unset, .unset, .unset, .unset, .unset]) rfl ?_
  obtain ⟨ip, g_ip⟩ : ∃ z, z = ((1 : Int32) + ((i6 &&& (2147483647 : Int32)) % (100 : Int32))) := ⟨_, rfl⟩
  rw [← g_ip]
  have hip := own_pp i6
  rw [← g_ip] at hip
  refine g_new X B (B.w 3 rfl) (B.w 4 rfl) (B.w 5 rfl) eT at_80 (pc' := 83) rfl (by decide) (by decide) (fun T1 h1 ob1 q1 X1 e1 E1 A1 D1 => ?_)
  have G_ob1 : n0 ≤ ob1 := by rw [q1]; exact Zs
  have H_ob1 : h.size ≤ ob1 := by rw [q1]; exact K.1
  have Zs_1 := Nat.le_trans Zs E1.1
  have O_1 := own_old_ext hO E1
  have K_1 := K.ext E1
  have F_ob1_sorted : Fld Z h1 ob1 "com/example/measured_grab/measuredgrab/bench/Latencies" "sorted" "Z" (.int (0 : Int32)) := D1 (Or.inl (B.w 13 rfl)) (ty := .boolean) (by decide)
  have F_ob1_nanos : Fld Z h1 ob1 "com/example/measured_grab/measuredgrab/bench/Latencies" "nanos" "[J" .null := D1 (Or.inr (B.w 16 rfl)) (ty := (.array .long)) (by decide)
  have F_ob1_count : Fld Z h1 ob1 "com/example/measured_grab/measuredgrab/bench/Latencies" "count" "I" (.int (0 : Int32)) := D1 (Or.inl (B.w 23 rfl)) (ty := .int) (by decide)
  refine g_dup X1 B at_83 (pc' := 84) rfl rfl ?_
  refine g_iconst X1 B at_84 (pc' := 85) rfl (v := (3 : Int32)) (by decide) ?_
  refine g_special X1 B e1 1 (y := (⟨"com/example/measured_grab/measuredgrab/bench/Latencies", "<init>", "(I)V"⟩ : MethodName)) (argsL := [(.int (3 : Int32))]) (rest := [(.ref ob1)]) (a := ob1) rfl (B.w 6 rfl) (B.w 7 rfl) (B.w 5 rfl) (B.w 8 rfl) (by decide) (in3_met l Z a0 B.2.2.1 [] h1 ob1 (3 : Int32) n0 Zs_1 A1 G_ob1 F_ob1_nanos F_ob1_count F_ob1_sorted rfl) (by decide) (by decide) (by decide) (by decide) rfl (lenOf own_pd4 rfl) rfl (Nat.le_of_eq rfl) at_85 (pc' := 88) rfl (fun T2 v2 L2 X2 Q2 => ?_)
  obtain ⟨fa, rfl, Nq2, Kq2, noa, gq2, Lq2⟩ := Q2
  have N2 := Fr.app N Nq2
  have ga := Nat.le_trans Zs_1 gq2
  have Hfa := Nat.le_trans K_1.1 gq2
  have E_ob1_2 := A1.keep Kq2
  have Zs_2 := Nat.le_trans Zs_1 Kq2.1
  have O_2 := own_old_keep O_1 Kq2 (by intro x hx; simp only [List.mem_cons, List.not_mem_nil, or_false] at hx; subst hx; exact Nat.le_trans hn0 G_ob1)
  have K_2 := K_1.trans Kq2 (by intro x hx; simp only [List.mem_cons, List.not_mem_nil, or_false] at hx; subst hx; exact Or.inr H_ob1)
  show GoX p e below _ _ (T2.setTop (mkF m 88 #[.val (.long j0), .second, .val (.long j2), .second, .val (.long j4), .second, .val (.int i6), .val (.int i7), .val (.long j8), .second, .val (.long j10), .second, .val (.long j12), .second, .val (.int ip), .unset, .unset, .unset, .unset, .unset, .unset, .unset, .unset, .unset, .unset, .unset] [(.ref ob1)]))
  refine g_astore X2 B at_88 (pc' := 90) rfl rfl (Ls' := #[.val (.long j0), .second, .val (.long j2), .second, .val (.long j4), .second, .val (.int i6), .val (.int i7), .val (.long j8), .second, .val (.long j10), .second, .val (.long j12), .second, .val (.int ip), .val (.ref ob1), .unset, .unset, .unset, .unset, .unset, .unset, .unset, .unset, .unset, .unset]) rfl ?_
  refine g_aload X2 B at_90 (pc' := 92) rfl (v := (.ref ob1)) rfl rfl ?_
  refine g_lload X2 B at_92 (pc' := 94) rfl (v := j8) rfl ?_
  refine g_virtual X2 B rfl 0 E_ob1_2 (y := (⟨"com/example/measured_grab/measuredgrab/bench/Latencies", "add", "(J)V"⟩ : MethodName)) (argsL := [(.long j8)]) (rest := []) (a := ob1) (B.w 17 rfl) (B.w 18 rfl) (B.w 20 rfl) (B.w 19 rfl) (B.w 5 rfl) (B.w 21 rfl) (by decide) (ad30_met l Z a0 B.2.2.1 [] T2.heap ob1 j8 fa 0 0 0 1 n0 Zs_2 E_ob1_2 G_ob1 ga noa Lq2) (by decide) (by decide) (by decide) (by decide) rfl (lenOf own_pd32 rfl) rfl (Nat.le_of_eq rfl) at_94 (pc' := 97) rfl (fun T3 v3 L3 X3 Q3 => ?_)
  obtain ⟨rfl, Nq3, Kq3, Lq3⟩ := Q3
  have N3 := Fr.app N2 Nq3
  have E_ob1_3 := E_ob1_2.keep Kq3
  have Zs_3 := Nat.le_trans Zs_2 Kq3.1
  have O_3 := own_old_keep O_2 Kq3 (by intro x hx; simp only [List.mem_cons, List.not_mem_nil, or_false] at hx; rcases hx with rfl | rfl <;> first | exact Nat.le_trans hn0 G_ob1 | exact Nat.le_trans hn0 ga)
  have K_3 := K_2.trans Kq3 (by intro x hx; simp only [List.mem_cons, List.not_mem_nil, or_false] at hx; rcases hx with rfl | rfl <;> first | exact Or.inr H_ob1 | exact Or.inr Hfa)
  show GoX p e below _ _ (T3.setTop (mkF m 97 #[.val (.long j0), .second, .val (.long j2), .second, .val (.long j4), .second, .val (.int i6), .val (.int i7), .val (.long j8), .second, .val (.long j10), .second, .val (.long j12), .second, .val (.int ip), .val (.ref ob1), .unset, .unset, .unset, .unset, .unset, .unset, .unset, .unset, .unset, .unset] []))
  refine g_aload X3 B at_97 (pc' := 99) rfl (v := (.ref ob1)) rfl rfl ?_
  refine g_lload X3 B at_99 (pc' := 101) rfl (v := j10) rfl ?_
  refine g_virtual X3 B rfl 0 E_ob1_3 (y := (⟨"com/example/measured_grab/measuredgrab/bench/Latencies", "add", "(J)V"⟩ : MethodName)) (argsL := [(.long j10)]) (rest := []) (a := ob1) (B.w 17 rfl) (B.w 18 rfl) (B.w 20 rfl) (B.w 19 rfl) (B.w 5 rfl) (B.w 21 rfl) (by decide) (ad31_met l Z a0 B.2.2.1 [] T3.heap ob1 j10 fa j8 0 0 0 n0 Zs_3 E_ob1_3 G_ob1 ga noa Lq3) (by decide) (by decide) (by decide) (by decide) rfl (lenOf own_pd32 rfl) rfl (Nat.le_of_eq rfl) at_101 (pc' := 104) rfl (fun T4 v4 L4 X4 Q4 => ?_)
  obtain ⟨rfl, Nq4, Kq4, Lq4⟩ := Q4
  have N4 := Fr.app N3 Nq4
  have E_ob1_4 := E_ob1_3.keep Kq4
  have Zs_4 := Nat.le_trans Zs_3 Kq4.1
  have O_4 := own_old_keep O_3 Kq4 (by intro x hx; simp only [List.mem_cons, List.not_mem_nil, or_false] at hx; rcases hx with rfl | rfl <;> first | exact Nat.le_trans hn0 G_ob1 | exact Nat.le_trans hn0 ga)
  have K_4 := K_3.trans Kq4 (by intro x hx; simp only [List.mem_cons, List.not_mem_nil, or_false] at hx; rcases hx with rfl | rfl <;> first | exact Or.inr H_ob1 | exact Or.inr Hfa)
  show GoX p e below _ _ (T4.setTop (mkF m 104 #[.val (.long j0), .second, .val (.long j2), .second, .val (.long j4), .second, .val (.int i6), .val (.int i7), .val (.long j8), .second, .val (.long j10), .second, .val (.long j12), .second, .val (.int ip), .val (.ref ob1), .unset, .unset, .unset, .unset, .unset, .unset, .unset, .unset, .unset, .unset] []))
  refine g_aload X4 B at_104 (pc' := 106) rfl (v := (.ref ob1)) rfl rfl ?_
  refine g_lload X4 B at_106 (pc' := 108) rfl (v := j12) rfl ?_
  refine g_virtual X4 B rfl 0 E_ob1_4 (y := (⟨"com/example/measured_grab/measuredgrab/bench/Latencies", "add", "(J)V"⟩ : MethodName)) (argsL := [(.long j12)]) (rest := []) (a := ob1) (B.w 17 rfl) (B.w 18 rfl) (B.w 20 rfl) (B.w 19 rfl) (B.w 5 rfl) (B.w 21 rfl) (by decide) (ad32_met l Z a0 B.2.2.1 [] T4.heap ob1 j12 fa j8 j10 0 0 n0 Zs_4 E_ob1_4 G_ob1 ga noa Lq4) (by decide) (by decide) (by decide) (by decide) rfl (lenOf own_pd32 rfl) rfl (Nat.le_of_eq rfl) at_108 (pc' := 111) rfl (fun T5 v5 L5 X5 Q5 => ?_)
  obtain ⟨rfl, Nq5, Kq5, Lq5⟩ := Q5
  have N5 := Fr.app N4 Nq5
  have E_ob1_5 := E_ob1_4.keep Kq5
  have Zs_5 := Nat.le_trans Zs_4 Kq5.1
  have O_5 := own_old_keep O_4 Kq5 (by intro x hx; simp only [List.mem_cons, List.not_mem_nil, or_false] at hx; rcases hx with rfl | rfl <;> first | exact Nat.le_trans hn0 G_ob1 | exact Nat.le_trans hn0 ga)
  have K_5 := K_4.trans Kq5 (by intro x hx; simp only [List.mem_cons, List.not_mem_nil, or_false] at hx; rcases hx with rfl | rfl <;> first | exact Or.inr H_ob1 | exact Or.inr Hfa)
  show GoX p e below _ _ (T5.setTop (mkF m 111 #[.val (.long j0), .second, .val (.long j2), .second, .val (.long j4), .second, .val (.int i6), .val (.int i7), .val (.long j8), .second, .val (.long j10), .second, .val (.long j12), .second, .val (.int ip), .val (.ref ob1), .unset, .unset, .unset, .unset, .unset, .unset, .unset, .unset, .unset, .unset] []))
  refine g_aload X5 B at_111 (pc' := 113) rfl (v := (.ref ob1)) rfl rfl ?_
  refine g_iload X5 B at_113 (pc' := 115) rfl (v := ip) rfl ?_
  have Hc6 := CHr.keep K_5 (by simp) HC
  refine g_virtualW X5 B rfl 0 E_ob1_5 (y := (⟨"com/example/measured_grab/measuredgrab/bench/Latencies", "percentile", "(I)Ljava/lang/String;"⟩ : MethodName)) (a := ob1) (argsL := [(.int ip)]) (rest := []) Hc6.1 hEL (B.w 24 rfl) (B.w 25 rfl) (B.w 27 rfl) (B.w 26 rfl) (B.w 5 rfl) (B.w 28 rfl) (by decide) (pq3_met l Z a0 B.2.2.1 T5.heap ob1 ip fa j8 j10 j12 z a1 a2 n0 Zs_5 E_ob1_5 G_ob1 ga noa Lq5 hip.1 hip.2 hx hy hu hn0 O_5 S0 hz S1 S2 Da1 Da2 hEL) (by decide) (by decide) (by decide) (by decide) rfl (lenOf own_pd33 rfl) rfl (Nat.le_of_eq rfl) at_115 (pc' := 118) rfl (fun T6 v6 L6 X6 B6 hS6 hW6 hC6 Q6 => ?_)
  obtain ⟨oo, tq, rfl, Nq6, Kq6, go6, gt6, Tq6⟩ := Q6
  have N6 := Fr.app N5 Nq6
  have O6q := own_old_keep O_5 Kq6 (by intro x hx; simp only [List.mem_cons, List.not_mem_nil, or_false] at hx; rcases hx with rfl | rfl <;> first | exact Nat.le_trans hn0 G_ob1 | exact Nat.le_trans hn0 ga)
  have Zs6q := Nat.le_trans Zs_5 Kq6.1
  show GoX p e below _ _ (T6.setTop (mkF m 118 #[.val (.long j0), .second, .val (.long j2), .second, .val (.long j4), .second, .val (.int i6), .val (.int i7), .val (.long j8), .second, .val (.long j10), .second, .val (.long j12), .second, .val (.int ip), .val (.ref ob1), .unset, .unset, .unset, .unset, .unset, .unset, .unset, .unset, .unset, .unset] [(.ref oo)]))
  refine own_wide2 hS6 (Nat.le_refl _) (by rw [hsh]; exact Hc6.trans hC6) ?_
  exact law_b X6 B6 rfl n0 Zs6q N6 (j0) (j2) (j4) (i6) (i7) (j8) (j10) (j12) (ip) (ob1) oo tq z a1 a2 vf Tq6 hx hy hu hC6.1 hn0 O6q S0 hz S1 S2 Da1 Da2 S3 hv hEL
set_option maxRecDepth 65536 in
set_option maxHeartbeats 40000000 in
theorem law_go {p : Program} {l : Launch} {e : Env} {s : State} {m : MethodId} {args : Array Value} {below : List Frame} {meth : Method} {c : Code} {T : State} {Z : State} {a0 : Array Value} {h : Heap} (X : Stand p l e room_1 s m args below meth c T [] 0 0) (B : Bdy p s m meth c Z a0 "com/example/measured_grab/measuredgrab/bench/LatenciesAddPinLaw" "law" code 26 (some .boolean) tables_1) (eT : T.heap = h) (n0 : Nat) (Zs : n0 ≤ h.size) (j0 : Int64) (j2 : Int64) (j4 : Int64) (i6 : Int32) (z : Int32) (a1 : Addr) (a2 : Addr) (vf : Value) (hsh : s.heap = h) (HC : CHv Z consts_1 s.vm h) (hn0 : Z.heap.size ≤ n0) (hO : Ext Z.heap h) (S0 : Sta Z Z.heap "java/lang/String" "COMPACT_STRINGS" "Z" (.int z)) (hz : ¬ z = 0) (S1 : Sta Z Z.heap "java/lang/Integer" "DigitOnes" "[B" (.ref a1)) (S2 : Sta Z Z.heap "java/lang/Integer" "DigitTens" "[B" (.ref a2)) (Da1 : Ax Z Z.heap a1 .byte 100 own_d1) (Da2 : Ax Z Z.heap a2 .byte 100 own_d2) (S3 : Sta Z Z.heap "jdk/internal/util/Preconditions" "SIOOBE_FORMATTER" "Ljava/util/function/BiFunction;" vf) (hv : vf.isRef = true) (hEL : EW Z a0 consts_1) :
    GoW p e below Z consts_1 s room_1.cells room_1.slots (fun v _ L => v = some (.int 1) ∧ Fr n0 L) (T.setTop (mkF m 0 #[.val (.long j0), .second, .val (.long j2), .second, .val (.long j4), .second, .val (.int i6), .unset, .unset, .unset, .unset, .unset, .unset, .unset, .unset, .unset, .unset, .unset, .unset, .unset, .unset, .unset, .unset, .unset, .unset, .unset] [])) := by
  have N := Fr.nil n0
  refine g_iload X B at_0 (pc' := 2) rfl (v := i6) rfl ?_
  refine g_bipush X B at_2 (pc' := 4) rfl (v := (8 : Int32)) (by decide) ?_
  refine g_iushr X B at_4 (pc' := 5) rfl (z := ((i6.toUInt32 >>> ((8 : Int32) &&& 31).toUInt32).toInt32)) rfl ?_
  refine g_iconst X B at_5 (pc' := 6) rfl (v := (1 : Int32)) (by decide) ?_
  refine g_iand X B at_6 (pc' := 7) rfl ?_
  refine g_if_ne X B at_7 (pcT := 14) (pcF := 10) (by decide) rfl rfl (fun c7_0 => ?_) (fun c7_0 => ?_)
  · refine g_iconst X B at_10 (pc' := 11) rfl (v := (1 : Int32)) (by decide) ?_
    refine g_goto X B at_11 (pc' := 15) (by decide) rfl ?_
    refine g_istore X B at_15 (pc' := 17) rfl (Ls' := #[.val (.long j0), .second, .val (.long j2), .second, .val (.long j4), .second, .val (.int i6), .val (.int (1 : Int32)), .unset, .unset, .unset, .unset, .unset, .unset, .unset, .unset, .unset, .unset, .unset, .unset, .unset, .unset, .unset, .unset, .unset, .unset]) rfl ?_
    refine g_lloadN X B at_17 (pc' := 18) rfl (v := j0) rfl ?_
    refine g_ldc2 X B (B.w 0 rfl) at_18 (pc' := 21) rfl ?_
    refine g_land X B at_21 (pc' := 22) rfl ?_
    refine g_lstore X B at_22 (pc' := 24) rfl (Ls' := #[.val (.long j0), .second, .val (.long j2), .second, .val (.long j4), .second, .val (.int i6), .val (.int (1 : Int32)), .val (.long (j0 &&& (9223372036854775807 : Int64))), .second, .unset, .unset, .unset, .unset, .unset, .unset, .unset, .unset, .unset, .unset, .unset, .unset, .unset, .unset, .unset, .unset]) rfl ?_
    obtain ⟨jx, g_jx⟩ : ∃ z, z = (j0 &&& (9223372036854775807 : Int64)) := ⟨_, rfl⟩
    rw [← g_jx]
    have h_jx : 0 ≤ jx.toInt := by rw [g_jx]; exact own_msk _
    refine g_lloadN X B at_24 (pc' := 25) rfl (v := j2) rfl ?_
    refine g_ldc2 X B (B.w 0 rfl) at_25 (pc' := 28) rfl ?_
    refine g_land X B at_28 (pc' := 29) rfl ?_
    refine g_lstore X B at_29 (pc' := 31) rfl (Ls' := #[.val (.long j0), .second, .val (.long j2), .second, .val (.long j4), .second, .val (.int i6), .val (.int (1 : Int32)), .val (.long jx), .second, .val (.long (j2 &&& (9223372036854775807 : Int64))), .second, .unset, .unset, .unset, .unset, .unset, .unset, .unset, .unset, .unset, .unset, .unset, .unset, .unset, .unset]) rfl ?_
    obtain ⟨jy, g_jy⟩ : ∃ z, z = (j2 &&& (9223372036854775807 : Int64)) := ⟨_, rfl⟩
    rw [← g_jy]
    have h_jy : 0 ≤ jy.toInt := by rw [g_jy]; exact own_msk _
    refine g_lload X B at_31 (pc' := 33) rfl (v := j4) rfl ?_
    refine g_ldc2 X B (B.w 0 rfl) at_33 (pc' := 36) rfl ?_
    refine g_land X B at_36 (pc' := 37) rfl ?_
    refine g_lstore X B at_37 (pc' := 39) rfl (Ls' := #[.val (.long j0), .second, .val (.long j2), .second, .val (.long j4), .second, .val (.int i6), .val (.int (1 : Int32)), .val (.long jx), .second, .val (.long jy), .second, .val (.long (j4 &&& (9223372036854775807 : Int64))), .second, .unset, .unset, .unset, .unset, .unset, .unset, .unset, .unset, .unset, .unset, .unset, .unset]) rfl ?_
    obtain ⟨ju, g_ju⟩ : ∃ z, z = (j4 &&& (9223372036854775807 : Int64)) := ⟨_, rfl⟩
    rw [← g_ju]
    have h_ju : 0 ≤ ju.toInt := by rw [g_ju]; exact own_msk _
    refine g_iload X B at_39 (pc' := 41) rfl (v := (1 : Int32)) rfl ?_
    refine g_if_eq X B at_41 (pcT := 68) (pcF := 44) (by decide) rfl rfl (fun c41_1 => ?_) (fun c41_1 => ?_)
    · exact absurd c41_1 (by decide)
    · refine g_lload X B at_44 (pc' := 46) rfl (v := jx) rfl ?_
      refine g_ldc2 X B (B.w 1 rfl) at_46 (pc' := 49) rfl ?_
      refine g_lrem X B (by decide) at_49 (pc' := 50) rfl ?_
      refine g_lstore X B at_50 (pc' := 52) rfl (Ls' := #[.val (.long j0), .second, .val (.long j2), .second, .val (.long j4), .second, .val (.int i6), .val (.int (1 : Int32)), .val (.long (jx % (1000000000 : Int64))), .second, .val (.long jy), .second, .val (.long ju), .second, .unset, .unset, .unset, .unset, .unset, .unset, .unset, .unset, .unset, .unset, .unset, .unset]) rfl ?_
      obtain ⟨jx2, g_jx2⟩ : ∃ z, z = (jx % (1000000000 : Int64)) := ⟨_, rfl⟩
      rw [← g_jx2]
      have h_jx2 : 0 ≤ jx2.toInt := by rw [g_jx2]; exact own_rem9 h_jx
      refine g_lload X B at_52 (pc' := 54) rfl (v := jy) rfl ?_
      refine g_ldc2 X B (B.w 1 rfl) at_54 (pc' := 57) rfl ?_
      refine g_lrem X B (by decide) at_57 (pc' := 58) rfl ?_
      refine g_lstore X B at_58 (pc' := 60) rfl (Ls' := #[.val (.long j0), .second, .val (.long j2), .second, .val (.long j4), .second, .val (.int i6), .val (.int (1 : Int32)), .val (.long jx2), .second, .val (.long (jy % (1000000000 : Int64))), .second, .val (.long ju), .second, .unset, .unset, .unset, .unset, .unset, .unset, .unset, .unset, .unset, .unset, .unset, .unset]) rfl ?_
      obtain ⟨jy2, g_jy2⟩ : ∃ z, z = (jy % (1000000000 : Int64)) := ⟨_, rfl⟩
      rw [← g_jy2]
      have h_jy2 : 0 ≤ jy2.toInt := by rw [g_jy2]; exact own_rem9 h_jy
      refine g_lload X B at_60 (pc' := 62) rfl (v := ju) rfl ?_
      refine g_ldc2 X B (B.w 1 rfl) at_62 (pc' := 65) rfl ?_
      refine g_lrem X B (by decide) at_65 (pc' := 66) rfl ?_
      refine g_lstore X B at_66 (pc' := 68) rfl (Ls' := #[.val (.long j0), .second, .val (.long j2), .second, .val (.long j4), .second, .val (.int i6), .val (.int (1 : Int32)), .val (.long jx2), .second, .val (.long jy2), .second, .val (.long (ju % (1000000000 : Int64))), .second, .unset, .unset, .unset, .unset, .unset, .unset, .unset, .unset, .unset, .unset, .unset, .unset]) rfl ?_
      obtain ⟨ju2, g_ju2⟩ : ∃ z, z = (ju % (1000000000 : Int64)) := ⟨_, rfl⟩
      rw [← g_ju2]
      have h_ju2 : 0 ≤ ju2.toInt := by rw [g_ju2]; exact own_rem9 h_ju
      exact law_a X B eT n0 Zs (j0) (j2) (j4) (i6) ((1 : Int32)) (jx2) (jy2) (ju2) z a1 a2 vf h_jx2 h_jy2 h_ju2 hsh HC hn0 hO S0 hz S1 S2 Da1 Da2 S3 hv hEL
  · refine g_iconst X B at_14 (pc' := 15) rfl (v := (0 : Int32)) (by decide) ?_
    refine g_istore X B at_15 (pc' := 17) rfl (Ls' := #[.val (.long j0), .second, .val (.long j2), .second, .val (.long j4), .second, .val (.int i6), .val (.int (0 : Int32)), .unset, .unset, .unset, .unset, .unset, .unset, .unset, .unset, .unset, .unset, .unset, .unset, .unset, .unset, .unset, .unset, .unset, .unset]) rfl ?_
    refine g_lloadN X B at_17 (pc' := 18) rfl (v := j0) rfl ?_
    refine g_ldc2 X B (B.w 0 rfl) at_18 (pc' := 21) rfl ?_
    refine g_land X B at_21 (pc' := 22) rfl ?_
    refine g_lstore X B at_22 (pc' := 24) rfl (Ls' := #[.val (.long j0), .second, .val (.long j2), .second, .val (.long j4), .second, .val (.int i6), .val (.int (0 : Int32)), .val (.long (j0 &&& (9223372036854775807 : Int64))), .second, .unset, .unset, .unset, .unset, .unset, .unset, .unset, .unset, .unset, .unset, .unset, .unset, .unset, .unset, .unset, .unset]) rfl ?_
    obtain ⟨jx, g_jx⟩ : ∃ z, z = (j0 &&& (9223372036854775807 : Int64)) := ⟨_, rfl⟩
    rw [← g_jx]
    have h_jx : 0 ≤ jx.toInt := by rw [g_jx]; exact own_msk _
    refine g_lloadN X B at_24 (pc' := 25) rfl (v := j2) rfl ?_
    refine g_ldc2 X B (B.w 0 rfl) at_25 (pc' := 28) rfl ?_
    refine g_land X B at_28 (pc' := 29) rfl ?_
    refine g_lstore X B at_29 (pc' := 31) rfl (Ls' := #[.val (.long j0), .second, .val (.long j2), .second, .val (.long j4), .second, .val (.int i6), .val (.int (0 : Int32)), .val (.long jx), .second, .val (.long (j2 &&& (9223372036854775807 : Int64))), .second, .unset, .unset, .unset, .unset, .unset, .unset, .unset, .unset, .unset, .unset, .unset, .unset, .unset, .unset]) rfl ?_
    obtain ⟨jy, g_jy⟩ : ∃ z, z = (j2 &&& (9223372036854775807 : Int64)) := ⟨_, rfl⟩
    rw [← g_jy]
    have h_jy : 0 ≤ jy.toInt := by rw [g_jy]; exact own_msk _
    refine g_lload X B at_31 (pc' := 33) rfl (v := j4) rfl ?_
    refine g_ldc2 X B (B.w 0 rfl) at_33 (pc' := 36) rfl ?_
    refine g_land X B at_36 (pc' := 37) rfl ?_
    refine g_lstore X B at_37 (pc' := 39) rfl (Ls' := #[.val (.long j0), .second, .val (.long j2), .second, .val (.long j4), .second, .val (.int i6), .val (.int (0 : Int32)), .val (.long jx), .second, .val (.long jy), .second, .val (.long (j4 &&& (9223372036854775807 : Int64))), .second, .unset, .unset, .unset, .unset, .unset, .unset, .unset, .unset, .unset, .unset, .unset, .unset]) rfl ?_
    obtain ⟨ju, g_ju⟩ : ∃ z, z = (j4 &&& (9223372036854775807 : Int64)) := ⟨_, rfl⟩
    rw [← g_ju]
    have h_ju : 0 ≤ ju.toInt := by rw [g_ju]; exact own_msk _
    refine g_iload X B at_39 (pc' := 41) rfl (v := (0 : Int32)) rfl ?_
    refine g_if_eq X B at_41 (pcT := 68) (pcF := 44) (by decide) rfl rfl (fun c41_1 => ?_) (fun c41_1 => ?_)
    · exact law_a X B eT n0 Zs (j0) (j2) (j4) (i6) ((0 : Int32)) (jx) (jy) (ju) z a1 a2 vf h_jx h_jy h_ju hsh HC hn0 hO S0 hz S1 S2 Da1 Da2 S3 hv hEL
    · exact absurd (by decide) c41_1
theorem own_pn_law : plainFor (⟨"com/example/measured_grab/measuredgrab/bench/LatenciesAddPinLaw", "law", "(JJJI)Z"⟩ : MethodName) = true := plainFor_of_name (by first | (simp [plainName, overriddenIn]; done) | decide +kernel)
theorem own_ef_law (m : MethodId) (j0 : Int64) (j2 : Int64) (j4 : Int64) (i6 : Int32) : entryFrame m #[(.long j0), (.long j2), (.long j4), (.int i6)] 26 = (mkF m 0 #[.val (.long j0), .second, .val (.long j2), .second, .val (.long j4), .second, .val (.int i6), .unset, .unset, .unset, .unset, .unset, .unset, .unset, .unset, .unset, .unset, .unset, .unset, .unset, .unset, .unset, .unset, .unset, .unset, .unset] []) := by first | (simp [entryFrame, mkF, argsToLocals, Value.category]; done) | rfl
theorem own_rm (l : Launch) (Z : State) (a0 : Array Value) (hw : ∀ d ∈ tables_1, d.before a0 Z = true) (h : Heap) (n0 : Nat) (Zs : n0 ≤ h.size) (j0 : Int64) (j2 : Int64) (j4 : Int64) (i6 : Int32) (z : Int32) (a1 : Addr) (a2 : Addr) (vf : Value) (hn0 : Z.heap.size ≤ n0) (hO : Ext Z.heap h) (S0 : Sta Z Z.heap "java/lang/String" "COMPACT_STRINGS" "Z" (.int z)) (hz : ¬ z = 0) (S1 : Sta Z Z.heap "java/lang/Integer" "DigitOnes" "[B" (.ref a1)) (S2 : Sta Z Z.heap "java/lang/Integer" "DigitTens" "[B" (.ref a2)) (Da1 : Ax Z Z.heap a1 .byte 100 own_d1) (Da2 : Ax Z Z.heap a2 .byte 100 own_d2) (S3 : Sta Z Z.heap "jdk/internal/util/Preconditions" "SIOOBE_FORMATTER" "Ljava/util/function/BiFunction;" vf) (hv : vf.isRef = true) (hEL : EW Z a0 consts_1) :
    MetW l Z consts_1 x code maxLocals ret tables_1 room_1 #[(.long j0), (.long j2), (.long j4), (.int i6)] h (fun v _ L => v = some (.int 1) ∧ Fr n0 L) :=
  metW_of own_pn_law hw fun p e s m below meth c T X B eT hsh hC => Go.top (own_ef_law m j0 j2 j4 i6) (law_go X B eT n0 Zs j0 j2 j4 i6 z a1 a2 vf hsh hC hn0 hO S0 hz S1 S2 Da1 Da2 S3 hv hEL)
set_option maxRecDepth 65536 in
set_option maxHeartbeats 40000000 in
theorem comes_1 {Post : Tables → Env → Array Value → State → Outcome → State → Prop} (hpost : ∀ tb e args s v u, (limb_1_1.after args s (.returned v) u = true ∧ limb_1_2.after args s (.returned v) u = true ∧ True) → FramedW s (.returned v) u (Jvm.fieldLocs frame_1_writes args s ++ Jvm.arrayLocs frame_1_arrays args s ++ Jvm.staticLocs frame_1_statics s) 40 1280 → Post tb e args s (.returned v) u) :
    ArmFor flags0 classFile x code maxLocals ret World_1 tables_1 room_1 Calls_1 rest_1 Pre_1 Post := by
  intro l hfl _ _ p e ha hc hk s m args below hf hA hF happ hP
  obtain ⟨hcalls, hrest, hpre⟩ := hP
  obtain ⟨-, -, -, hnamed, -, -, -, hat⟩ := (Spec.applies_iff hf).mp happ
  obtain ⟨hg, hn⟩ := and_e (Cond.before_iff.mp (show (Jvm.Cond.and given_1 narrow_1).before args s = true from hpre))
  obtain ⟨h1, g1⟩ := and_e hg
  obtain ⟨k0, g2⟩ := and_e g1
  obtain ⟨k1, g3⟩ := and_e g2
  obtain ⟨k2, g4⟩ := and_e g3
  obtain ⟨w0, w1, w2, w3, rfl⟩ : ∃ w0 w1 w2 w3 : Value, args = #[w0, w1, w2, w3] := by
    have hs : args.size = 4 := by simpa [Cond.value, given_1] using h1
    obtain ⟨L⟩ := args
    match L, hs with
    | [w0, w1, w2, w3], _ => exact ⟨w0, w1, w2, w3, rfl⟩
  have hw := fun d (hd : d ∈ tables_1) => atoms_spec (ws := Jvm.Cond.code x code maxLocals ret :: tables_1) hat d (List.mem_cons_of_mem _ hd)
  obtain ⟨z0, q0⟩ := isL_v k0
  obtain rfl : w0 = (.long z0) := Option.some.inj q0
  obtain ⟨z1, q1⟩ := isL_v k1
  obtain rfl : w1 = (.long z1) := Option.some.inj q1
  obtain ⟨z2, q2⟩ := isL_v k2
  obtain rfl : w2 = (.long z2) := Option.some.inj q2
  obtain ⟨z3, q3⟩ := is_v g4
  obtain rfl : w3 = (.int z3) := Option.some.inj q3
  obtain ⟨hsets, hown0⟩ := atoms_of _ (rest_1_c_eq ▸ (show rest_1_c.before _ s = true from hrest))
  obtain ⟨zc, eZ⟩ := is_v (Cond.before_iff.mp (hsets _ (List.mem_of_getElem? (i := 1) rfl)))
  have S0 : Sta s s.heap "java/lang/String" "COMPACT_STRINGS" "Z" (.int zc) := Sta.start eZ (Or.inl (hsets _ (List.mem_of_getElem? (i := 0) rfl)))
  have hz : ¬ (zc = (0 : Int32)) := gotF (Cond.eq_ints eZ (Term.int_eval (0))) (not_v (Cond.before_iff.mp (hsets _ (List.mem_of_getElem? (i := 2) rfl))))
  obtain ⟨vf, eF, hv⟩ := isR_v (Cond.before_iff.mp (hsets _ (List.mem_of_getElem? (i := 8) rfl)))
  have S3 : Sta s s.heap "jdk/internal/util/Preconditions" "SIOOBE_FORMATTER" "Ljava/util/function/BiFunction;" vf := Sta.start eF (Or.inl (hsets _ (List.mem_of_getElem? (i := 7) rfl)))
  obtain ⟨a1, e1q⟩ := exa_v (Cond.before_iff.mp (hsets _ (List.mem_of_getElem? (i := 12) rfl)))
  have S1 : Sta s s.heap "java/lang/Integer" "DigitOnes" "[B" (.ref a1) := Sta.start e1q (Or.inl (hsets _ (List.mem_of_getElem? (i := 11) rfl)))
  have Da1 : Ax s s.heap a1 .byte 100 own_d1 := own_dig (fun _ => e1q) (Cond.before_iff.mp (hsets _ (List.mem_of_getElem? (i := 12) rfl))) (hw _ (List.mem_of_getElem? (i := 68) rfl)) (Cond.before_iff.mp (hsets _ (List.mem_of_getElem? (i := 13) rfl))) (Cond.before_iff.mp (hsets _ (List.mem_of_getElem? (i := 14) rfl))) (fun j hj => own_F1 hj)
  obtain ⟨a2, e2q⟩ := exa_v (Cond.before_iff.mp (hsets _ (List.mem_of_getElem? (i := 17) rfl)))
  have S2 : Sta s s.heap "java/lang/Integer" "DigitTens" "[B" (.ref a2) := Sta.start e2q (Or.inl (hsets _ (List.mem_of_getElem? (i := 16) rfl)))
  have Da2 : Ax s s.heap a2 .byte 100 own_d2 := own_dig (fun _ => e2q) (Cond.before_iff.mp (hsets _ (List.mem_of_getElem? (i := 17) rfl))) (hw _ (List.mem_of_getElem? (i := 68) rfl)) (Cond.before_iff.mp (hsets _ (List.mem_of_getElem? (i := 18) rfl))) (Cond.before_iff.mp (hsets _ (List.mem_of_getElem? (i := 19) rfl))) (fun j hj => own_F2 hj)
  have hEL : EW s _ consts_1 := EW.cons (hw _ (List.mem_of_getElem? (i := 107) rfl)) (by decide) EW.nil
  have hCH : CHv s consts_1 s.vm s.heap := CHv.start hEL (fun p hp => hcalls.1 p hp) (hsets _ (List.mem_of_getElem? (i := 2) rfl)) (hw _ (List.mem_of_getElem? (i := 68) rfl)) (hw _ (List.mem_of_getElem? (i := 108) rfl))
  obtain ⟨n, o, h1, h2, h3, _, L, rfl, ⟨rfl, N⟩, -, hq⟩ := own_rm l s _ hw s.heap s.heap.size (Nat.le_refl _) z0 z1 z2 z3 zc a1 a2 vf (Nat.le_refl _) ⟨Nat.le_refl _, fun _ _ q => q⟩ S0 hz S1 S2 Da1 Da2 S3 hv hEL p e ha hc hk s m _ below hf ((Spec.applies_iff_loose hf).mp happ).1 ⟨rfl, State.Warmed39.refl s, rfl, hCH⟩ trivial
  refine ⟨n, _, h1, h2, h3, hpost _ _ _ _ _ _ ⟨Cond.after_iff.mpr rfl, Cond.after_iff.mpr (eq_i res_at (Term.int_eval (1)) rfl), trivial⟩ ⟨hq.1, hq.2.1, hq.2.2.1, (hq.2.2.2.sift fun y hy => Or.inr (N y hy)).mono (by decide) (by decide)⟩⟩
theorem main_1_1 : Claimed_1_1 := comes_1 fun _ _ _ _ _ _ h hF => ⟨h.1, hF⟩
theorem main_1_2 : Claimed_1_2 := comes_1 fun _ _ _ _ _ _ h hF => ⟨h.2.1, hF⟩
end Jvm.Pilot.@@N@@
namespace Jvm.Pilot.@@N@@
open Jvm Jvm.ClassFile Sem Op Lib Jvm.Free Jvm.Stand Jvm.Pilot.@@N@@.Jvm.D
/-! MADE BY PROGRAM (witnessworld.py) out of the Statement's table words and the real class files: 29 classes; the members and pool entries that the words name. The judged class is class 1, her method 1. -/
namespace start1
open Jvm.ClassFile
def u (s : String) : CpInfo := .utf8 (stringToUtf16 s)
/-- a pool by its gaps: so many unusable entries, then the entry; so many at the end -/
def gap : Nat → List CpInfo → List CpInfo
  | 0, r => r
  | n + 1, r => .unusable :: gap n r
def poolList (es : List (Nat × CpInfo)) (last : Nat) : List CpInfo := es.foldr (fun e r => gap e.1 (e.2 :: r)) (gap last [])
def pool (es : List (Nat × CpInfo)) (last : Nat) : Array CpInfo := ⟨poolList es last⟩
def fileOf (pool : Array CpInfo) (this : Nat) (attrs : Array Attribute := #[]) (ms : Array MethodInfo := #[]) (fl : Nat := 33) (sup : Nat := 0) (ifs : Array Nat := #[]) (fds : Array FieldInfo := #[]) : ClassFile where
  minorVersion := 0
  majorVersion := 65
  constantPool := pool
  accessFlags := fl
  thisClass := this
  superClass := sup
  interfaces := ifs
  fields := fds
  methods := ms
  attributes := attrs
def plain (name : String) (sup : Option ClassId) : Class where
  name := name
  kind := .ordinary
  loader := none
  accessFlags := 33
  super := sup
  interfaces := #[]
  cf := none
  fields := #[]
  methods := #[]
  instanceTypes := #[]
  staticTypes := #[]
  resolved := #[]
  callSites := []
  init := .initialized
  statics := none
  mirror := none

def pool0 : Array CpInfo := pool [(5, u "<init>"), (0, u "()V"), (1, .class_ 10), (1, u "java/lang/Object")] 113

def k0c0 : Code := { maxStack := 0, maxLocals := 1, code := object_method_1_code, exceptionTable := #[], attributes := #[] }
def k0m0 : Method := { name := "<init>", desc := "()V", sig := { parameters := [], returnType := none }, accessFlags := 1, code := some k0c0 }
/-- java/lang/Object -/
def k0 : Class := { plain "java/lang/Object" none with
  accessFlags := 33
  interfaces := #[]
  cf := some (fileOf pool0 8 #[] #[{ accessFlags := 1, nameIndex := 5, descriptorIndex := 6, attributes := #[] }] 33 0 #[] #[])
  fields := #[]
  methods := #[k0m0]
  instanceTypes := #[]
  staticTypes := #[]
  resolved := Array.replicate 124 none
  statics := none }

def pool1 : Array CpInfo := pool [(2, .class_ 4), (1, u "java/lang/Object"), (0, u "<init>"), (0, u "()V"), (2, .long 9223372036854775807), (1, .long 1000000000), (1, .integer 2147483647), (0, .class_ 15), (0, u "com/example/measured_grab/measuredgrab/bench/Latencies"), (0, .methodref 14 17), (0, .nameAndType 5 18), (0, u "(I)V"), (0, .methodref 14 20), (0, .nameAndType 21 22), (0, u "add"), (0, u "(J)V"), (0, .methodref 14 24), (0, .nameAndType 25 26), (0, u "percentile"), (0, u "(I)Ljava/lang/String;"), (0, .methodref 28 29), (0, .class_ 30), (0, .nameAndType 31 32), (0, u "java/lang/Math"), (0, u "min"), (0, u "(JJ)J"), (0, .methodref 28 34), (0, .nameAndType 35 32), (0, u "max"), (0, .long 100000), (1, .methodref 39 40), (0, .class_ 41), (0, .nameAndType 42 43), (0, u "com/example/measured_grab/measuredgrab/bench/LatenciesAddPinLaw"), (0, u "matches"), (0, u "(Ljava/lang/String;J)Z"), (0, .methodref 45 46), (0, .class_ 47), (0, .nameAndType 48 49), (0, u "java/lang/String"), (0, u "equals"), (0, u "(Ljava/lang/Object;)Z"), (0, .long 10), (1, .long 48), (1, .methodref 45 55), (0, .nameAndType 56 57), (0, u "length"), (0, u "()I"), (0, .methodref 45 59), (0, .nameAndType 60 61), (0, u "charAt"), (0, u "(I)C"), (0, .long 100), (3, u "law"), (0, u "(JJJI)Z")] 3

def k1m0 : Method := { name := "<init>", desc := "()V", sig := { parameters := [], returnType := none }, accessFlags := 1, code := none }
def k1c1 : Code := { maxStack := 6, maxLocals := 26, code := code, exceptionTable := #[], attributes := #[] }
def k1m1 : Method := { name := "law", desc := "(JJJI)Z", sig := { parameters := [.long, .long, .long, .int], returnType := some .boolean }, accessFlags := 9, code := some k1c1 }
def k1c2 : Code := { maxStack := 7, maxLocals := 6, code := method_3_code, exceptionTable := #[], attributes := #[] }
def k1m2 : Method := { name := "matches", desc := "(Ljava/lang/String;J)Z", sig := { parameters := [(.object "java/lang/String"), .long], returnType := some .boolean }, accessFlags := 10, code := some k1c2 }
/-- com/example/measured_grab/measuredgrab/bench/LatenciesAddPinLaw -/
def k1 : Class := { plain "com/example/measured_grab/measuredgrab/bench/LatenciesAddPinLaw" (some 0) with
  accessFlags := 49
  interfaces := #[]
  cf := some (fileOf pool1 39 #[] #[{ accessFlags := 1, nameIndex := 5, descriptorIndex := 6, attributes := #[] }, { accessFlags := 9, nameIndex := 66, descriptorIndex := 67, attributes := #[] }, { accessFlags := 10, nameIndex := 42, descriptorIndex := 43, attributes := #[] }] 49 2 #[] #[])
  fields := #[]
  methods := #[k1m0, k1m1, k1m2]
  instanceTypes := #[]
  staticTypes := #[]
  resolved := Array.replicate 71 none
  statics := none }

def pool2 : Array CpInfo := pool [(1, .methodref 2 3), (0, .class_ 4), (0, .nameAndType 5 6), (0, u "java/lang/Object"), (0, u "<init>"), (0, u "()V"), (0, .fieldref 8 9), (0, .class_ 10), (0, .nameAndType 11 12), (0, u "com/example/measured_grab/measuredgrab/bench/Latencies"), (0, u "sorted"), (0, u "Z"), (0, .fieldref 8 14), (0, .nameAndType 15 16), (0, u "nanos"), (0, u "[J"), (0, .fieldref 8 18), (0, .nameAndType 19 20), (0, u "count"), (0, u "I"), (2, .methodref 24 25), (0, .class_ 26), (0, .nameAndType 27 28), (0, u "java/util/Arrays"), (0, u "sort"), (0, u "([JII)V"), (0, .long 99), (1, .long 100), (1, .methodref 34 35), (0, .class_ 36), (0, .nameAndType 37 38), (0, u "java/lang/Math"), (0, u "max"), (0, u "(JJ)J"), (0, .long 100000), (1, .class_ 42), (0, u "java/lang/StringBuilder"), (0, .methodref 41 3), (0, .long 10), (1, .methodref 41 47), (0, .nameAndType 48 49), (0, u "append"), (0, u "(J)Ljava/lang/StringBuilder;"), (0, .string 51), (0, u "."), (0, .methodref 41 53), (0, .nameAndType 48 54), (0, u "(Ljava/lang/String;)Ljava/lang/StringBuilder;"), (0, .methodref 41 56), (0, .nameAndType 57 58), (0, u "toString"), (0, u "()Ljava/lang/String;"), (0, u "NANOS_PER_TENTH"), (0, u "J"), (1, u "(I)V"), (2, u "add"), (0, u "(J)V"), (0, u "percentile"), (0, u "(I)Ljava/lang/String;")] 3

def k2c0 : Code := { maxStack := 2, maxLocals := 2, code := prog_4_method_1_code, exceptionTable := #[], attributes := #[] }
def k2m0 : Method := { name := "<init>", desc := "(I)V", sig := { parameters := [.int], returnType := none }, accessFlags := 0, code := some k2c0 }
def k2c1 : Code := { maxStack := 5, maxLocals := 3, code := prog_4_method_2_code, exceptionTable := #[], attributes := #[] }
def k2m1 : Method := { name := "add", desc := "(J)V", sig := { parameters := [.long], returnType := none }, accessFlags := 0, code := some k2c1 }
def k2c2 : Code := { maxStack := 6, maxLocals := 5, code := prog_4_method_3_code, exceptionTable := #[], attributes := #[] }
def k2m2 : Method := { name := "percentile", desc := "(I)Ljava/lang/String;", sig := { parameters := [.int], returnType := some (.object "java/lang/String") }, accessFlags := 0, code := some k2c2 }
/-- com/example/measured_grab/measuredgrab/bench/Latencies -/
def k2 : Class := { plain "com/example/measured_grab/measuredgrab/bench/Latencies" (some 0) with
  accessFlags := 32
  interfaces := #[]
  cf := some (fileOf pool2 8 #[] #[{ accessFlags := 0, nameIndex := 5, descriptorIndex := 62, attributes := #[] }, { accessFlags := 0, nameIndex := 65, descriptorIndex := 66, attributes := #[] }, { accessFlags := 0, nameIndex := 67, descriptorIndex := 68, attributes := #[] }] 32 2 #[] #[{ accessFlags := 26, nameIndex := 59, descriptorIndex := 60, attributes := #[] }, { accessFlags := 18, nameIndex := 15, descriptorIndex := 16, attributes := #[] }, { accessFlags := 2, nameIndex := 19, descriptorIndex := 20, attributes := #[] }, { accessFlags := 2, nameIndex := 11, descriptorIndex := 12, attributes := #[] }])
  fields := #[{ name := "NANOS_PER_TENTH", type := .long, accessFlags := 26, slot := 0, constantValue := 0 }, { name := "nanos", type := (.array .long), accessFlags := 18, slot := 0, constantValue := 0 }, { name := "count", type := .int, accessFlags := 2, slot := 1, constantValue := 0 }, { name := "sorted", type := .boolean, accessFlags := 2, slot := 2, constantValue := 0 }]
  methods := #[k2m0, k2m1, k2m2]
  instanceTypes := #[(.array .long), .int, .boolean]
  staticTypes := #[.long]
  resolved := Array.replicate 72 none
  statics := none }

def pool3 : Array CpInfo := pool [(2, .class_ 4), (1, u "java/lang/Object"), (0, u "<init>"), (0, u "()V"), (1, .class_ 10), (1, u "java/util/DualPivotQuicksort"), (0, u "sort"), (1, .methodref 14 15), (0, .class_ 16), (0, .nameAndType 17 18), (0, u "java/util/Arrays"), (0, u "rangeCheck"), (0, u "(III)V"), (0, .methodref 8 20), (0, .nameAndType 11 21), (0, u "([JIII)V"), (52, .class_ 76), (1, u "java/util/Arrays$NaturalOrder"), (36, .class_ 115), (1, u "java/util/Arrays$LegacyMergeSort"), (1, u "Z"), (21, u "copyOfRange"), (10, .methodref 151 152), (0, .class_ 153), (0, .nameAndType 154 155), (0, u "java/lang/System"), (0, u "arraycopy"), (0, u "(Ljava/lang/Object;ILjava/lang/Object;II)V"), (148, .methodref 305 306), (0, .class_ 307), (0, .nameAndType 308 309), (0, u "java/lang/Math"), (0, u "min"), (0, u "(II)I"), (29, .methodref 14 340), (0, .nameAndType 341 342), (0, u "copyOfRangeByte"), (0, u "([BII)[B"), (0, .methodref 14 344), (0, .nameAndType 345 346), (0, u "checkLength"), (0, u "(II)V"), (28, .class_ 376), (0, u "java/util/Arrays$ArrayList"), (68, u "$assertionsDisabled"), (269, u "MIN_ARRAY_SORT_GRAN"), (0, u "I"), (2, u "INSERTIONSORT_THRESHOLD"), (12, u "([JII)V"), (242, .class_ 976), (0, u "java/util/Arrays$ArrayItr")] 52

def k3m0 : Method := { name := "<init>", desc := "()V", sig := { parameters := [], returnType := none }, accessFlags := 2, code := none }
def k3c1 : Code := { maxStack := 4, maxLocals := 3, code := jdk_65_method_5_code, exceptionTable := #[], attributes := #[] }
def k3m1 : Method := { name := "sort", desc := "([JII)V", sig := { parameters := [(.array .long), .int, .int], returnType := none }, accessFlags := 9, code := some k3c1 }
def k3c2 : Code := { maxStack := 4, maxLocals := 3, code := jdk_65_method_30_code, exceptionTable := #[], attributes := #[] }
def k3m2 : Method := { name := "rangeCheck", desc := "(III)V", sig := { parameters := [.int, .int, .int], returnType := none }, accessFlags := 8, code := some k3c2 }
def k3c3 : Code := { maxStack := 4, maxLocals := 2, code := jdk_65_method_131_code, exceptionTable := #[], attributes := #[] }
def k3m3 : Method := { name := "checkLength", desc := "(II)V", sig := { parameters := [.int, .int], returnType := none }, accessFlags := 10, code := some k3c3 }
def k3c4 : Code := { maxStack := 3, maxLocals := 3, code := jdk_65_method_132_code, exceptionTable := #[], attributes := #[] }
def k3m4 : Method := { name := "copyOfRange", desc := "([BII)[B", sig := { parameters := [(.array .byte), .int, .int], returnType := some (.array .byte) }, accessFlags := 9, code := some k3c4 }
def k3c5 : Code := { maxStack := 6, maxLocals := 5, code := jdk_65_method_133_code, exceptionTable := #[], attributes := #[] }
def k3m5 : Method := { name := "copyOfRangeByte", desc := "([BII)[B", sig := { parameters := [(.array .byte), .int, .int], returnType := some (.array .byte) }, accessFlags := 10, code := some k3c5 }
/-- java/util/Arrays -/
def k3 : Class := { plain "java/util/Arrays" (some 0) with
  accessFlags := 49
  interfaces := #[]
  cf := some (fileOf pool3 14 #[.nestMembers #[975, 375, 113, 74]] #[{ accessFlags := 2, nameIndex := 5, descriptorIndex := 6, attributes := #[] }, { accessFlags := 9, nameIndex := 11, descriptorIndex := 732, attributes := #[] }, { accessFlags := 8, nameIndex := 17, descriptorIndex := 18, attributes := #[] }, { accessFlags := 10, nameIndex := 345, descriptorIndex := 346, attributes := #[] }, { accessFlags := 9, nameIndex := 139, descriptorIndex := 342, attributes := #[] }, { accessFlags := 10, nameIndex := 341, descriptorIndex := 342, attributes := #[] }] 49 2 #[] #[{ accessFlags := 26, nameIndex := 715, descriptorIndex := 716, attributes := #[] }, { accessFlags := 26, nameIndex := 719, descriptorIndex := 716, attributes := #[] }, { accessFlags := 4120, nameIndex := 445, descriptorIndex := 117, attributes := #[] }])
  fields := #[{ name := "MIN_ARRAY_SORT_GRAN", type := .int, accessFlags := 26, slot := 0, constantValue := 0 }, { name := "INSERTIONSORT_THRESHOLD", type := .int, accessFlags := 26, slot := 1, constantValue := 0 }, { name := "$assertionsDisabled", type := .boolean, accessFlags := 4120, slot := 2, constantValue := 0 }]
  methods := #[k3m0, k3m1, k3m2, k3m3, k3m4, k3m5]
  instanceTypes := #[]
  staticTypes := #[.int, .int, .boolean]
  resolved := Array.replicate 1029 none
  statics := none }

def pool4 : Array CpInfo := pool [(1, .class_ 2), (0, u "java/util/DualPivotQuicksort"), (5, .class_ 10), (1, u "java/lang/Object"), (0, u "<init>"), (0, u "()V"), (4, .class_ 18), (0, u "java/util/DualPivotQuicksort$Sorter"), (9, u "sort"), (7, u "insertionSort"), (31, u "I"), (4, .class_ 74), (0, u "java/util/DualPivotQuicksort$RunMerger"), (10, .class_ 86), (0, u "java/util/DualPivotQuicksort$Merger"), (12, .methodref 1 100), (0, .nameAndType 28 101), (0, u "(Ljava/util/DualPivotQuicksort$Sorter;[JIII)V"), (2, u "([JIII)V"), (0, .methodref 1 106), (0, .nameAndType 36 107), (0, u "([JII)V"), (106, u "MAX_MIXED_INSERTION_SORT_SIZE"), (2, u "MAX_INSERTION_SORT_SIZE"), (1, u "MIN_PARALLEL_SORT_SIZE"), (1, u "MIN_TRY_MERGE_SIZE"), (0, u "MIN_FIRST_RUN_SIZE"), (1, u "MIN_FIRST_RUNS_FACTOR"), (1, u "MAX_RUN_CAPACITY"), (1, u "MIN_RUN_COUNT"), (1, u "MIN_PARALLEL_MERGE_PARTS_SIZE"), (0, u "MIN_BYTE_COUNTING_SORT_SIZE"), (1, u "MIN_SHORT_OR_CHAR_COUNTING_SORT_SIZE"), (1, u "DELTA"), (1, u "MAX_RECURSION_DEPTH"), (1, u "NUM_BYTE_VALUES"), (1, u "MAX_BYTE_INDEX"), (0, u "NUM_CHAR_VALUES"), (0, u "NUM_SHORT_VALUES"), (0, u "MAX_SHORT_INDEX")] 86

def k4m0 : Method := { name := "<init>", desc := "()V", sig := { parameters := [], returnType := none }, accessFlags := 2, code := none }
def k4c1 : Code := { maxStack := 9, maxLocals := 7, code := jdk_2529_method_12_code, exceptionTable := #[], attributes := #[] }
def k4m1 : Method := { name := "sort", desc := "([JIII)V", sig := { parameters := [(.array .long), .int, .int, .int], returnType := none }, accessFlags := 8, code := some k4c1 }
def k4c2 : Code := { maxStack := 6, maxLocals := 25, code := jdk_2529_method_13_code, exceptionTable := #[], attributes := #[] }
def k4m2 : Method := { name := "sort", desc := "(Ljava/util/DualPivotQuicksort$Sorter;[JIII)V", sig := { parameters := [(.object "java/util/DualPivotQuicksort$Sorter"), (.array .long), .int, .int, .int], returnType := none }, accessFlags := 8, code := some k4c2 }
def k4c3 : Code := { maxStack := 5, maxLocals := 7, code := jdk_2529_method_15_code, exceptionTable := #[], attributes := #[] }
def k4m3 : Method := { name := "insertionSort", desc := "([JII)V", sig := { parameters := [(.array .long), .int, .int], returnType := none }, accessFlags := 10, code := some k4c3 }
/-- java/util/DualPivotQuicksort -/
def k4 : Class := { plain "java/util/DualPivotQuicksort" (some 0) with
  accessFlags := 48
  interfaces := #[]
  cf := some (fileOf pool4 1 #[.nestMembers #[73, 85, 17]] #[{ accessFlags := 2, nameIndex := 11, descriptorIndex := 12, attributes := #[] }, { accessFlags := 8, nameIndex := 28, descriptorIndex := 104, attributes := #[] }, { accessFlags := 8, nameIndex := 28, descriptorIndex := 101, attributes := #[] }, { accessFlags := 10, nameIndex := 36, descriptorIndex := 107, attributes := #[] }] 48 8 #[] #[{ accessFlags := 26, nameIndex := 214, descriptorIndex := 68, attributes := #[] }, { accessFlags := 26, nameIndex := 217, descriptorIndex := 68, attributes := #[] }, { accessFlags := 26, nameIndex := 219, descriptorIndex := 68, attributes := #[] }, { accessFlags := 26, nameIndex := 221, descriptorIndex := 68, attributes := #[] }, { accessFlags := 26, nameIndex := 222, descriptorIndex := 68, attributes := #[] }, { accessFlags := 26, nameIndex := 224, descriptorIndex := 68, attributes := #[] }, { accessFlags := 26, nameIndex := 226, descriptorIndex := 68, attributes := #[] }, { accessFlags := 26, nameIndex := 228, descriptorIndex := 68, attributes := #[] }, { accessFlags := 26, nameIndex := 230, descriptorIndex := 68, attributes := #[] }, { accessFlags := 26, nameIndex := 231, descriptorIndex := 68, attributes := #[] }, { accessFlags := 26, nameIndex := 233, descriptorIndex := 68, attributes := #[] }, { accessFlags := 26, nameIndex := 235, descriptorIndex := 68, attributes := #[] }, { accessFlags := 26, nameIndex := 237, descriptorIndex := 68, attributes := #[] }, { accessFlags := 26, nameIndex := 239, descriptorIndex := 68, attributes := #[] }, { accessFlags := 26, nameIndex := 241, descriptorIndex := 68, attributes := #[] }, { accessFlags := 26, nameIndex := 242, descriptorIndex := 68, attributes := #[] }, { accessFlags := 26, nameIndex := 243, descriptorIndex := 68, attributes := #[] }, { accessFlags := 26, nameIndex := 244, descriptorIndex := 68, attributes := #[] }])
  fields := #[{ name := "MAX_MIXED_INSERTION_SORT_SIZE", type := .int, accessFlags := 26, slot := 0, constantValue := 0 }, { name := "MAX_INSERTION_SORT_SIZE", type := .int, accessFlags := 26, slot := 1, constantValue := 0 }, { name := "MIN_PARALLEL_SORT_SIZE", type := .int, accessFlags := 26, slot := 2, constantValue := 0 }, { name := "MIN_TRY_MERGE_SIZE", type := .int, accessFlags := 26, slot := 3, constantValue := 0 }, { name := "MIN_FIRST_RUN_SIZE", type := .int, accessFlags := 26, slot := 4, constantValue := 0 }, { name := "MIN_FIRST_RUNS_FACTOR", type := .int, accessFlags := 26, slot := 5, constantValue := 0 }, { name := "MAX_RUN_CAPACITY", type := .int, accessFlags := 26, slot := 6, constantValue := 0 }, { name := "MIN_RUN_COUNT", type := .int, accessFlags := 26, slot := 7, constantValue := 0 }, { name := "MIN_PARALLEL_MERGE_PARTS_SIZE", type := .int, accessFlags := 26, slot := 8, constantValue := 0 }, { name := "MIN_BYTE_COUNTING_SORT_SIZE", type := .int, accessFlags := 26, slot := 9, constantValue := 0 }, { name := "MIN_SHORT_OR_CHAR_COUNTING_SORT_SIZE", type := .int, accessFlags := 26, slot := 10, constantValue := 0 }, { name := "DELTA", type := .int, accessFlags := 26, slot := 11, constantValue := 0 }, { name := "MAX_RECURSION_DEPTH", type := .int, accessFlags := 26, slot := 12, constantValue := 0 }, { name := "NUM_BYTE_VALUES", type := .int, accessFlags := 26, slot := 13, constantValue := 0 }, { name := "MAX_BYTE_INDEX", type := .int, accessFlags := 26, slot := 14, constantValue := 0 }, { name := "NUM_CHAR_VALUES", type := .int, accessFlags := 26, slot := 15, constantValue := 0 }, { name := "NUM_SHORT_VALUES", type := .int, accessFlags := 26, slot := 16, constantValue := 0 }, { name := "MAX_SHORT_INDEX", type := .int, accessFlags := 26, slot := 17, constantValue := 0 }]
  methods := #[k4m0, k4m1, k4m2, k4m3]
  instanceTypes := #[]
  staticTypes := #[.int, .int, .int, .int, .int, .int, .int, .int, .int, .int, .int, .int, .int, .int, .int, .int, .int, .int]
  resolved := Array.replicate 331 none
  statics := none }

def pool5 : Array CpInfo := pool [(1, .class_ 2), (0, u "java/lang/Math"), (1, .class_ 6), (1, u "java/lang/Object"), (0, u "<init>"), (0, u "()V"), (89, .class_ 100), (1, u "java/lang/Math$RandomNumberGeneratorHolder"), (20, u "(JJ)J"), (50, u "negativeZeroFloatBits"), (0, u "J"), (2, u "negativeZeroDoubleBits"), (21, u "max"), (2, u "min"), (43, u "$assertionsDisabled"), (0, u "Z"), (88, u "(II)I"), (2, u "twoToTheDoubleScaleDown"), (0, u "D"), (4, u "twoToTheDoubleScaleUp"), (9, u "E"), (3, u "PI"), (2, u "TAU"), (2, u "DEGREES_TO_RADIANS"), (0, u "RADIANS_TO_DEGREES")] 94

def k5m0 : Method := { name := "<init>", desc := "()V", sig := { parameters := [], returnType := none }, accessFlags := 2, code := none }
def k5c1 : Code := { maxStack := 4, maxLocals := 4, code := jdk_29_method_66_code, exceptionTable := #[], attributes := #[] }
def k5m1 : Method := { name := "max", desc := "(JJ)J", sig := { parameters := [.long, .long], returnType := some .long }, accessFlags := 9, code := some k5c1 }
def k5c2 : Code := { maxStack := 2, maxLocals := 2, code := jdk_29_method_69_code, exceptionTable := #[], attributes := #[] }
def k5m2 : Method := { name := "min", desc := "(II)I", sig := { parameters := [.int, .int], returnType := some .int }, accessFlags := 9, code := some k5c2 }
def k5c3 : Code := { maxStack := 4, maxLocals := 4, code := jdk_29_method_70_code, exceptionTable := #[], attributes := #[] }
def k5m3 : Method := { name := "min", desc := "(JJ)J", sig := { parameters := [.long, .long], returnType := some .long }, accessFlags := 9, code := some k5c3 }
/-- java/lang/Math -/
def k5 : Class := { plain "java/lang/Math" (some 0) with
  accessFlags := 49
  interfaces := #[]
  cf := some (fileOf pool5 1 #[.nestMembers #[98]] #[{ accessFlags := 2, nameIndex := 7, descriptorIndex := 8, attributes := #[] }, { accessFlags := 9, nameIndex := 198, descriptorIndex := 121, attributes := #[] }, { accessFlags := 9, nameIndex := 201, descriptorIndex := 335, attributes := #[] }, { accessFlags := 9, nameIndex := 201, descriptorIndex := 121, attributes := #[] }] 49 4 #[] #[{ accessFlags := 25, nameIndex := 354, descriptorIndex := 339, attributes := #[] }, { accessFlags := 25, nameIndex := 358, descriptorIndex := 339, attributes := #[] }, { accessFlags := 25, nameIndex := 361, descriptorIndex := 339, attributes := #[] }, { accessFlags := 26, nameIndex := 364, descriptorIndex := 339, attributes := #[] }, { accessFlags := 26, nameIndex := 365, descriptorIndex := 339, attributes := #[] }, { accessFlags := 26, nameIndex := 172, descriptorIndex := 173, attributes := #[] }, { accessFlags := 26, nameIndex := 176, descriptorIndex := 173, attributes := #[] }, { accessFlags := 8, nameIndex := 344, descriptorIndex := 339, attributes := #[] }, { accessFlags := 8, nameIndex := 338, descriptorIndex := 339, attributes := #[] }, { accessFlags := 4120, nameIndex := 245, descriptorIndex := 246, attributes := #[] }])
  fields := #[{ name := "E", type := .double, accessFlags := 25, slot := 0, constantValue := 0 }, { name := "PI", type := .double, accessFlags := 25, slot := 1, constantValue := 0 }, { name := "TAU", type := .double, accessFlags := 25, slot := 2, constantValue := 0 }, { name := "DEGREES_TO_RADIANS", type := .double, accessFlags := 26, slot := 3, constantValue := 0 }, { name := "RADIANS_TO_DEGREES", type := .double, accessFlags := 26, slot := 4, constantValue := 0 }, { name := "negativeZeroFloatBits", type := .long, accessFlags := 26, slot := 5, constantValue := 0 }, { name := "negativeZeroDoubleBits", type := .long, accessFlags := 26, slot := 6, constantValue := 0 }, { name := "twoToTheDoubleScaleUp", type := .double, accessFlags := 8, slot := 7, constantValue := 0 }, { name := "twoToTheDoubleScaleDown", type := .double, accessFlags := 8, slot := 8, constantValue := 0 }, { name := "$assertionsDisabled", type := .boolean, accessFlags := 4120, slot := 9, constantValue := 0 }]
  methods := #[k5m0, k5m1, k5m2, k5m3]
  instanceTypes := #[]
  staticTypes := #[.double, .double, .double, .double, .double, .long, .long, .double, .double, .boolean]
  resolved := Array.replicate 460 none
  statics := none }

def pool6 : Array CpInfo := pool [(1, .class_ 2), (0, u "java/lang/Appendable"), (0, .class_ 4), (0, u "java/lang/Object")] 9

/-- java/lang/Appendable -/
def k6 : Class := { plain "java/lang/Appendable" (some 0) with
  accessFlags := 1537
  interfaces := #[]
  cf := some (fileOf pool6 1 #[] #[] 1537 3 #[] #[])
  fields := #[]
  methods := #[]
  instanceTypes := #[]
  staticTypes := #[]
  resolved := Array.replicate 14 none
  statics := none }

def pool7 : Array CpInfo := pool [(2, .class_ 4), (1, u "java/lang/CharSequence"), (42, .class_ 48), (0, u "java/lang/CharSequence$1CodePointIterator"), (10, .class_ 60), (0, u "java/lang/CharSequence$1CharIterator"), (5, .class_ 67), (0, u "java/lang/Object")] 63

/-- java/lang/CharSequence -/
def k7 : Class := { plain "java/lang/CharSequence" (some 0) with
  accessFlags := 1537
  interfaces := #[]
  cf := some (fileOf pool7 2 #[.nestMembers #[47, 59]] #[] 1537 66 #[] #[])
  fields := #[]
  methods := #[]
  instanceTypes := #[]
  staticTypes := #[]
  resolved := Array.replicate 131 none
  statics := none }

def pool8 : Array CpInfo := pool [(1, .class_ 2), (0, u "java/lang/String"), (0, .methodref 4 5), (0, .class_ 6), (0, .nameAndType 7 8), (0, u "java/lang/Object"), (0, u "<init>"), (0, u "()V"), (1, .class_ 12), (1, u "java/lang/AbstractStringBuilder"), (0, u "EMPTYVALUE"), (0, u "[B"), (0, .fieldref 10 16), (0, .nameAndType 17 14), (0, u "value"), (0, .fieldref 1 19), (0, .nameAndType 20 21), (0, u "COMPACT_STRINGS"), (0, u "Z"), (0, .fieldref 10 23), (0, .nameAndType 24 25), (0, u "coder"), (0, u "B"), (6, .methodref 1 33), (0, .nameAndType 34 35), (0, u "length"), (0, u "()I"), (4, .methodref 1 41), (0, .nameAndType 24 42), (0, u "()B"), (2, u "append"), (0, u "(Ljava/lang/String;)Ljava/lang/AbstractStringBuilder;"), (1, .class_ 49), (0, u "java/lang/CharSequence"), (19, u "(Ljava/lang/String;)V"), (5, u "maybeLatin1"), (3, .fieldref 10 80), (0, .nameAndType 81 82), (0, u "count"), (0, u "I"), (0, .methodref 10 84), (0, .nameAndType 85 86), (0, u "isLatin1"), (0, u "()Z"), (13, .methodref 10 101), (0, .nameAndType 102 103), (0, u "ensureCapacityInternal"), (0, u "(I)V"), (84, u "getChars"), (19, .methodref 10 209), (0, .nameAndType 210 211), (0, u "putStringAt"), (0, u "(ILjava/lang/String;)V"), (5, u "inflateIfNeededFor"), (2, .nameAndType 221 222), (0, u "getBytes"), (0, u "([BIB)V"), (24, u "stringSize"), (6, .methodref 255 256), (0, .class_ 257), (0, .nameAndType 247 258), (0, u "java/lang/Long"), (0, u "(J)I"), (0, .methodref 255 260), (0, .nameAndType 188 261), (0, u "(JI[B)I"), (135, .methodref 10 398), (0, .nameAndType 217 69), (0, .methodref 1 220), (3, u "()[B"), (40, .class_ 445), (0, u "java/lang/Appendable"), (67, u "(J)Ljava/lang/AbstractStringBuilder;"), (38, u "getValue")] 56

def k8m0 : Method := { name := "<init>", desc := "()V", sig := { parameters := [], returnType := none }, accessFlags := 0, code := none }
def k8c1 : Code := { maxStack := 2, maxLocals := 2, code := jdk_68_method_2_code, exceptionTable := #[], attributes := #[] }
def k8m1 : Method := { name := "<init>", desc := "(I)V", sig := { parameters := [.int], returnType := none }, accessFlags := 0, code := some k8c1 }
def k8c2 : Code := { maxStack := 1, maxLocals := 1, code := jdk_68_method_6_code, exceptionTable := #[], attributes := #[] }
def k8m2 : Method := { name := "length", desc := "()I", sig := { parameters := [], returnType := some .int }, accessFlags := 1, code := some k8c2 }
def k8c3 : Code := { maxStack := 4, maxLocals := 3, code := jdk_68_method_9_code, exceptionTable := #[], attributes := #[] }
def k8m3 : Method := { name := "ensureCapacityInternal", desc := "(I)V", sig := { parameters := [.int], returnType := none }, accessFlags := 2, code := some k8c3 }
def k8c4 : Code := { maxStack := 3, maxLocals := 3, code := jdk_68_method_22_code, exceptionTable := #[], attributes := #[] }
def k8m4 : Method := { name := "append", desc := "(Ljava/lang/String;)Ljava/lang/AbstractStringBuilder;", sig := { parameters := [(.object "java/lang/String")], returnType := some (.object "java/lang/AbstractStringBuilder") }, accessFlags := 1, code := some k8c4 }
def k8c5 : Code := { maxStack := 5, maxLocals := 5, code := jdk_68_method_33_code, exceptionTable := #[], attributes := #[] }
def k8m5 : Method := { name := "append", desc := "(J)Ljava/lang/AbstractStringBuilder;", sig := { parameters := [.long], returnType := some (.object "java/lang/AbstractStringBuilder") }, accessFlags := 1, code := some k8c5 }
def k8c6 : Code := { maxStack := 1, maxLocals := 1, code := jdk_68_method_64_code, exceptionTable := #[], attributes := #[] }
def k8m6 : Method := { name := "getValue", desc := "()[B", sig := { parameters := [], returnType := some (.array .byte) }, accessFlags := 16, code := some k8c6 }
def k8c7 : Code := { maxStack := 1, maxLocals := 1, code := jdk_68_method_68_code, exceptionTable := #[], attributes := #[] }
def k8m7 : Method := { name := "isLatin1", desc := "()Z", sig := { parameters := [], returnType := some .boolean }, accessFlags := 16, code := some k8c7 }
def k8c8 : Code := { maxStack := 2, maxLocals := 2, code := jdk_68_method_71_code, exceptionTable := #[], attributes := #[] }
def k8m8 : Method := { name := "inflateIfNeededFor", desc := "(Ljava/lang/String;)V", sig := { parameters := [(.object "java/lang/String")], returnType := none }, accessFlags := 2, code := some k8c8 }
def k8c9 : Code := { maxStack := 4, maxLocals := 3, code := jdk_68_method_73_code, exceptionTable := #[], attributes := #[] }
def k8m9 : Method := { name := "putStringAt", desc := "(ILjava/lang/String;)V", sig := { parameters := [.int, (.object "java/lang/String")], returnType := none }, accessFlags := 2, code := some k8c9 }
/-- java/lang/AbstractStringBuilder -/
def k8 : Class := { plain "java/lang/AbstractStringBuilder" (some 0) with
  accessFlags := 1056
  interfaces := #[6, 7]
  cf := some (fileOf pool8 10 #[] #[{ accessFlags := 0, nameIndex := 7, descriptorIndex := 8, attributes := #[] }, { accessFlags := 0, nameIndex := 7, descriptorIndex := 103, attributes := #[] }, { accessFlags := 1, nameIndex := 34, descriptorIndex := 35, attributes := #[] }, { accessFlags := 2, nameIndex := 102, descriptorIndex := 103, attributes := #[] }, { accessFlags := 1, nameIndex := 45, descriptorIndex := 46, attributes := #[] }, { accessFlags := 1, nameIndex := 45, descriptorIndex := 513, attributes := #[] }, { accessFlags := 16, nameIndex := 552, descriptorIndex := 403, attributes := #[] }, { accessFlags := 16, nameIndex := 85, descriptorIndex := 86, attributes := #[] }, { accessFlags := 2, nameIndex := 217, descriptorIndex := 69, attributes := #[] }, { accessFlags := 2, nameIndex := 210, descriptorIndex := 211, attributes := #[] }] 1056 4 #[444, 48] #[{ accessFlags := 0, nameIndex := 17, descriptorIndex := 14, attributes := #[] }, { accessFlags := 0, nameIndex := 24, descriptorIndex := 25, attributes := #[] }, { accessFlags := 0, nameIndex := 75, descriptorIndex := 21, attributes := #[] }, { accessFlags := 0, nameIndex := 81, descriptorIndex := 82, attributes := #[] }, { accessFlags := 26, nameIndex := 13, descriptorIndex := 14, attributes := #[] }])
  fields := #[{ name := "value", type := (.array .byte), accessFlags := 0, slot := 0, constantValue := 0 }, { name := "coder", type := .byte, accessFlags := 0, slot := 1, constantValue := 0 }, { name := "maybeLatin1", type := .boolean, accessFlags := 0, slot := 2, constantValue := 0 }, { name := "count", type := .int, accessFlags := 0, slot := 3, constantValue := 0 }, { name := "EMPTYVALUE", type := (.array .byte), accessFlags := 26, slot := 0, constantValue := 0 }]
  methods := #[k8m0, k8m1, k8m2, k8m3, k8m4, k8m5, k8m6, k8m7, k8m8, k8m9]
  instanceTypes := #[(.array .byte), .byte, .boolean, .int]
  staticTypes := #[(.array .byte)]
  resolved := Array.replicate 609 none
  statics := none }

def pool9 : Array CpInfo := pool [(1, .class_ 2), (0, u "java/io/Serializable"), (0, .class_ 4), (0, u "java/lang/Object")] 2

/-- java/io/Serializable -/
def k9 : Class := { plain "java/io/Serializable" (some 0) with
  accessFlags := 1537
  interfaces := #[]
  cf := some (fileOf pool9 1 #[] #[] 1537 3 #[] #[])
  fields := #[]
  methods := #[]
  instanceTypes := #[]
  staticTypes := #[]
  resolved := Array.replicate 7 none
  statics := none }

def pool10 : Array CpInfo := pool [(1, .class_ 2), (0, u "java/lang/Comparable"), (0, .class_ 4), (0, u "java/lang/Object")] 7

/-- java/lang/Comparable -/
def k10 : Class := { plain "java/lang/Comparable" (some 0) with
  accessFlags := 1537
  interfaces := #[]
  cf := some (fileOf pool10 1 #[] #[] 1537 3 #[] #[])
  fields := #[]
  methods := #[]
  instanceTypes := #[]
  staticTypes := #[]
  resolved := Array.replicate 12 none
  statics := none }

def pool11 : Array CpInfo := pool [(1, .methodref 2 3), (0, .class_ 4), (0, .nameAndType 5 6), (0, u "java/lang/AbstractStringBuilder"), (0, u "<init>"), (0, u "(I)V"), (11, .class_ 20), (1, u "java/lang/String"), (3, .class_ 26), (1, u "java/lang/StringBuilder"), (0, u "append"), (0, u "(Ljava/lang/String;)Ljava/lang/StringBuilder;"), (0, .methodref 2 30), (0, .nameAndType 27 31), (0, u "(Ljava/lang/String;)Ljava/lang/AbstractStringBuilder;"), (24, .methodref 2 57), (0, .nameAndType 27 58), (0, u "(J)Ljava/lang/AbstractStringBuilder;"), (78, .methodref 18 138), (0, .nameAndType 5 139), (0, u "(Ljava/lang/StringBuilder;)V"), (5, u "()V"), (10, u "()I"), (124, u "(J)Ljava/lang/StringBuilder;"), (61, .methodref 2 344), (0, .nameAndType 345 156), (0, u "length"), (3, .class_ 350), (0, u "java/lang/Appendable"), (0, .class_ 352), (0, u "java/io/Serializable"), (0, .class_ 354), (0, u "java/lang/Comparable"), (0, .class_ 356), (0, u "java/lang/CharSequence"), (0, u "serialVersionUID"), (0, u "J"), (40, u "toString"), (0, u "()Ljava/lang/String;")] 21

def k11c0 : Code := { maxStack := 2, maxLocals := 1, code := jdk_67_method_1_code, exceptionTable := #[], attributes := #[] }
def k11m0 : Method := { name := "<init>", desc := "()V", sig := { parameters := [], returnType := none }, accessFlags := 1, code := some k11c0 }
def k11c1 : Code := { maxStack := 2, maxLocals := 2, code := jdk_67_method_7_code, exceptionTable := #[], attributes := #[] }
def k11m1 : Method := { name := "append", desc := "(Ljava/lang/String;)Ljava/lang/StringBuilder;", sig := { parameters := [(.object "java/lang/String")], returnType := some (.object "java/lang/StringBuilder") }, accessFlags := 1, code := some k11c1 }
def k11c2 : Code := { maxStack := 3, maxLocals := 3, code := jdk_67_method_16_code, exceptionTable := #[], attributes := #[] }
def k11m2 : Method := { name := "append", desc := "(J)Ljava/lang/StringBuilder;", sig := { parameters := [.long], returnType := some (.object "java/lang/StringBuilder") }, accessFlags := 1, code := some k11c2 }
def k11c3 : Code := { maxStack := 3, maxLocals := 1, code := jdk_67_method_42_code, exceptionTable := #[], attributes := #[] }
def k11m3 : Method := { name := "toString", desc := "()Ljava/lang/String;", sig := { parameters := [], returnType := some (.object "java/lang/String") }, accessFlags := 1, code := some k11c3 }
def k11c4 : Code := { maxStack := 1, maxLocals := 1, code := jdk_67_method_93_code, exceptionTable := #[], attributes := #[] }
def k11m4 : Method := { name := "length", desc := "()I", sig := { parameters := [], returnType := some .int }, accessFlags := 4161, code := some k11c4 }
/-- java/lang/StringBuilder -/
def k11 : Class := { plain "java/lang/StringBuilder" (some 8) with
  accessFlags := 49
  interfaces := #[6, 9, 10, 7]
  cf := some (fileOf pool11 24 #[] #[{ accessFlags := 1, nameIndex := 5, descriptorIndex := 145, attributes := #[] }, { accessFlags := 1, nameIndex := 27, descriptorIndex := 28, attributes := #[] }, { accessFlags := 1, nameIndex := 27, descriptorIndex := 281, attributes := #[] }, { accessFlags := 1, nameIndex := 399, descriptorIndex := 400, attributes := #[] }, { accessFlags := 4161, nameIndex := 345, descriptorIndex := 156, attributes := #[] }] 49 2 #[349, 351, 353, 355] #[{ accessFlags := 24, nameIndex := 357, descriptorIndex := 358, attributes := #[] }])
  fields := #[{ name := "serialVersionUID", type := .long, accessFlags := 24, slot := 0, constantValue := 0 }]
  methods := #[k11m0, k11m1, k11m2, k11m3, k11m4]
  instanceTypes := #[(.array .byte), .byte, .boolean, .int]
  staticTypes := #[.long]
  resolved := Array.replicate 422 none
  statics := none }

def pool12 : Array CpInfo := pool [(1, .class_ 2), (0, u "java/lang/constant/Constable"), (0, .class_ 4), (0, u "java/lang/Object")] 6

/-- java/lang/constant/Constable -/
def k12 : Class := { plain "java/lang/constant/Constable" (some 0) with
  accessFlags := 1537
  interfaces := #[]
  cf := some (fileOf pool12 1 #[] #[] 1537 3 #[] #[])
  fields := #[]
  methods := #[]
  instanceTypes := #[]
  staticTypes := #[]
  resolved := Array.replicate 11 none
  statics := none }

def pool13 : Array CpInfo := pool [(1, .class_ 2), (0, u "java/lang/constant/ConstantDesc"), (0, .class_ 4), (0, u "java/lang/Object")] 32

/-- java/lang/constant/ConstantDesc -/
def k13 : Class := { plain "java/lang/constant/ConstantDesc" (some 0) with
  accessFlags := 1537
  interfaces := #[]
  cf := some (fileOf pool13 1 #[] #[] 1537 3 #[] #[])
  fields := #[]
  methods := #[]
  instanceTypes := #[]
  staticTypes := #[]
  resolved := Array.replicate 37 none
  statics := none }

def pool14 : Array CpInfo := pool [(1, .methodref 2 3), (0, .class_ 4), (0, .nameAndType 5 6), (0, u "java/lang/Object"), (0, u "<init>"), (0, u "()V"), (2, .fieldref 10 11), (0, .class_ 12), (0, .nameAndType 13 14), (0, u "java/lang/String"), (0, u "value"), (0, u "[B"), (0, .fieldref 10 16), (0, .nameAndType 17 18), (0, u "coder"), (0, u "B"), (2, u "hash"), (0, u "I"), (2, u "hashIsZero"), (0, u "Z"), (11, .fieldref 10 39), (0, .nameAndType 40 26), (0, u "COMPACT_STRINGS"), (13, .methodref 55 56), (0, .class_ 57), (0, .nameAndType 58 59), (0, u "java/util/Arrays"), (0, u "copyOfRange"), (0, u "([BII)[B"), (47, .class_ 109), (1, u "java/lang/StringLatin1"), (32, u "()Z"), (50, .class_ 195), (1, u "java/lang/System"), (16, .methodref 193 213), (0, .nameAndType 214 215), (0, u "arraycopy"), (0, u "(Ljava/lang/Object;ILjava/lang/Object;II)V"), (118, u "()I"), (0, .methodref 10 336), (0, .nameAndType 17 337), (0, u "()B"), (2, u "()[B"), (22, u "([BI)C"), (27, u "(II)V"), (35, u "(I)C"), (61, .methodref 10 490), (0, .nameAndType 5 491), (0, u "(Ljava/lang/AbstractStringBuilder;Ljava/lang/Void;)V"), (0, .methodref 10 493), (0, .nameAndType 494 142), (0, u "isLatin1"), (0, .methodref 107 496), (0, .nameAndType 497 363), (0, u "charAt"), (3, u "checkIndex"), (4, .nameAndType 507 334), (0, u "length"), (24, u "getBytes"), (8, .methodref 107 542), (0, .nameAndType 543 544), (0, u "equals"), (0, u "([B[B)Z"), (4, .methodref 550 506), (0, .class_ 551), (0, u "java/lang/AbstractStringBuilder"), (0, .methodref 550 553), (0, .nameAndType 554 340), (0, u "getValue"), (18, u "(Ljava/lang/Object;)Z"), (1, .class_ 576), (0, u "java/lang/CharSequence"), (22, u "CASE_INSENSITIVE_ORDER"), (0, u "Ljava/util/Comparator;"), (220, u "([BIB)V"), (225, .methodref 550 493), (5, .fieldref 1054 1055), (0, .class_ 1056), (0, .nameAndType 1057 1058), (0, u "jdk/internal/util/Preconditions"), (0, u "SIOOBE_FORMATTER"), (0, u "Ljava/util/function/BiFunction;"), (0, .methodref 1054 1060), (0, .nameAndType 501 1061), (0, u "(IILjava/util/function/BiFunction;)I"), (39, u "serialPersistentFields"), (0, u "[Ljava/io/ObjectStreamField;"), (0, .class_ 1104), (0, u "java/lang/String$CaseInsensitiveComparator"), (1, .class_ 1107), (0, u "java/io/Serializable"), (0, .class_ 1109), (0, u "java/lang/Comparable"), (0, .class_ 1111), (0, u "java/lang/constant/Constable"), (0, .class_ 1113), (0, u "java/lang/constant/ConstantDesc"), (2, u "serialVersionUID"), (0, u "J"), (3, u "REPL"), (0, u "C"), (2, u "LATIN1"), (1, u "UTF16"), (105, u "(Ljava/lang/StringBuilder;)V")] 217

def k14m0 : Method := { name := "<init>", desc := "()V", sig := { parameters := [], returnType := none }, accessFlags := 1, code := none }
def k14c1 : Code := { maxStack := 3, maxLocals := 2, code := jdk_42_method_53_code, exceptionTable := #[], attributes := #[] }
def k14m1 : Method := { name := "<init>", desc := "(Ljava/lang/StringBuilder;)V", sig := { parameters := [(.object "java/lang/StringBuilder")], returnType := none }, accessFlags := 1, code := some k14c1 }
def k14c2 : Code := { maxStack := 2, maxLocals := 1, code := jdk_42_method_54_code, exceptionTable := #[], attributes := #[] }
def k14m2 : Method := { name := "length", desc := "()I", sig := { parameters := [], returnType := some .int }, accessFlags := 1, code := some k14c2 }
def k14c3 : Code := { maxStack := 2, maxLocals := 2, code := jdk_42_method_56_code, exceptionTable := #[], attributes := #[] }
def k14m3 : Method := { name := "charAt", desc := "(I)C", sig := { parameters := [.int], returnType := some .char }, accessFlags := 1, code := some k14c3 }
def k14c4 : Code := { maxStack := 2, maxLocals := 3, code := jdk_42_method_66_code, exceptionTable := #[], attributes := #[] }
def k14m4 : Method := { name := "equals", desc := "(Ljava/lang/Object;)Z", sig := { parameters := [(.object "java/lang/Object")], returnType := some .boolean }, accessFlags := 1, code := some k14c4 }
def k14c5 : Code := { maxStack := 5, maxLocals := 4, code := jdk_42_method_147_code, exceptionTable := #[], attributes := #[] }
def k14m5 : Method := { name := "getBytes", desc := "([BIB)V", sig := { parameters := [(.array .byte), .int, .byte], returnType := none }, accessFlags := 0, code := some k14c5 }
def k14c6 : Code := { maxStack := 5, maxLocals := 5, code := jdk_42_method_150_code, exceptionTable := #[], attributes := #[] }
def k14m6 : Method := { name := "<init>", desc := "(Ljava/lang/AbstractStringBuilder;Ljava/lang/Void;)V", sig := { parameters := [(.object "java/lang/AbstractStringBuilder"), (.object "java/lang/Void")], returnType := none }, accessFlags := 0, code := some k14c6 }
def k14c7 : Code := { maxStack := 1, maxLocals := 1, code := jdk_42_method_152_code, exceptionTable := #[], attributes := #[] }
def k14m7 : Method := { name := "coder", desc := "()B", sig := { parameters := [], returnType := some .byte }, accessFlags := 0, code := some k14c7 }
def k14c8 : Code := { maxStack := 1, maxLocals := 1, code := jdk_42_method_154_code, exceptionTable := #[], attributes := #[] }
def k14m8 : Method := { name := "isLatin1", desc := "()Z", sig := { parameters := [], returnType := some .boolean }, accessFlags := 0, code := some k14c8 }
def k14c9 : Code := { maxStack := 3, maxLocals := 2, code := jdk_42_method_155_code, exceptionTable := #[], attributes := #[] }
def k14m9 : Method := { name := "checkIndex", desc := "(II)V", sig := { parameters := [.int, .int], returnType := none }, accessFlags := 8, code := some k14c9 }
/-- java/lang/String -/
def k14 : Class := { plain "java/lang/String" (some 0) with
  accessFlags := 49
  interfaces := #[9, 10, 7, 12, 13]
  cf := some (fileOf pool14 10 #[.nestMembers #[1103]] #[{ accessFlags := 1, nameIndex := 5, descriptorIndex := 6, attributes := #[] }, { accessFlags := 1, nameIndex := 5, descriptorIndex := 1233, attributes := #[] }, { accessFlags := 1, nameIndex := 507, descriptorIndex := 334, attributes := #[] }, { accessFlags := 1, nameIndex := 497, descriptorIndex := 427, attributes := #[] }, { accessFlags := 1, nameIndex := 543, descriptorIndex := 573, attributes := #[] }, { accessFlags := 0, nameIndex := 532, descriptorIndex := 821, attributes := #[] }, { accessFlags := 0, nameIndex := 5, descriptorIndex := 491, attributes := #[] }, { accessFlags := 0, nameIndex := 17, descriptorIndex := 337, attributes := #[] }, { accessFlags := 0, nameIndex := 494, descriptorIndex := 142, attributes := #[] }, { accessFlags := 8, nameIndex := 501, descriptorIndex := 391, attributes := #[] }] 49 2 #[1106, 1108, 575, 1110, 1112] #[{ accessFlags := 18, nameIndex := 13, descriptorIndex := 14, attributes := #[] }, { accessFlags := 18, nameIndex := 17, descriptorIndex := 18, attributes := #[] }, { accessFlags := 2, nameIndex := 21, descriptorIndex := 22, attributes := #[] }, { accessFlags := 2, nameIndex := 25, descriptorIndex := 26, attributes := #[] }, { accessFlags := 26, nameIndex := 1116, descriptorIndex := 1117, attributes := #[] }, { accessFlags := 24, nameIndex := 40, descriptorIndex := 26, attributes := #[] }, { accessFlags := 26, nameIndex := 1101, descriptorIndex := 1102, attributes := #[] }, { accessFlags := 26, nameIndex := 1121, descriptorIndex := 1122, attributes := #[] }, { accessFlags := 25, nameIndex := 599, descriptorIndex := 600, attributes := #[] }, { accessFlags := 24, nameIndex := 1125, descriptorIndex := 18, attributes := #[] }, { accessFlags := 24, nameIndex := 1127, descriptorIndex := 18, attributes := #[] }])
  fields := #[{ name := "value", type := (.array .byte), accessFlags := 18, slot := 0, constantValue := 0 }, { name := "coder", type := .byte, accessFlags := 18, slot := 1, constantValue := 0 }, { name := "hash", type := .int, accessFlags := 2, slot := 2, constantValue := 0 }, { name := "hashIsZero", type := .boolean, accessFlags := 2, slot := 3, constantValue := 0 }, { name := "serialVersionUID", type := .long, accessFlags := 26, slot := 0, constantValue := 0 }, { name := "COMPACT_STRINGS", type := .boolean, accessFlags := 24, slot := 1, constantValue := 0 }, { name := "serialPersistentFields", type := (.array (.object "java/io/ObjectStreamField")), accessFlags := 26, slot := 2, constantValue := 0 }, { name := "REPL", type := .char, accessFlags := 26, slot := 3, constantValue := 0 }, { name := "CASE_INSENSITIVE_ORDER", type := (.object "java/util/Comparator"), accessFlags := 25, slot := 4, constantValue := 0 }, { name := "LATIN1", type := .byte, accessFlags := 24, slot := 5, constantValue := 0 }, { name := "UTF16", type := .byte, accessFlags := 24, slot := 6, constantValue := 0 }]
  methods := #[k14m0, k14m1, k14m2, k14m3, k14m4, k14m5, k14m6, k14m7, k14m8, k14m9]
  instanceTypes := #[(.array .byte), .byte, .int, .boolean]
  staticTypes := #[.long, .boolean, (.array (.object "java/io/ObjectStreamField")), .char, (.object "java/util/Comparator"), .byte, .byte]
  resolved := Array.replicate 1451 none
  statics := some 0 }

def pool15 : Array CpInfo := pool [(2, .class_ 4), (1, u "java/lang/Object"), (0, u "<init>"), (0, u "()V"), (1, .class_ 10), (1, u "java/lang/Number"), (2, .class_ 14), (0, u "java/io/Serializable"), (0, u "serialVersionUID"), (0, u "J")] 20

def k15m0 : Method := { name := "<init>", desc := "()V", sig := { parameters := [], returnType := none }, accessFlags := 1, code := none }
/-- java/lang/Number -/
def k15 : Class := { plain "java/lang/Number" (some 0) with
  accessFlags := 1057
  interfaces := #[9]
  cf := some (fileOf pool15 8 #[] #[{ accessFlags := 1, nameIndex := 5, descriptorIndex := 6, attributes := #[] }] 1057 2 #[13] #[{ accessFlags := 26, nameIndex := 15, descriptorIndex := 16, attributes := #[] }])
  fields := #[{ name := "serialVersionUID", type := .long, accessFlags := 26, slot := 0, constantValue := 0 }]
  methods := #[k15m0]
  instanceTypes := #[]
  staticTypes := #[.long]
  resolved := Array.replicate 37 none
  statics := none }

def pool16 : Array CpInfo := pool [(1, .class_ 2), (0, u "java/lang/Long"), (15, .class_ 20), (1, u "java/lang/Integer"), (32, .long 10), (47, u "(J)I"), (18, u "stringSize"), (2, u "getChars"), (0, u "(JI[B)I"), (4, .long 18446744071562067968), (1, .long 100), (1, .fieldref 18 134), (0, .nameAndType 135 136), (0, u "DigitOnes"), (0, u "[B"), (0, .fieldref 18 138), (0, .nameAndType 139 136), (0, u "DigitTens"), (0, .long 18446744073709551606), (94, .class_ 237), (1, u "java/lang/Long$LongCache"), (33, .class_ 272), (0, u "java/lang/Number"), (2, u "value"), (0, u "J"), (84, u "TYPE"), (0, u "Ljava/lang/Class;"), (0, .class_ 364), (0, u "java/lang/Comparable"), (0, .class_ 366), (0, u "java/lang/constant/Constable"), (0, .class_ 368), (0, u "java/lang/constant/ConstantDesc"), (0, u "MIN_VALUE"), (1, u "MAX_VALUE"), (4, u "SIZE"), (0, u "I"), (1, u "BYTES"), (1, u "serialVersionUID")] 142

def k16c0 : Code := { maxStack := 4, maxLocals := 11, code := jdk_35_method_14_code, exceptionTable := #[], attributes := #[] }
def k16m0 : Method := { name := "getChars", desc := "(JI[B)I", sig := { parameters := [.long, .int, (.array .byte)], returnType := some .int }, accessFlags := 8, code := some k16c0 }
def k16c1 : Code := { maxStack := 4, maxLocals := 6, code := jdk_35_method_15_code, exceptionTable := #[], attributes := #[] }
def k16m1 : Method := { name := "stringSize", desc := "(J)I", sig := { parameters := [.long], returnType := some .int }, accessFlags := 8, code := some k16c1 }
/-- java/lang/Long -/
def k16 : Class := { plain "java/lang/Long" (some 15) with
  accessFlags := 49
  interfaces := #[10, 12, 13]
  cf := some (fileOf pool16 1 #[.nestMembers #[235]] #[{ accessFlags := 8, nameIndex := 123, descriptorIndex := 124, attributes := #[] }, { accessFlags := 8, nameIndex := 120, descriptorIndex := 101, attributes := #[] }] 49 271 #[363, 365, 367] #[{ accessFlags := 25, nameIndex := 369, descriptorIndex := 276, attributes := #[] }, { accessFlags := 25, nameIndex := 371, descriptorIndex := 276, attributes := #[] }, { accessFlags := 25, nameIndex := 361, descriptorIndex := 362, attributes := #[] }, { accessFlags := 18, nameIndex := 275, descriptorIndex := 276, attributes := #[] }, { accessFlags := 25, nameIndex := 376, descriptorIndex := 377, attributes := #[] }, { accessFlags := 25, nameIndex := 379, descriptorIndex := 377, attributes := #[] }, { accessFlags := 26, nameIndex := 381, descriptorIndex := 276, attributes := #[] }])
  fields := #[{ name := "MIN_VALUE", type := .long, accessFlags := 25, slot := 0, constantValue := 0 }, { name := "MAX_VALUE", type := .long, accessFlags := 25, slot := 1, constantValue := 0 }, { name := "TYPE", type := (.object "java/lang/Class"), accessFlags := 25, slot := 2, constantValue := 0 }, { name := "value", type := .long, accessFlags := 18, slot := 0, constantValue := 0 }, { name := "SIZE", type := .int, accessFlags := 25, slot := 3, constantValue := 0 }, { name := "BYTES", type := .int, accessFlags := 25, slot := 4, constantValue := 0 }, { name := "serialVersionUID", type := .long, accessFlags := 26, slot := 5, constantValue := 0 }]
  methods := #[k16m0, k16m1]
  instanceTypes := #[.long]
  staticTypes := #[.long, .long, (.object "java/lang/Class"), .int, .int, .long]
  resolved := Array.replicate 524 none
  statics := none }

def pool17 : Array CpInfo := pool [(1, .class_ 2), (0, u "java/lang/Integer"), (16, u "digits"), (0, u "[C"), (64, u "DigitOnes"), (0, u "[B"), (2, u "DigitTens"), (99, .class_ 190), (0, u "java/lang/Integer$IntegerCache"), (3, u "I"), (8, .class_ 204), (0, u "java/lang/Number"), (2, u "value"), (94, u "TYPE"), (0, u "Ljava/lang/Class;"), (0, .class_ 305), (0, u "java/lang/Comparable"), (0, .class_ 307), (0, u "java/lang/constant/Constable"), (0, .class_ 309), (0, u "java/lang/constant/ConstantDesc"), (0, u "MIN_VALUE"), (1, u "MAX_VALUE"), (3, u "SIZE"), (1, u "BYTES"), (1, u "serialVersionUID"), (0, u "J")] 131

/-- java/lang/Integer -/
def k17 : Class := { plain "java/lang/Integer" (some 15) with
  accessFlags := 49
  interfaces := #[10, 12, 13]
  cf := some (fileOf pool17 1 #[.nestMembers #[189]] #[] 49 203 #[304, 306, 308] #[{ accessFlags := 25, nameIndex := 310, descriptorIndex := 194, attributes := #[] }, { accessFlags := 25, nameIndex := 312, descriptorIndex := 194, attributes := #[] }, { accessFlags := 25, nameIndex := 302, descriptorIndex := 303, attributes := #[] }, { accessFlags := 24, nameIndex := 19, descriptorIndex := 20, attributes := #[] }, { accessFlags := 24, nameIndex := 89, descriptorIndex := 86, attributes := #[] }, { accessFlags := 24, nameIndex := 85, descriptorIndex := 86, attributes := #[] }, { accessFlags := 18, nameIndex := 207, descriptorIndex := 194, attributes := #[] }, { accessFlags := 25, nameIndex := 316, descriptorIndex := 194, attributes := #[] }, { accessFlags := 25, nameIndex := 318, descriptorIndex := 194, attributes := #[] }, { accessFlags := 26, nameIndex := 320, descriptorIndex := 321, attributes := #[] }])
  fields := #[{ name := "MIN_VALUE", type := .int, accessFlags := 25, slot := 0, constantValue := 0 }, { name := "MAX_VALUE", type := .int, accessFlags := 25, slot := 1, constantValue := 0 }, { name := "TYPE", type := (.object "java/lang/Class"), accessFlags := 25, slot := 2, constantValue := 0 }, { name := "digits", type := (.array .char), accessFlags := 24, slot := 3, constantValue := 0 }, { name := "DigitTens", type := (.array .byte), accessFlags := 24, slot := 4, constantValue := 0 }, { name := "DigitOnes", type := (.array .byte), accessFlags := 24, slot := 5, constantValue := 0 }, { name := "value", type := .int, accessFlags := 18, slot := 0, constantValue := 0 }, { name := "SIZE", type := .int, accessFlags := 25, slot := 6, constantValue := 0 }, { name := "BYTES", type := .int, accessFlags := 25, slot := 7, constantValue := 0 }, { name := "serialVersionUID", type := .long, accessFlags := 26, slot := 8, constantValue := 0 }]
  methods := #[]
  instanceTypes := #[.int]
  staticTypes := #[.int, .int, (.object "java/lang/Class"), (.array .char), (.array .byte), (.array .byte), .int, .int, .long]
  resolved := Array.replicate 453 none
  statics := some 1 }

def pool18 : Array CpInfo := pool [(2, .class_ 4), (1, u "java/lang/Object"), (0, u "<init>"), (0, u "()V"), (1, .class_ 10), (1, u "java/lang/System"), (0, u "allowSecurityManager"), (0, u "I"), (16, u "cons"), (0, u "Ljava/io/Console;"), (77, .class_ 110), (1, u "java/lang/System$CallersHolder"), (43, u "initialErrStream"), (0, u "Ljava/io/PrintStream;"), (19, u "security"), (0, u "Ljava/lang/SecurityManager;"), (31, .class_ 209), (0, u "java/lang/System$1"), (7, u "props"), (0, u "Ljava/util/Properties;"), (2, u "lineSeparator"), (0, u "Ljava/lang/String;"), (96, .class_ 321), (1, u "java/lang/System$LoggerFinder"), (5, .class_ 328), (0, u "java/lang/System$Logger"), (67, u "err"), (2, u "out"), (91, u "notSupportedJnuEncoding"), (15, u "in"), (17, u "initialIn"), (0, u "Ljava/io/InputStream;"), (35, u "bootLayer"), (0, u "Ljava/lang/ModuleLayer;"), (99, .class_ 664), (0, u "java/lang/System$2"), (9, u "NEVER"), (2, u "MAYBE"), (49, u "arraycopy"), (0, u "(Ljava/lang/Object;ILjava/lang/Object;II)V"), (72, .class_ 802), (0, u "java/lang/System$Logger$Level")] 31

def k18m0 : Method := { name := "<init>", desc := "()V", sig := { parameters := [], returnType := none }, accessFlags := 2, code := none }
def k18m1 : Method := { name := "arraycopy", desc := "(Ljava/lang/Object;ILjava/lang/Object;II)V", sig := { parameters := [(.object "java/lang/Object"), .int, (.object "java/lang/Object"), .int, .int], returnType := none }, accessFlags := 265, code := none }
/-- java/lang/System -/
def k18 : Class := { plain "java/lang/System" (some 0) with
  accessFlags := 49
  interfaces := #[]
  cf := some (fileOf pool18 8 #[.nestMembers #[319, 327, 801, 108, 663, 208]] #[{ accessFlags := 2, nameIndex := 5, descriptorIndex := 6, attributes := #[] }, { accessFlags := 265, nameIndex := 727, descriptorIndex := 728, attributes := #[] }] 49 2 #[] #[{ accessFlags := 25, nameIndex := 507, descriptorIndex := 526, attributes := #[] }, { accessFlags := 25, nameIndex := 399, descriptorIndex := 155, attributes := #[] }, { accessFlags := 25, nameIndex := 396, descriptorIndex := 155, attributes := #[] }, { accessFlags := 10, nameIndex := 525, descriptorIndex := 526, attributes := #[] }, { accessFlags := 26, nameIndex := 674, descriptorIndex := 12, attributes := #[] }, { accessFlags := 26, nameIndex := 677, descriptorIndex := 12, attributes := #[] }, { accessFlags := 10, nameIndex := 11, descriptorIndex := 12, attributes := #[] }, { accessFlags := 74, nameIndex := 175, descriptorIndex := 176, attributes := #[] }, { accessFlags := 10, nameIndex := 491, descriptorIndex := 222, attributes := #[] }, { accessFlags := 74, nameIndex := 29, descriptorIndex := 30, attributes := #[] }, { accessFlags := 74, nameIndex := 154, descriptorIndex := 155, attributes := #[] }, { accessFlags := 10, nameIndex := 217, descriptorIndex := 218, attributes := #[] }, { accessFlags := 10, nameIndex := 221, descriptorIndex := 222, attributes := #[] }, { accessFlags := 8, nameIndex := 562, descriptorIndex := 563, attributes := #[] }])
  fields := #[{ name := "in", type := (.object "java/io/InputStream"), accessFlags := 25, slot := 0, constantValue := 0 }, { name := "out", type := (.object "java/io/PrintStream"), accessFlags := 25, slot := 1, constantValue := 0 }, { name := "err", type := (.object "java/io/PrintStream"), accessFlags := 25, slot := 2, constantValue := 0 }, { name := "initialIn", type := (.object "java/io/InputStream"), accessFlags := 10, slot := 3, constantValue := 0 }, { name := "NEVER", type := .int, accessFlags := 26, slot := 4, constantValue := 0 }, { name := "MAYBE", type := .int, accessFlags := 26, slot := 5, constantValue := 0 }, { name := "allowSecurityManager", type := .int, accessFlags := 10, slot := 6, constantValue := 0 }, { name := "security", type := (.object "java/lang/SecurityManager"), accessFlags := 74, slot := 7, constantValue := 0 }, { name := "notSupportedJnuEncoding", type := (.object "java/lang/String"), accessFlags := 10, slot := 8, constantValue := 0 }, { name := "cons", type := (.object "java/io/Console"), accessFlags := 74, slot := 9, constantValue := 0 }, { name := "initialErrStream", type := (.object "java/io/PrintStream"), accessFlags := 74, slot := 10, constantValue := 0 }, { name := "props", type := (.object "java/util/Properties"), accessFlags := 10, slot := 11, constantValue := 0 }, { name := "lineSeparator", type := (.object "java/lang/String"), accessFlags := 10, slot := 12, constantValue := 0 }, { name := "bootLayer", type := (.object "java/lang/ModuleLayer"), accessFlags := 8, slot := 13, constantValue := 0 }]
  methods := #[k18m0, k18m1]
  instanceTypes := #[]
  staticTypes := #[(.object "java/io/InputStream"), (.object "java/io/PrintStream"), (.object "java/io/PrintStream"), (.object "java/io/InputStream"), .int, .int, .int, (.object "java/lang/SecurityManager"), (.object "java/lang/String"), (.object "java/io/Console"), (.object "java/io/PrintStream"), (.object "java/util/Properties"), (.object "java/lang/String"), (.object "java/lang/ModuleLayer")]
  resolved := Array.replicate 834 none
  statics := none }

def pool19 : Array CpInfo := pool [(1, .class_ 2), (0, u "java/lang/String"), (1, .class_ 6), (1, u "java/lang/Object"), (0, u "<init>"), (0, u "()V"), (0, .methodref 1 10), (0, .nameAndType 11 12), (0, u "checkIndex"), (0, u "(II)V"), (1, .class_ 16), (1, u "java/lang/StringLatin1"), (36, u "([BI)C"), (67, u "$assertionsDisabled"), (0, u "Z"), (98, .class_ 223), (1, u "java/lang/StringLatin1$LinesSpliterator"), (28, u "charAt"), (28, u "equals"), (0, u "([B[B)Z"), (107, .class_ 391), (0, u "java/lang/StringLatin1$CharsSpliterator")] 3

def k19m0 : Method := { name := "<init>", desc := "()V", sig := { parameters := [], returnType := none }, accessFlags := 0, code := none }
def k19c1 : Code := { maxStack := 2, maxLocals := 2, code := jdk_43_method_2_code, exceptionTable := #[], attributes := #[] }
def k19m1 : Method := { name := "charAt", desc := "([BI)C", sig := { parameters := [(.array .byte), .int], returnType := some .char }, accessFlags := 9, code := some k19c1 }
def k19c2 : Code := { maxStack := 3, maxLocals := 3, code := jdk_43_method_13_code, exceptionTable := #[], attributes := #[] }
def k19m2 : Method := { name := "equals", desc := "([B[B)Z", sig := { parameters := [(.array .byte), (.array .byte)], returnType := some .boolean }, accessFlags := 9, code := some k19c2 }
/-- java/lang/StringLatin1 -/
def k19 : Class := { plain "java/lang/StringLatin1" (some 0) with
  accessFlags := 48
  interfaces := #[]
  cf := some (fileOf pool19 14 #[.nestMembers #[390, 221]] #[{ accessFlags := 0, nameIndex := 7, descriptorIndex := 8, attributes := #[] }, { accessFlags := 9, nameIndex := 252, descriptorIndex := 53, attributes := #[] }, { accessFlags := 9, nameIndex := 281, descriptorIndex := 282, attributes := #[] }] 48 4 #[] #[{ accessFlags := 4120, nameIndex := 121, descriptorIndex := 122, attributes := #[] }])
  fields := #[{ name := "$assertionsDisabled", type := .boolean, accessFlags := 4120, slot := 0, constantValue := 0 }]
  methods := #[k19m0, k19m1, k19m2]
  instanceTypes := #[]
  staticTypes := #[.boolean]
  resolved := Array.replicate 395 none
  statics := none }

def pool20 : Array CpInfo := pool [(2, .class_ 4), (1, u "java/lang/Object"), (0, u "<init>"), (0, u "()V"), (17, .class_ 26), (1, u "jdk/internal/util/Preconditions"), (6, u "checkIndex"), (21, .class_ 56), (0, u "jdk/internal/util/Preconditions$4"), (57, .class_ 115), (0, u "jdk/internal/util/Preconditions$1"), (7, u "SIOOBE_FORMATTER"), (0, u "Ljava/util/function/BiFunction;"), (0, .class_ 126), (0, u "jdk/internal/util/Preconditions$2"), (3, u "AIOOBE_FORMATTER"), (0, .class_ 132), (0, u "jdk/internal/util/Preconditions$3"), (3, u "IOOBE_FORMATTER"), (41, u "(IILjava/util/function/BiFunction;)I")] 15

def k20m0 : Method := { name := "<init>", desc := "()V", sig := { parameters := [], returnType := none }, accessFlags := 1, code := none }
def k20c1 : Code := { maxStack := 3, maxLocals := 3, code := jdk_41_method_11_code, exceptionTable := #[], attributes := #[] }
def k20m1 : Method := { name := "checkIndex", desc := "(IILjava/util/function/BiFunction;)I", sig := { parameters := [.int, .int, (.object "java/util/function/BiFunction")], returnType := some .int }, accessFlags := 9, code := some k20c1 }
/-- jdk/internal/util/Preconditions -/
def k20 : Class := { plain "jdk/internal/util/Preconditions" (some 0) with
  accessFlags := 33
  interfaces := #[]
  cf := some (fileOf pool20 24 #[.nestMembers #[55, 131, 125, 114]] #[{ accessFlags := 1, nameIndex := 5, descriptorIndex := 6, attributes := #[] }, { accessFlags := 9, nameIndex := 33, descriptorIndex := 178, attributes := #[] }] 33 2 #[] #[{ accessFlags := 25, nameIndex := 123, descriptorIndex := 124, attributes := #[] }, { accessFlags := 25, nameIndex := 130, descriptorIndex := 124, attributes := #[] }, { accessFlags := 25, nameIndex := 136, descriptorIndex := 124, attributes := #[] }])
  fields := #[{ name := "SIOOBE_FORMATTER", type := (.object "java/util/function/BiFunction"), accessFlags := 25, slot := 0, constantValue := 0 }, { name := "AIOOBE_FORMATTER", type := (.object "java/util/function/BiFunction"), accessFlags := 25, slot := 1, constantValue := 0 }, { name := "IOOBE_FORMATTER", type := (.object "java/util/function/BiFunction"), accessFlags := 25, slot := 2, constantValue := 0 }]
  methods := #[k20m0, k20m1]
  instanceTypes := #[]
  staticTypes := #[(.object "java/util/function/BiFunction"), (.object "java/util/function/BiFunction"), (.object "java/util/function/BiFunction")]
  resolved := Array.replicate 194 none
  statics := some 2 }

def pool21 : Array CpInfo := pool [(9, u "<init>"), (6, .class_ 18), (1, u "java/lang/Object"), (0, u "()V"), (1, .class_ 23), (1, u "jdk/internal/util/ArraysSupport"), (0, u "LOG2_ARRAY_LONG_INDEX_SCALE"), (0, u "I"), (2, u "U"), (0, u "Ljdk/internal/misc/Unsafe;"), (8, u "BIG_ENDIAN"), (0, u "Z"), (8, u "LOG2_BYTE_BIT_SIZE"), (4, u "LOG2_ARRAY_INT_INDEX_SCALE"), (54, u "JLA"), (0, u "Ljdk/internal/access/JavaLangAccess;"), (11, u "LOG2_ARRAY_BOOLEAN_INDEX_SCALE"), (9, u "LOG2_ARRAY_BYTE_INDEX_SCALE"), (5, u "LOG2_ARRAY_CHAR_INDEX_SCALE"), (5, u "LOG2_ARRAY_SHORT_INDEX_SCALE"), (18, u "LOG2_ARRAY_FLOAT_INDEX_SCALE"), (24, u "LOG2_ARRAY_DOUBLE_INDEX_SCALE"), (89, u "T_BOOLEAN"), (2, u "T_CHAR"), (1, u "T_FLOAT"), (1, u "T_DOUBLE"), (1, u "T_BYTE"), (1, u "T_SHORT"), (1, u "T_INT"), (1, u "T_LONG"), (1, u "SOFT_MAX_ARRAY_LENGTH")] 83

def k21m0 : Method := { name := "<init>", desc := "()V", sig := { parameters := [], returnType := none }, accessFlags := 2, code := none }
/-- jdk/internal/util/ArraysSupport -/
def k21 : Class := { plain "jdk/internal/util/ArraysSupport" (some 0) with
  accessFlags := 33
  interfaces := #[]
  cf := some (fileOf pool21 21 #[] #[{ accessFlags := 2, nameIndex := 9, descriptorIndex := 19, attributes := #[] }] 33 16 #[] #[{ accessFlags := 24, nameIndex := 28, descriptorIndex := 29, attributes := #[] }, { accessFlags := 26, nameIndex := 38, descriptorIndex := 39, attributes := #[] }, { accessFlags := 25, nameIndex := 121, descriptorIndex := 25, attributes := #[] }, { accessFlags := 25, nameIndex := 131, descriptorIndex := 25, attributes := #[] }, { accessFlags := 25, nameIndex := 137, descriptorIndex := 25, attributes := #[] }, { accessFlags := 25, nameIndex := 143, descriptorIndex := 25, attributes := #[] }, { accessFlags := 25, nameIndex := 53, descriptorIndex := 25, attributes := #[] }, { accessFlags := 25, nameIndex := 24, descriptorIndex := 25, attributes := #[] }, { accessFlags := 25, nameIndex := 162, descriptorIndex := 25, attributes := #[] }, { accessFlags := 25, nameIndex := 187, descriptorIndex := 25, attributes := #[] }, { accessFlags := 26, nameIndex := 48, descriptorIndex := 25, attributes := #[] }, { accessFlags := 25, nameIndex := 277, descriptorIndex := 25, attributes := #[] }, { accessFlags := 25, nameIndex := 280, descriptorIndex := 25, attributes := #[] }, { accessFlags := 25, nameIndex := 282, descriptorIndex := 25, attributes := #[] }, { accessFlags := 25, nameIndex := 284, descriptorIndex := 25, attributes := #[] }, { accessFlags := 25, nameIndex := 286, descriptorIndex := 25, attributes := #[] }, { accessFlags := 25, nameIndex := 288, descriptorIndex := 25, attributes := #[] }, { accessFlags := 25, nameIndex := 290, descriptorIndex := 25, attributes := #[] }, { accessFlags := 25, nameIndex := 292, descriptorIndex := 25, attributes := #[] }, { accessFlags := 26, nameIndex := 108, descriptorIndex := 109, attributes := #[] }, { accessFlags := 25, nameIndex := 294, descriptorIndex := 25, attributes := #[] }])
  fields := #[{ name := "U", type := (.object "jdk/internal/misc/Unsafe"), accessFlags := 24, slot := 0, constantValue := 0 }, { name := "BIG_ENDIAN", type := .boolean, accessFlags := 26, slot := 1, constantValue := 0 }, { name := "LOG2_ARRAY_BOOLEAN_INDEX_SCALE", type := .int, accessFlags := 25, slot := 2, constantValue := 0 }, { name := "LOG2_ARRAY_BYTE_INDEX_SCALE", type := .int, accessFlags := 25, slot := 3, constantValue := 0 }, { name := "LOG2_ARRAY_CHAR_INDEX_SCALE", type := .int, accessFlags := 25, slot := 4, constantValue := 0 }, { name := "LOG2_ARRAY_SHORT_INDEX_SCALE", type := .int, accessFlags := 25, slot := 5, constantValue := 0 }, { name := "LOG2_ARRAY_INT_INDEX_SCALE", type := .int, accessFlags := 25, slot := 6, constantValue := 0 }, { name := "LOG2_ARRAY_LONG_INDEX_SCALE", type := .int, accessFlags := 25, slot := 7, constantValue := 0 }, { name := "LOG2_ARRAY_FLOAT_INDEX_SCALE", type := .int, accessFlags := 25, slot := 8, constantValue := 0 }, { name := "LOG2_ARRAY_DOUBLE_INDEX_SCALE", type := .int, accessFlags := 25, slot := 9, constantValue := 0 }, { name := "LOG2_BYTE_BIT_SIZE", type := .int, accessFlags := 26, slot := 10, constantValue := 0 }, { name := "T_BOOLEAN", type := .int, accessFlags := 25, slot := 11, constantValue := 0 }, { name := "T_CHAR", type := .int, accessFlags := 25, slot := 12, constantValue := 0 }, { name := "T_FLOAT", type := .int, accessFlags := 25, slot := 13, constantValue := 0 }, { name := "T_DOUBLE", type := .int, accessFlags := 25, slot := 14, constantValue := 0 }, { name := "T_BYTE", type := .int, accessFlags := 25, slot := 15, constantValue := 0 }, { name := "T_SHORT", type := .int, accessFlags := 25, slot := 16, constantValue := 0 }, { name := "T_INT", type := .int, accessFlags := 25, slot := 17, constantValue := 0 }, { name := "T_LONG", type := .int, accessFlags := 25, slot := 18, constantValue := 0 }, { name := "JLA", type := (.object "jdk/internal/access/JavaLangAccess"), accessFlags := 26, slot := 19, constantValue := 0 }, { name := "SOFT_MAX_ARRAY_LENGTH", type := .int, accessFlags := 25, slot := 20, constantValue := 0 }]
  methods := #[k21m0]
  instanceTypes := #[]
  staticTypes := #[(.object "jdk/internal/misc/Unsafe"), .boolean, .int, .int, .int, .int, .int, .int, .int, .int, .int, .int, .int, .int, .int, .int, .int, .int, .int, (.object "jdk/internal/access/JavaLangAccess"), .int]
  resolved := Array.replicate 378 none
  statics := none }

def pool22 : Array CpInfo := pool [(1, u "java/lang/Cloneable"), (0, .class_ 1), (0, u "java/lang/Object"), (0, .class_ 3)] 3

/-- java/lang/Cloneable -/
def k22 : Class := { plain "java/lang/Cloneable" (some 0) with
  accessFlags := 1537
  interfaces := #[]
  cf := some (fileOf pool22 2 #[] #[] 1537 4 #[] #[])
  fields := #[]
  methods := #[]
  instanceTypes := #[]
  staticTypes := #[]
  resolved := Array.replicate 8 none
  statics := none }

/-- the primitive byte -/
def k23 : Class := { plain "byte" none with kind := .primitive 'B', accessFlags := 0x411 }
/-- [B -/
def k24 : Class := { plain "[B" (some 0) with kind := .array 23 .byte, interfaces := #[22, 9], accessFlags := 1041 }

/-- the primitive int -/
def k25 : Class := { plain "int" none with kind := .primitive 'I', accessFlags := 0x411 }
/-- [I -/
def k26 : Class := { plain "[I" (some 0) with kind := .array 25 .int, interfaces := #[22, 9], accessFlags := 1041 }

/-- the primitive long -/
def k27 : Class := { plain "long" none with kind := .primitive 'J', accessFlags := 0x411 }
/-- [J -/
def k28 : Class := { plain "[J" (some 0) with kind := .array 27 .long, interfaces := #[22, 9], accessFlags := 1041 }

def heap : Heap := #[{ cls := 14, slots := #[.long 0, .int 1, .null, .int 0, .null, .int 0, .int 0], vm := .statics 14 },
  { cls := 17, slots := #[.int 0, .int 0, .null, .null, .ref 6, .ref 5, .int 0, .int 0, .long 0], vm := .statics 17 },
  { cls := 20, slots := #[.null, .null, .null], vm := .statics 20 },
  { cls := 14, slots := #[.ref 4, .int 0, .int 0, .int 0], vm := .none },
  { cls := 24, slots := #[.int 46], vm := .none },
  { cls := 24, slots := #[.int 48, .int 49, .int 50, .int 51, .int 52, .int 53, .int 54, .int 55, .int 56, .int 57, .int 48, .int 49, .int 50, .int 51, .int 52, .int 53, .int 54, .int 55, .int 56, .int 57, .int 48, .int 49, .int 50, .int 51, .int 52, .int 53, .int 54, .int 55, .int 56, .int 57, .int 48, .int 49, .int 50, .int 51, .int 52, .int 53, .int 54, .int 55, .int 56, .int 57, .int 48, .int 49, .int 50, .int 51, .int 52, .int 53, .int 54, .int 55, .int 56, .int 57, .int 48, .int 49, .int 50, .int 51, .int 52, .int 53, .int 54, .int 55, .int 56, .int 57, .int 48, .int 49, .int 50, .int 51, .int 52, .int 53, .int 54, .int 55, .int 56, .int 57, .int 48, .int 49, .int 50, .int 51, .int 52, .int 53, .int 54, .int 55, .int 56, .int 57, .int 48, .int 49, .int 50, .int 51, .int 52, .int 53, .int 54, .int 55, .int 56, .int 57, .int 48, .int 49, .int 50, .int 51, .int 52, .int 53, .int 54, .int 55, .int 56, .int 57], vm := .none },
  { cls := 24, slots := #[.int 48, .int 48, .int 48, .int 48, .int 48, .int 48, .int 48, .int 48, .int 48, .int 48, .int 49, .int 49, .int 49, .int 49, .int 49, .int 49, .int 49, .int 49, .int 49, .int 49, .int 50, .int 50, .int 50, .int 50, .int 50, .int 50, .int 50, .int 50, .int 50, .int 50, .int 51, .int 51, .int 51, .int 51, .int 51, .int 51, .int 51, .int 51, .int 51, .int 51, .int 52, .int 52, .int 52, .int 52, .int 52, .int 52, .int 52, .int 52, .int 52, .int 52, .int 53, .int 53, .int 53, .int 53, .int 53, .int 53, .int 53, .int 53, .int 53, .int 53, .int 54, .int 54, .int 54, .int 54, .int 54, .int 54, .int 54, .int 54, .int 54, .int 54, .int 55, .int 55, .int 55, .int 55, .int 55, .int 55, .int 55, .int 55, .int 55, .int 55, .int 56, .int 56, .int 56, .int 56, .int 56, .int 56, .int 56, .int 56, .int 56, .int 56, .int 57, .int 57, .int 57, .int 57, .int 57, .int 57, .int 57, .int 57, .int 57, .int 57], vm := .none }]
def classes : Array Class := #[k0, k1, k2, k3, k4, k5, k6, k7, k8, k9, k10, k11, k12, k13, k14, k15, k16, k17, k18, k19, k20, k21, k22, k23, k24, k25, k26, k27, k28]
def interned : List (Array UInt16 × Addr) := [(#[46], 3)]
def slotsUsed : Nat := 224
def theMethod : MethodId := ⟨1, 1⟩
def args0 : Array Value := #[.long 5, .long 3, .long 7, .int 3]
def aboutOver (below : List Frame) : State where
  vm := { classes := classes, interned := interned.toArray }
  heap := heap
  slotsUsed := slotsUsed
  threads := #[{ frames := .invoking theMethod args0 :: below }]
def below0 : List Frame := [.native { method := ⟨0, 0⟩, args := #[] }]
def about1 : State := aboutOver below0
def p0 : Program := .bare "" "" ""
def e0 : Env := launch0.env 0 0 0
theorem w_frames : about1.frames = Frame.invoking theMethod args0 :: below0 := rfl
set_option maxRecDepth 65536 in
theorem w_args : argsFit about1.vm theMethod args0 = true := by decide +kernel
set_option maxRecDepth 65536 in
theorem w_heap : heapFits about1 = true := by decide +kernel
set_option maxRecDepth 65536 in
theorem w_runnable : about1.curStatus? = some .runnable := by decide +kernel
set_option maxRecDepth 65536 in
theorem w_alone : about1.alone = true := by decide +kernel
set_option maxRecDepth 65536 in
theorem w_named : about1.methodNamed? x = some theMethod := by decide +kernel
set_option maxRecDepth 65536 in
theorem w_hears : about1.hears theMethod below0 = true := by decide +kernel
set_option maxRecDepth 65536 in
theorem w_ripe : about1.ripe theMethod args0 below0 = true := by decide +kernel
theorem w_running : about1.status = .running := rfl
set_option maxRecDepth 65536 in
theorem w_room : about1.hasRoom e0.platform room_1 = true :=
  launch0.hasRoom_least _ room_1 (by decide +kernel) (by decide +kernel) (by decide +kernel) (by decide +kernel) (by decide +kernel) (by decide +kernel)
theorem allAtoms_all (ts : List Jvm.Cond) (a : Array Jvm.Value) (st : Jvm.State) : (allAtoms ts).before a st = ts.all (fun c => c.before a st) := by
  induction ts with
  | nil => rfl
  | cons c t ih =>
    show (Jvm.Cond.and c (allAtoms t)).before a st = _
    rw [Jvm.Cond.before_and, ih, List.all_cons]
def words1 : List Jvm.Cond := Jvm.Cond.code x code maxLocals ret :: tables_1
/-- a 'code' word, met by the world's own term for the bytes: nothing is compared byte by byte -/
theorem code_word {y : MethodName} {bytes : ByteArray} {mx : Nat} {rt : Option FieldType} {a : Array Value} {s : State} {m : MethodId} {meth : Method} {c : Code} (h1 : s.methodNamed? y = some m) (h2 : s.vm.method? m = some meth) (h3 : meth.code = some c) (h4 : c.code = bytes)
    (h5 : (c.maxLocals == mx && c.exceptionTable.isEmpty && decide (c.maxStack ≤ mostOperands) && decide (meth.sig.returnType = rt) && !meth.locks && decide (parseMethodDescriptor y.desc = some meth.sig)) = true) : (Jvm.Cond.code y bytes mx rt).before a s = true := by
  simp only [Bool.and_eq_true, beq_iff_eq, Bool.not_eq_true', decide_eq_true_eq] at h5
  obtain ⟨⟨⟨⟨⟨g1, g2⟩, g3⟩, g4⟩, g5⟩, g6⟩ := h5
  simp [Cond.before, Cond.holds, Cond.value, h1, h2, h3, h4, g1, g2, g3, g4, g5, g6]
def isCode : Jvm.Cond → Bool
  | .code _ _ _ _ => true
  | _ => false
theorem all_split {L : List Jvm.Cond} {P : Jvm.Cond → Bool} (h1 : L.all (fun c => isCode c || P c) = true) (h2 : ∀ c ∈ L.filter isCode, P c = true) : L.all P = true := by
  refine List.all_eq_true.mpr fun c hc => ?_
  have h := List.all_eq_true.mp h1 c hc
  rcases Bool.eq_false_or_eq_true (isCode c) with hi | hi
  · exact h2 c (List.mem_filter.mpr ⟨hc, hi⟩)
  · simpa [hi] using h
set_option maxRecDepth 65536 in
theorem w_c0 : (Jvm.Cond.code x code maxLocals ret).before args0 about1 = true := code_word (m := ⟨1, 1⟩) (meth := k1m1) (c := k1c1) (by decide +kernel) rfl rfl rfl (by decide +kernel)
set_option maxRecDepth 65536 in
theorem w_c1 : (Jvm.Cond.code ({ cls := "com/example/measured_grab/measuredgrab/bench/Latencies", name := "<init>", desc := "(I)V" } : Jvm.MethodName) prog_4_method_1_code (2 : Nat) (Option.none : Option Jvm.ClassFile.FieldType)).before args0 about1 = true := code_word (m := ⟨2, 0⟩) (meth := k2m0) (c := k2c0) (by decide +kernel) rfl rfl rfl (by decide +kernel)
set_option maxRecDepth 65536 in
theorem w_c2 : (Jvm.Cond.code ({ cls := "java/lang/Object", name := "<init>", desc := "()V" } : Jvm.MethodName) object_method_1_code (1 : Nat) (Option.none : Option Jvm.ClassFile.FieldType)).before args0 about1 = true := code_word (m := ⟨0, 0⟩) (meth := k0m0) (c := k0c0) (by decide +kernel) rfl rfl rfl (by decide +kernel)
set_option maxRecDepth 65536 in
theorem w_c3 : (Jvm.Cond.code ({ cls := "com/example/measured_grab/measuredgrab/bench/Latencies", name := "add", desc := "(J)V" } : Jvm.MethodName) prog_4_method_2_code (3 : Nat) (Option.none : Option Jvm.ClassFile.FieldType)).before args0 about1 = true := code_word (m := ⟨2, 1⟩) (meth := k2m1) (c := k2c1) (by decide +kernel) rfl rfl rfl (by decide +kernel)
set_option maxRecDepth 65536 in
theorem w_c4 : (Jvm.Cond.code ({ cls := "com/example/measured_grab/measuredgrab/bench/Latencies", name := "percentile", desc := "(I)Ljava/lang/String;" } : Jvm.MethodName) prog_4_method_3_code (5 : Nat) (Option.some (Jvm.ClassFile.FieldType.object "java/lang/String"))).before args0 about1 = true := code_word (m := ⟨2, 2⟩) (meth := k2m2) (c := k2c2) (by decide +kernel) rfl rfl rfl (by decide +kernel)
set_option maxRecDepth 65536 in
theorem w_c5 : (Jvm.Cond.code ({ cls := "java/util/Arrays", name := "sort", desc := "([JII)V" } : Jvm.MethodName) jdk_65_method_5_code (3 : Nat) (Option.none : Option Jvm.ClassFile.FieldType)).before args0 about1 = true := code_word (m := ⟨3, 1⟩) (meth := k3m1) (c := k3c1) (by decide +kernel) rfl rfl rfl (by decide +kernel)
set_option maxRecDepth 65536 in
theorem w_c6 : (Jvm.Cond.code ({ cls := "java/util/Arrays", name := "rangeCheck", desc := "(III)V" } : Jvm.MethodName) jdk_65_method_30_code (3 : Nat) (Option.none : Option Jvm.ClassFile.FieldType)).before args0 about1 = true := code_word (m := ⟨3, 2⟩) (meth := k3m2) (c := k3c2) (by decide +kernel) rfl rfl rfl (by decide +kernel)
set_option maxRecDepth 65536 in
theorem w_c7 : (Jvm.Cond.code ({ cls := "java/util/DualPivotQuicksort", name := "sort", desc := "([JIII)V" } : Jvm.MethodName) jdk_2529_method_12_code (7 : Nat) (Option.none : Option Jvm.ClassFile.FieldType)).before args0 about1 = true := code_word (m := ⟨4, 1⟩) (meth := k4m1) (c := k4c1) (by decide +kernel) rfl rfl rfl (by decide +kernel)
set_option maxRecDepth 65536 in
theorem w_c8 : (Jvm.Cond.code ({ cls := "java/util/DualPivotQuicksort", name := "sort", desc := "(Ljava/util/DualPivotQuicksort$Sorter;[JIII)V" } : Jvm.MethodName) jdk_2529_method_13_code (25 : Nat) (Option.none : Option Jvm.ClassFile.FieldType)).before args0 about1 = true := code_word (m := ⟨4, 2⟩) (meth := k4m2) (c := k4c2) (by decide +kernel) rfl rfl rfl (by decide +kernel)
set_option maxRecDepth 65536 in
theorem w_c9 : (Jvm.Cond.code ({ cls := "java/util/DualPivotQuicksort", name := "insertionSort", desc := "([JII)V" } : Jvm.MethodName) jdk_2529_method_15_code (7 : Nat) (Option.none : Option Jvm.ClassFile.FieldType)).before args0 about1 = true := code_word (m := ⟨4, 3⟩) (meth := k4m3) (c := k4c3) (by decide +kernel) rfl rfl rfl (by decide +kernel)
set_option maxRecDepth 65536 in
theorem w_c10 : (Jvm.Cond.code ({ cls := "java/lang/Math", name := "max", desc := "(JJ)J" } : Jvm.MethodName) jdk_29_method_66_code (4 : Nat) (Option.some Jvm.ClassFile.FieldType.long)).before args0 about1 = true := code_word (m := ⟨5, 1⟩) (meth := k5m1) (c := k5c1) (by decide +kernel) rfl rfl rfl (by decide +kernel)
set_option maxRecDepth 65536 in
theorem w_c11 : (Jvm.Cond.code ({ cls := "java/lang/StringBuilder", name := "<init>", desc := "()V" } : Jvm.MethodName) jdk_67_method_1_code (1 : Nat) (Option.none : Option Jvm.ClassFile.FieldType)).before args0 about1 = true := code_word (m := ⟨11, 0⟩) (meth := k11m0) (c := k11c0) (by decide +kernel) rfl rfl rfl (by decide +kernel)
set_option maxRecDepth 65536 in
theorem w_c12 : (Jvm.Cond.code ({ cls := "java/lang/AbstractStringBuilder", name := "<init>", desc := "(I)V" } : Jvm.MethodName) jdk_68_method_2_code (2 : Nat) (Option.none : Option Jvm.ClassFile.FieldType)).before args0 about1 = true := code_word (m := ⟨8, 1⟩) (meth := k8m1) (c := k8c1) (by decide +kernel) rfl rfl rfl (by decide +kernel)
set_option maxRecDepth 65536 in
theorem w_c13 : (Jvm.Cond.code ({ cls := "java/lang/StringBuilder", name := "append", desc := "(J)Ljava/lang/StringBuilder;" } : Jvm.MethodName) jdk_67_method_16_code (3 : Nat) (Option.some (Jvm.ClassFile.FieldType.object "java/lang/StringBuilder"))).before args0 about1 = true := code_word (m := ⟨11, 2⟩) (meth := k11m2) (c := k11c2) (by decide +kernel) rfl rfl rfl (by decide +kernel)
set_option maxRecDepth 65536 in
theorem w_c14 : (Jvm.Cond.code ({ cls := "java/lang/AbstractStringBuilder", name := "append", desc := "(J)Ljava/lang/AbstractStringBuilder;" } : Jvm.MethodName) jdk_68_method_33_code (5 : Nat) (Option.some (Jvm.ClassFile.FieldType.object "java/lang/AbstractStringBuilder"))).before args0 about1 = true := code_word (m := ⟨8, 5⟩) (meth := k8m5) (c := k8c5) (by decide +kernel) rfl rfl rfl (by decide +kernel)
set_option maxRecDepth 65536 in
theorem w_c15 : (Jvm.Cond.code ({ cls := "java/lang/Long", name := "stringSize", desc := "(J)I" } : Jvm.MethodName) jdk_35_method_15_code (6 : Nat) (Option.some Jvm.ClassFile.FieldType.int)).before args0 about1 = true := code_word (m := ⟨16, 1⟩) (meth := k16m1) (c := k16c1) (by decide +kernel) rfl rfl rfl (by decide +kernel)
set_option maxRecDepth 65536 in
theorem w_c16 : (Jvm.Cond.code ({ cls := "java/lang/AbstractStringBuilder", name := "ensureCapacityInternal", desc := "(I)V" } : Jvm.MethodName) jdk_68_method_9_code (3 : Nat) (Option.none : Option Jvm.ClassFile.FieldType)).before args0 about1 = true := code_word (m := ⟨8, 3⟩) (meth := k8m3) (c := k8c3) (by decide +kernel) rfl rfl rfl (by decide +kernel)
set_option maxRecDepth 65536 in
theorem w_c17 : (Jvm.Cond.code ({ cls := "java/lang/AbstractStringBuilder", name := "isLatin1", desc := "()Z" } : Jvm.MethodName) jdk_68_method_68_code (1 : Nat) (Option.some Jvm.ClassFile.FieldType.boolean)).before args0 about1 = true := code_word (m := ⟨8, 7⟩) (meth := k8m7) (c := k8c7) (by decide +kernel) rfl rfl rfl (by decide +kernel)
set_option maxRecDepth 65536 in
theorem w_c18 : (Jvm.Cond.code ({ cls := "java/lang/Long", name := "getChars", desc := "(JI[B)I" } : Jvm.MethodName) jdk_35_method_14_code (11 : Nat) (Option.some Jvm.ClassFile.FieldType.int)).before args0 about1 = true := code_word (m := ⟨16, 0⟩) (meth := k16m0) (c := k16c0) (by decide +kernel) rfl rfl rfl (by decide +kernel)
set_option maxRecDepth 65536 in
theorem w_c19 : (Jvm.Cond.code ({ cls := "java/lang/StringBuilder", name := "append", desc := "(Ljava/lang/String;)Ljava/lang/StringBuilder;" } : Jvm.MethodName) jdk_67_method_7_code (2 : Nat) (Option.some (Jvm.ClassFile.FieldType.object "java/lang/StringBuilder"))).before args0 about1 = true := code_word (m := ⟨11, 1⟩) (meth := k11m1) (c := k11c1) (by decide +kernel) rfl rfl rfl (by decide +kernel)
set_option maxRecDepth 65536 in
theorem w_c20 : (Jvm.Cond.code ({ cls := "java/lang/AbstractStringBuilder", name := "append", desc := "(Ljava/lang/String;)Ljava/lang/AbstractStringBuilder;" } : Jvm.MethodName) jdk_68_method_22_code (3 : Nat) (Option.some (Jvm.ClassFile.FieldType.object "java/lang/AbstractStringBuilder"))).before args0 about1 = true := code_word (m := ⟨8, 4⟩) (meth := k8m4) (c := k8c4) (by decide +kernel) rfl rfl rfl (by decide +kernel)
set_option maxRecDepth 65536 in
theorem w_c21 : (Jvm.Cond.code ({ cls := "java/lang/String", name := "length", desc := "()I" } : Jvm.MethodName) jdk_42_method_54_code (1 : Nat) (Option.some Jvm.ClassFile.FieldType.int)).before args0 about1 = true := code_word (m := ⟨14, 2⟩) (meth := k14m2) (c := k14c2) (by decide +kernel) rfl rfl rfl (by decide +kernel)
set_option maxRecDepth 65536 in
theorem w_c22 : (Jvm.Cond.code ({ cls := "java/lang/String", name := "coder", desc := "()B" } : Jvm.MethodName) jdk_42_method_152_code (1 : Nat) (Option.some Jvm.ClassFile.FieldType.byte)).before args0 about1 = true := code_word (m := ⟨14, 7⟩) (meth := k14m7) (c := k14c7) (by decide +kernel) rfl rfl rfl (by decide +kernel)
set_option maxRecDepth 65536 in
theorem w_c23 : (Jvm.Cond.code ({ cls := "java/lang/AbstractStringBuilder", name := "putStringAt", desc := "(ILjava/lang/String;)V" } : Jvm.MethodName) jdk_68_method_73_code (3 : Nat) (Option.none : Option Jvm.ClassFile.FieldType)).before args0 about1 = true := code_word (m := ⟨8, 9⟩) (meth := k8m9) (c := k8c9) (by decide +kernel) rfl rfl rfl (by decide +kernel)
set_option maxRecDepth 65536 in
theorem w_c24 : (Jvm.Cond.code ({ cls := "java/lang/AbstractStringBuilder", name := "inflateIfNeededFor", desc := "(Ljava/lang/String;)V" } : Jvm.MethodName) jdk_68_method_71_code (2 : Nat) (Option.none : Option Jvm.ClassFile.FieldType)).before args0 about1 = true := code_word (m := ⟨8, 8⟩) (meth := k8m8) (c := k8c8) (by decide +kernel) rfl rfl rfl (by decide +kernel)
set_option maxRecDepth 65536 in
theorem w_c25 : (Jvm.Cond.code ({ cls := "java/lang/String", name := "getBytes", desc := "([BIB)V" } : Jvm.MethodName) jdk_42_method_147_code (4 : Nat) (Option.none : Option Jvm.ClassFile.FieldType)).before args0 about1 = true := code_word (m := ⟨14, 5⟩) (meth := k14m5) (c := k14c5) (by decide +kernel) rfl rfl rfl (by decide +kernel)
set_option maxRecDepth 65536 in
theorem w_c26 : (Jvm.Cond.code ({ cls := "java/lang/StringBuilder", name := "toString", desc := "()Ljava/lang/String;" } : Jvm.MethodName) jdk_67_method_42_code (1 : Nat) (Option.some (Jvm.ClassFile.FieldType.object "java/lang/String"))).before args0 about1 = true := code_word (m := ⟨11, 3⟩) (meth := k11m3) (c := k11c3) (by decide +kernel) rfl rfl rfl (by decide +kernel)
set_option maxRecDepth 65536 in
theorem w_c27 : (Jvm.Cond.code ({ cls := "java/lang/String", name := "<init>", desc := "(Ljava/lang/StringBuilder;)V" } : Jvm.MethodName) jdk_42_method_53_code (2 : Nat) (Option.none : Option Jvm.ClassFile.FieldType)).before args0 about1 = true := code_word (m := ⟨14, 1⟩) (meth := k14m1) (c := k14c1) (by decide +kernel) rfl rfl rfl (by decide +kernel)
set_option maxRecDepth 65536 in
theorem w_c28 : (Jvm.Cond.code ({ cls := "java/lang/String", name := "<init>", desc := "(Ljava/lang/AbstractStringBuilder;Ljava/lang/Void;)V" } : Jvm.MethodName) jdk_42_method_150_code (5 : Nat) (Option.none : Option Jvm.ClassFile.FieldType)).before args0 about1 = true := code_word (m := ⟨14, 6⟩) (meth := k14m6) (c := k14c6) (by decide +kernel) rfl rfl rfl (by decide +kernel)
set_option maxRecDepth 65536 in
theorem w_c29 : (Jvm.Cond.code ({ cls := "java/lang/AbstractStringBuilder", name := "getValue", desc := "()[B" } : Jvm.MethodName) jdk_68_method_64_code (1 : Nat) (Option.some (Jvm.ClassFile.FieldType.array Jvm.ClassFile.FieldType.byte))).before args0 about1 = true := code_word (m := ⟨8, 6⟩) (meth := k8m6) (c := k8c6) (by decide +kernel) rfl rfl rfl (by decide +kernel)
set_option maxRecDepth 65536 in
theorem w_c30 : (Jvm.Cond.code ({ cls := "java/lang/StringBuilder", name := "length", desc := "()I" } : Jvm.MethodName) jdk_67_method_93_code (1 : Nat) (Option.some Jvm.ClassFile.FieldType.int)).before args0 about1 = true := code_word (m := ⟨11, 4⟩) (meth := k11m4) (c := k11c4) (by decide +kernel) rfl rfl rfl (by decide +kernel)
set_option maxRecDepth 65536 in
theorem w_c31 : (Jvm.Cond.code ({ cls := "java/lang/AbstractStringBuilder", name := "length", desc := "()I" } : Jvm.MethodName) jdk_68_method_6_code (1 : Nat) (Option.some Jvm.ClassFile.FieldType.int)).before args0 about1 = true := code_word (m := ⟨8, 2⟩) (meth := k8m2) (c := k8c2) (by decide +kernel) rfl rfl rfl (by decide +kernel)
set_option maxRecDepth 65536 in
theorem w_c32 : (Jvm.Cond.code ({ cls := "java/util/Arrays", name := "copyOfRange", desc := "([BII)[B" } : Jvm.MethodName) jdk_65_method_132_code (3 : Nat) (Option.some (Jvm.ClassFile.FieldType.array Jvm.ClassFile.FieldType.byte))).before args0 about1 = true := code_word (m := ⟨3, 4⟩) (meth := k3m4) (c := k3c4) (by decide +kernel) rfl rfl rfl (by decide +kernel)
set_option maxRecDepth 65536 in
theorem w_c33 : (Jvm.Cond.code ({ cls := "java/util/Arrays", name := "copyOfRangeByte", desc := "([BII)[B" } : Jvm.MethodName) jdk_65_method_133_code (5 : Nat) (Option.some (Jvm.ClassFile.FieldType.array Jvm.ClassFile.FieldType.byte))).before args0 about1 = true := code_word (m := ⟨3, 5⟩) (meth := k3m5) (c := k3c5) (by decide +kernel) rfl rfl rfl (by decide +kernel)
set_option maxRecDepth 65536 in
theorem w_c34 : (Jvm.Cond.code ({ cls := "java/util/Arrays", name := "checkLength", desc := "(II)V" } : Jvm.MethodName) jdk_65_method_131_code (2 : Nat) (Option.none : Option Jvm.ClassFile.FieldType)).before args0 about1 = true := code_word (m := ⟨3, 3⟩) (meth := k3m3) (c := k3c3) (by decide +kernel) rfl rfl rfl (by decide +kernel)
set_option maxRecDepth 65536 in
theorem w_c35 : (Jvm.Cond.code ({ cls := "java/lang/Math", name := "min", desc := "(II)I" } : Jvm.MethodName) jdk_29_method_69_code (2 : Nat) (Option.some Jvm.ClassFile.FieldType.int)).before args0 about1 = true := code_word (m := ⟨5, 2⟩) (meth := k5m2) (c := k5c2) (by decide +kernel) rfl rfl rfl (by decide +kernel)
set_option maxRecDepth 65536 in
theorem w_c36 : (Jvm.Cond.code ({ cls := "java/lang/Math", name := "min", desc := "(JJ)J" } : Jvm.MethodName) jdk_29_method_70_code (4 : Nat) (Option.some Jvm.ClassFile.FieldType.long)).before args0 about1 = true := code_word (m := ⟨5, 3⟩) (meth := k5m3) (c := k5c3) (by decide +kernel) rfl rfl rfl (by decide +kernel)
set_option maxRecDepth 65536 in
theorem w_c37 : (Jvm.Cond.code ({ cls := "com/example/measured_grab/measuredgrab/bench/LatenciesAddPinLaw", name := "matches", desc := "(Ljava/lang/String;J)Z" } : Jvm.MethodName) method_3_code (6 : Nat) (Option.some Jvm.ClassFile.FieldType.boolean)).before args0 about1 = true := code_word (m := ⟨1, 2⟩) (meth := k1m2) (c := k1c2) (by decide +kernel) rfl rfl rfl (by decide +kernel)
set_option maxRecDepth 65536 in
theorem w_c38 : (Jvm.Cond.code ({ cls := "java/lang/String", name := "charAt", desc := "(I)C" } : Jvm.MethodName) jdk_42_method_56_code (2 : Nat) (Option.some Jvm.ClassFile.FieldType.char)).before args0 about1 = true := code_word (m := ⟨14, 3⟩) (meth := k14m3) (c := k14c3) (by decide +kernel) rfl rfl rfl (by decide +kernel)
set_option maxRecDepth 65536 in
theorem w_c39 : (Jvm.Cond.code ({ cls := "java/lang/String", name := "isLatin1", desc := "()Z" } : Jvm.MethodName) jdk_42_method_154_code (1 : Nat) (Option.some Jvm.ClassFile.FieldType.boolean)).before args0 about1 = true := code_word (m := ⟨14, 8⟩) (meth := k14m8) (c := k14c8) (by decide +kernel) rfl rfl rfl (by decide +kernel)
set_option maxRecDepth 65536 in
theorem w_c40 : (Jvm.Cond.code ({ cls := "java/lang/StringLatin1", name := "charAt", desc := "([BI)C" } : Jvm.MethodName) jdk_43_method_2_code (2 : Nat) (Option.some Jvm.ClassFile.FieldType.char)).before args0 about1 = true := code_word (m := ⟨19, 1⟩) (meth := k19m1) (c := k19c1) (by decide +kernel) rfl rfl rfl (by decide +kernel)
set_option maxRecDepth 65536 in
theorem w_c41 : (Jvm.Cond.code ({ cls := "java/lang/String", name := "checkIndex", desc := "(II)V" } : Jvm.MethodName) jdk_42_method_155_code (2 : Nat) (Option.none : Option Jvm.ClassFile.FieldType)).before args0 about1 = true := code_word (m := ⟨14, 9⟩) (meth := k14m9) (c := k14c9) (by decide +kernel) rfl rfl rfl (by decide +kernel)
set_option maxRecDepth 65536 in
theorem w_c42 : (Jvm.Cond.code ({ cls := "jdk/internal/util/Preconditions", name := "checkIndex", desc := "(IILjava/util/function/BiFunction;)I" } : Jvm.MethodName) jdk_41_method_11_code (3 : Nat) (Option.some Jvm.ClassFile.FieldType.int)).before args0 about1 = true := code_word (m := ⟨20, 1⟩) (meth := k20m1) (c := k20c1) (by decide +kernel) rfl rfl rfl (by decide +kernel)
set_option maxRecDepth 65536 in
theorem w_c43 : (Jvm.Cond.code ({ cls := "java/lang/String", name := "equals", desc := "(Ljava/lang/Object;)Z" } : Jvm.MethodName) jdk_42_method_66_code (3 : Nat) (Option.some Jvm.ClassFile.FieldType.boolean)).before args0 about1 = true := code_word (m := ⟨14, 4⟩) (meth := k14m4) (c := k14c4) (by decide +kernel) rfl rfl rfl (by decide +kernel)
set_option maxRecDepth 65536 in
theorem w_c44 : (Jvm.Cond.code ({ cls := "java/lang/StringLatin1", name := "equals", desc := "([B[B)Z" } : Jvm.MethodName) jdk_43_method_13_code (3 : Nat) (Option.some Jvm.ClassFile.FieldType.boolean)).before args0 about1 = true := code_word (m := ⟨19, 2⟩) (meth := k19m2) (c := k19c2) (by decide +kernel) rfl rfl rfl (by decide +kernel)
def codes1 : List Jvm.Cond := [Jvm.Cond.code x code maxLocals ret, Jvm.Cond.code ({ cls := "com/example/measured_grab/measuredgrab/bench/Latencies", name := "<init>", desc := "(I)V" } : Jvm.MethodName) prog_4_method_1_code (2 : Nat) (Option.none : Option Jvm.ClassFile.FieldType), Jvm.Cond.code ({ cls := "java/lang/Object", name := "<init>", desc := "()V" } : Jvm.MethodName) object_method_1_code (1 : Nat) (Option.none : Option Jvm.ClassFile.FieldType), Jvm.Cond.code ({ cls := "com/example/measured_grab/measuredgrab/bench/Latencies", name := "add", desc := "(J)V" } : Jvm.MethodName) prog_4_method_2_code (3 : Nat) (Option.none : Option Jvm.ClassFile.FieldType), Jvm.Cond.code ({ cls := "com/example/measured_grab/measuredgrab/bench/Latencies", name := "percentile", desc := "(I)Ljava/lang/String;" } : Jvm.MethodName) prog_4_method_3_code (5 : Nat) (Option.some (Jvm.ClassFile.FieldType.object "java/lang/String")), Jvm.Cond.code ({ cls := "java/util/Arrays", name := "sort", desc := "([JII)V" } : Jvm.MethodName) jdk_65_method_5_code (3 : Nat) (Option.none : Option Jvm.ClassFile.FieldType), Jvm.Cond.code ({ cls := "java/util/Arrays", name := "rangeCheck", desc := "(III)V" } : Jvm.MethodName) jdk_65_method_30_code (3 : Nat) (Option.none : Option Jvm.ClassFile.FieldType), Jvm.Cond.code ({ cls := "java/util/DualPivotQuicksort", name := "sort", desc := "([JIII)V" } : Jvm.MethodName) jdk_2529_method_12_code (7 : Nat) (Option.none : Option Jvm.ClassFile.FieldType), Jvm.Cond.code ({ cls := "java/util/DualPivotQuicksort", name := "sort", desc := "(Ljava/util/DualPivotQuicksort$Sorter;[JIII)V" } : Jvm.MethodName) jdk_2529_method_13_code (25 : Nat) (Option.none : Option Jvm.ClassFile.FieldType), Jvm.Cond.code ({ cls := "java/util/DualPivotQuicksort", name := "insertionSort", desc := "([JII)V" } : Jvm.MethodName) jdk_2529_method_15_code (7 : Nat) (Option.none : Option Jvm.ClassFile.FieldType), Jvm.Cond.code ({ cls := "java/lang/Math", name := "max", desc := "(JJ)J" } : Jvm.MethodName) jdk_29_method_66_code (4 : Nat) (Option.some Jvm.ClassFile.FieldType.long), Jvm.Cond.code ({ cls := "java/lang/StringBuilder", name := "<init>", desc := "()V" } : Jvm.MethodName) jdk_67_method_1_code (1 : Nat) (Option.none : Option Jvm.ClassFile.FieldType), Jvm.Cond.code ({ cls := "java/lang/AbstractStringBuilder", name := "<init>", desc := "(I)V" } : Jvm.MethodName) jdk_68_method_2_code (2 : Nat) (Option.none : Option Jvm.ClassFile.FieldType), Jvm.Cond.code ({ cls := "java/lang/StringBuilder", name := "append", desc := "(J)Ljava/lang/StringBuilder;" } : Jvm.MethodName) jdk_67_method_16_code (3 : Nat) (Option.some (Jvm.ClassFile.FieldType.object "java/lang/StringBuilder")), Jvm.Cond.code ({ cls := "java/lang/AbstractStringBuilder", name := "append", desc := "(J)Ljava/lang/AbstractStringBuilder;" } : Jvm.MethodName) jdk_68_method_33_code (5 : Nat) (Option.some (Jvm.ClassFile.FieldType.object "java/lang/AbstractStringBuilder")), Jvm.Cond.code ({ cls := "java/lang/Long", name := "stringSize", desc := "(J)I" } : Jvm.MethodName) jdk_35_method_15_code (6 : Nat) (Option.some Jvm.ClassFile.FieldType.int), Jvm.Cond.code ({ cls := "java/lang/AbstractStringBuilder", name := "ensureCapacityInternal", desc := "(I)V" } : Jvm.MethodName) jdk_68_method_9_code (3 : Nat) (Option.none : Option Jvm.ClassFile.FieldType), Jvm.Cond.code ({ cls := "java/lang/AbstractStringBuilder", name := "isLatin1", desc := "()Z" } : Jvm.MethodName) jdk_68_method_68_code (1 : Nat) (Option.some Jvm.ClassFile.FieldType.boolean), Jvm.Cond.code ({ cls := "java/lang/Long", name := "getChars", desc := "(JI[B)I" } : Jvm.MethodName) jdk_35_method_14_code (11 : Nat) (Option.some Jvm.ClassFile.FieldType.int), Jvm.Cond.code ({ cls := "java/lang/StringBuilder", name := "append", desc := "(Ljava/lang/String;)Ljava/lang/StringBuilder;" } : Jvm.MethodName) jdk_67_method_7_code (2 : Nat) (Option.some (Jvm.ClassFile.FieldType.object "java/lang/StringBuilder")), Jvm.Cond.code ({ cls := "java/lang/AbstractStringBuilder", name := "append", desc := "(Ljava/lang/String;)Ljava/lang/AbstractStringBuilder;" } : Jvm.MethodName) jdk_68_method_22_code (3 : Nat) (Option.some (Jvm.ClassFile.FieldType.object "java/lang/AbstractStringBuilder")), Jvm.Cond.code ({ cls := "java/lang/String", name := "length", desc := "()I" } : Jvm.MethodName) jdk_42_method_54_code (1 : Nat) (Option.some Jvm.ClassFile.FieldType.int), Jvm.Cond.code ({ cls := "java/lang/String", name := "coder", desc := "()B" } : Jvm.MethodName) jdk_42_method_152_code (1 : Nat) (Option.some Jvm.ClassFile.FieldType.byte), Jvm.Cond.code ({ cls := "java/lang/AbstractStringBuilder", name := "putStringAt", desc := "(ILjava/lang/String;)V" } : Jvm.MethodName) jdk_68_method_73_code (3 : Nat) (Option.none : Option Jvm.ClassFile.FieldType), Jvm.Cond.code ({ cls := "java/lang/AbstractStringBuilder", name := "inflateIfNeededFor", desc := "(Ljava/lang/String;)V" } : Jvm.MethodName) jdk_68_method_71_code (2 : Nat) (Option.none : Option Jvm.ClassFile.FieldType), Jvm.Cond.code ({ cls := "java/lang/String", name := "getBytes", desc := "([BIB)V" } : Jvm.MethodName) jdk_42_method_147_code (4 : Nat) (Option.none : Option Jvm.ClassFile.FieldType), Jvm.Cond.code ({ cls := "java/lang/StringBuilder", name := "toString", desc := "()Ljava/lang/String;" } : Jvm.MethodName) jdk_67_method_42_code (1 : Nat) (Option.some (Jvm.ClassFile.FieldType.object "java/lang/String")), Jvm.Cond.code ({ cls := "java/lang/String", name := "<init>", desc := "(Ljava/lang/StringBuilder;)V" } : Jvm.MethodName) jdk_42_method_53_code (2 : Nat) (Option.none : Option Jvm.ClassFile.FieldType), Jvm.Cond.code ({ cls := "java/lang/String", name := "<init>", desc := "(Ljava/lang/AbstractStringBuilder;Ljava/lang/Void;)V" } : Jvm.MethodName) jdk_42_method_150_code (5 : Nat) (Option.none : Option Jvm.ClassFile.FieldType), Jvm.Cond.code ({ cls := "java/lang/AbstractStringBuilder", name := "getValue", desc := "()[B" } : Jvm.MethodName) jdk_68_method_64_code (1 : Nat) (Option.some (Jvm.ClassFile.FieldType.array Jvm.ClassFile.FieldType.byte)), Jvm.Cond.code ({ cls := "java/lang/StringBuilder", name := "length", desc := "()I" } : Jvm.MethodName) jdk_67_method_93_code (1 : Nat) (Option.some Jvm.ClassFile.FieldType.int), Jvm.Cond.code ({ cls := "java/lang/AbstractStringBuilder", name := "length", desc := "()I" } : Jvm.MethodName) jdk_68_method_6_code (1 : Nat) (Option.some Jvm.ClassFile.FieldType.int), Jvm.Cond.code ({ cls := "java/util/Arrays", name := "copyOfRange", desc := "([BII)[B" } : Jvm.MethodName) jdk_65_method_132_code (3 : Nat) (Option.some (Jvm.ClassFile.FieldType.array Jvm.ClassFile.FieldType.byte)), Jvm.Cond.code ({ cls := "java/util/Arrays", name := "copyOfRangeByte", desc := "([BII)[B" } : Jvm.MethodName) jdk_65_method_133_code (5 : Nat) (Option.some (Jvm.ClassFile.FieldType.array Jvm.ClassFile.FieldType.byte)), Jvm.Cond.code ({ cls := "java/util/Arrays", name := "checkLength", desc := "(II)V" } : Jvm.MethodName) jdk_65_method_131_code (2 : Nat) (Option.none : Option Jvm.ClassFile.FieldType), Jvm.Cond.code ({ cls := "java/lang/Math", name := "min", desc := "(II)I" } : Jvm.MethodName) jdk_29_method_69_code (2 : Nat) (Option.some Jvm.ClassFile.FieldType.int), Jvm.Cond.code ({ cls := "java/lang/Math", name := "min", desc := "(JJ)J" } : Jvm.MethodName) jdk_29_method_70_code (4 : Nat) (Option.some Jvm.ClassFile.FieldType.long), Jvm.Cond.code ({ cls := "com/example/measured_grab/measuredgrab/bench/LatenciesAddPinLaw", name := "matches", desc := "(Ljava/lang/String;J)Z" } : Jvm.MethodName) method_3_code (6 : Nat) (Option.some Jvm.ClassFile.FieldType.boolean), Jvm.Cond.code ({ cls := "java/lang/String", name := "charAt", desc := "(I)C" } : Jvm.MethodName) jdk_42_method_56_code (2 : Nat) (Option.some Jvm.ClassFile.FieldType.char), Jvm.Cond.code ({ cls := "java/lang/String", name := "isLatin1", desc := "()Z" } : Jvm.MethodName) jdk_42_method_154_code (1 : Nat) (Option.some Jvm.ClassFile.FieldType.boolean), Jvm.Cond.code ({ cls := "java/lang/StringLatin1", name := "charAt", desc := "([BI)C" } : Jvm.MethodName) jdk_43_method_2_code (2 : Nat) (Option.some Jvm.ClassFile.FieldType.char), Jvm.Cond.code ({ cls := "java/lang/String", name := "checkIndex", desc := "(II)V" } : Jvm.MethodName) jdk_42_method_155_code (2 : Nat) (Option.none : Option Jvm.ClassFile.FieldType), Jvm.Cond.code ({ cls := "jdk/internal/util/Preconditions", name := "checkIndex", desc := "(IILjava/util/function/BiFunction;)I" } : Jvm.MethodName) jdk_41_method_11_code (3 : Nat) (Option.some Jvm.ClassFile.FieldType.int), Jvm.Cond.code ({ cls := "java/lang/String", name := "equals", desc := "(Ljava/lang/Object;)Z" } : Jvm.MethodName) jdk_42_method_66_code (3 : Nat) (Option.some Jvm.ClassFile.FieldType.boolean), Jvm.Cond.code ({ cls := "java/lang/StringLatin1", name := "equals", desc := "([B[B)Z" } : Jvm.MethodName) jdk_43_method_13_code (3 : Nat) (Option.some Jvm.ClassFile.FieldType.boolean)]
set_option maxRecDepth 65536 in
theorem codes_eq : words1.filter isCode = codes1 := rfl
theorem w_codes : ∀ c ∈ words1.filter isCode, c.before args0 about1 = true := by
  rw [codes_eq]
  intro c hc
  simp only [codes1, List.mem_cons, List.not_mem_nil, or_false] at hc
  rcases hc with rfl | rfl | rfl | rfl | rfl | rfl | rfl | rfl | rfl | rfl | rfl | rfl | rfl | rfl | rfl | rfl | rfl | rfl | rfl | rfl | rfl | rfl | rfl | rfl | rfl | rfl | rfl | rfl | rfl | rfl | rfl | rfl | rfl | rfl | rfl | rfl | rfl | rfl | rfl | rfl | rfl | rfl | rfl | rfl | rfl
  · exact w_c0
  · exact w_c1
  · exact w_c2
  · exact w_c3
  · exact w_c4
  · exact w_c5
  · exact w_c6
  · exact w_c7
  · exact w_c8
  · exact w_c9
  · exact w_c10
  · exact w_c11
  · exact w_c12
  · exact w_c13
  · exact w_c14
  · exact w_c15
  · exact w_c16
  · exact w_c17
  · exact w_c18
  · exact w_c19
  · exact w_c20
  · exact w_c21
  · exact w_c22
  · exact w_c23
  · exact w_c24
  · exact w_c25
  · exact w_c26
  · exact w_c27
  · exact w_c28
  · exact w_c29
  · exact w_c30
  · exact w_c31
  · exact w_c32
  · exact w_c33
  · exact w_c34
  · exact w_c35
  · exact w_c36
  · exact w_c37
  · exact w_c38
  · exact w_c39
  · exact w_c40
  · exact w_c41
  · exact w_c42
  · exact w_c43
  · exact w_c44
set_option maxRecDepth 65536 in
theorem w_t1 : (words1.take 24).all (fun c => isCode c || c.before args0 about1) = true := by decide +kernel
set_option maxRecDepth 65536 in
theorem w_t2 : ((words1.drop 24).take 24).all (fun c => isCode c || c.before args0 about1) = true := by decide +kernel
set_option maxRecDepth 65536 in
theorem w_t3 : (((words1.drop 24).drop 24).take 24).all (fun c => isCode c || c.before args0 about1) = true := by decide +kernel
set_option maxRecDepth 65536 in
theorem w_t4 : ((((words1.drop 24).drop 24).drop 24).take 24).all (fun c => isCode c || c.before args0 about1) = true := by decide +kernel
set_option maxRecDepth 65536 in
theorem w_t5 : (((((words1.drop 24).drop 24).drop 24).drop 24).take 24).all (fun c => isCode c || c.before args0 about1) = true := by decide +kernel
set_option maxRecDepth 65536 in
theorem w_t6 : ((((((words1.drop 24).drop 24).drop 24).drop 24).drop 24).take 24).all (fun c => isCode c || c.before args0 about1) = true := by decide +kernel
set_option maxRecDepth 65536 in
theorem w_t7 : (((((((words1.drop 24).drop 24).drop 24).drop 24).drop 24).drop 24).take 24).all (fun c => isCode c || c.before args0 about1) = true := by decide +kernel
set_option maxRecDepth 65536 in
theorem w_t8 : ((((((((words1.drop 24).drop 24).drop 24).drop 24).drop 24).drop 24).drop 24).take 24).all (fun c => isCode c || c.before args0 about1) = true := by decide +kernel
set_option maxRecDepth 65536 in
theorem w_t9 : (((((((((words1.drop 24).drop 24).drop 24).drop 24).drop 24).drop 24).drop 24).drop 24).take 24).all (fun c => isCode c || c.before args0 about1) = true := by decide +kernel
set_option maxRecDepth 65536 in
theorem w_t10 : ((((((((((words1.drop 24).drop 24).drop 24).drop 24).drop 24).drop 24).drop 24).drop 24).drop 24).take 24).all (fun c => isCode c || c.before args0 about1) = true := by decide +kernel
set_option maxRecDepth 65536 in
theorem w_t11 : ((((((((((words1.drop 24).drop 24).drop 24).drop 24).drop 24).drop 24).drop 24).drop 24).drop 24).drop 24).all (fun c => isCode c || c.before args0 about1) = true := by decide +kernel
theorem w_tables : (allAtoms (Jvm.Cond.code x code maxLocals ret :: tables_1)).before args0 about1 = true := by
  rw [allAtoms_all]
  show words1.all (fun c => c.before args0 about1) = true
  refine all_split ?_ w_codes
  rw [← List.take_append_drop 24 words1, List.all_append, w_t1, ← List.take_append_drop 24 (words1.drop 24), List.all_append, w_t2, ← List.take_append_drop 24 ((words1.drop 24).drop 24), List.all_append, w_t3, ← List.take_append_drop 24 (((words1.drop 24).drop 24).drop 24), List.all_append, w_t4, ← List.take_append_drop 24 ((((words1.drop 24).drop 24).drop 24).drop 24), List.all_append, w_t5, ← List.take_append_drop 24 (((((words1.drop 24).drop 24).drop 24).drop 24).drop 24), List.all_append, w_t6, ← List.take_append_drop 24 ((((((words1.drop 24).drop 24).drop 24).drop 24).drop 24).drop 24), List.all_append, w_t7, ← List.take_append_drop 24 (((((((words1.drop 24).drop 24).drop 24).drop 24).drop 24).drop 24).drop 24), List.all_append, w_t8, ← List.take_append_drop 24 ((((((((words1.drop 24).drop 24).drop 24).drop 24).drop 24).drop 24).drop 24).drop 24), List.all_append, w_t9, ← List.take_append_drop 24 (((((((((words1.drop 24).drop 24).drop 24).drop 24).drop 24).drop 24).drop 24).drop 24).drop 24), List.all_append, w_t10, w_t11]
  rfl
set_option maxRecDepth 65536 in
theorem w_rest : rest_1_c.before args0 about1 = true := by decide +kernel
set_option maxRecDepth 65536 in
theorem w_case : (Jvm.Cond.and given_1 narrow_1).before args0 about1 = true := by decide +kernel
set_option maxRecDepth 65536 in
theorem w_consts : constsHeld consts_1 about1 := Jvm.Lit.constsHeldB_iff.mp (by decide +kernel)
theorem w_applies : (headSpec (Jvm.Cond.code x code maxLocals ret :: tables_1) room_1).applies x e0.platform about1 = true :=
  (Spec.applies_iff w_frames).mpr ⟨w_running, w_runnable, w_alone, w_named, w_hears, w_ripe, w_room, w_tables⟩
theorem atStart : AtStart classFile x code maxLocals ret World_1 tables_1 room_1 Calls_1 rest_1 Pre_1 launch0 p0 e0 about1 theMethod args0 below0 :=
  ⟨lists_1, trivial, launch0.admits_env _ _ _, launch0.least_env, fairChoices_fair.cas, fairChoices_fair.clock, w_frames, w_args, w_heap, w_applies, ⟨w_consts, trivial⟩, w_rest, w_case⟩
end start1
theorem witness_1 : WitnessClaimed_1 := ⟨start1.p0, start1.e0, start1.about1, start1.theMethod, start1.args0, start1.below0, start1.atStart⟩
end Jvm.Pilot.@@N@@

import JvmDerived
import JvmDerived.Pilot.@@N@@Statement
import JvmDerived.Pilot.@@N@@Code
set_option linter.unusedVariables false
set_option linter.unusedSimpArgs false
namespace Jvm.Pilot.@@N@@
open Jvm Jvm.ClassFile Sem Op Lib Jvm.Free Jvm.Stand Jvm.LawKit Jvm.RoadKit Bundle Jvm.Pilot.@@N@@.Jvm.D
/-! own frame: 'Go': from here the run ends as Q says -/
def Go (p : Program) (e : Env) (below : List Frame) (s : State) (nc ns : Nat) (Q : Option Value → Heap → List Loc → Prop) (u : State) : Prop :=
  ∃ s₂ o, Steps p.tables e below u s₂ ∧ s₂.status = .running ∧ Ended s₂ below o ∧ ∃ v L, o = .returned v ∧ Q v s₂.heap L ∧ FrameEnd s o s₂ L nc ns
/-- what a body's walk stands on -/
def Bdy (p : Program) (s : State) (m : MethodId) (meth : Method) (c : Code) (Z : State) (a0 : Array Value) (own nm : String) (bytes : ByteArray) (maxL : Nat) (rt : Option FieldType) (tabs : List Jvm.Cond) : Prop :=
  p.tables.exec = Jvm.exec ∧ Z.Warmed39 s.vm ∧ (∀ d ∈ tabs, d.before a0 Z = true) ∧ c.code = bytes ∧ c.maxLocals = maxL ∧ s.vm.findClass own = some m.cls ∧ meth.sig.returnType = rt ∧ meth.locks = false ∧ meth.name = nm
def PQ (w : Option Value) (h : Heap) (locs : List Loc) : Option Value → Heap → List Loc → Prop := fun v h' L => v = w ∧ h' = h ∧ L = locs
section GoKit
variable {p : Program} {l : Launch} {e : Env} {R : Room} {s : State} {m : MethodId} {args : Array Value} {below : List Frame} {meth : Method} {c : Code} {T : State} {locs : List Loc} {cells slots : Nat} {Z : State} {a0 : Array Value} {h : Heap} {nc ns : Nat} {Q Q' : Option Value → Heap → List Loc → Prop} {pc pc' : Nat} {Ls Ls' : Array Slot} {St : List Value} {own nm : String} {bytes : ByteArray} {maxL : Nat} {rt : Option FieldType} {tabs : List Jvm.Cond}
theorem Go.step {u u' : State} (st : ∀ t, Steps p.tables e below u' t → Steps p.tables e below u t) (k : Go p e below s nc ns Q u') : Go p e below s nc ns Q u := by
  obtain ⟨s₂, o, h1, h2⟩ := k
  exact ⟨s₂, o, st _ h1, h2⟩
theorem Go.mono {u : State} (q : ∀ v h L, Q v h L → Q' v h L) (k : Go p e below s nc ns Q u) : Go p e below s nc ns Q' u := by
  obtain ⟨s₂, o, h1, h2, h3, v, L, h4, h5, h6⟩ := k
  exact ⟨s₂, o, h1, h2, h3, v, L, h4, q _ _ _ h5, h6⟩
theorem Go.wid {u : State} {nc' ns' : Nat} (q1 : nc ≤ nc') (q2 : ns ≤ ns') (k : Go p e below s nc ns Q u) : Go p e below s nc' ns' Q u := by
  obtain ⟨s₂, o, h1, h2, h3, v, L, h4, h5, h6, h7, h8⟩ := k
  exact ⟨s₂, o, h1, h2, h3, v, L, h4, h5, h6, h7, h8.mono q1 q2⟩
theorem Go.cw {u : State} {w w' : Option Value} (q : w = w') (k : Go p e below s nc ns (PQ w h locs) u) : Go p e below s nc ns (PQ w' h locs) u := q ▸ k
theorem Go.top {g g' : JFrame} (q : g = g') (k : Go p e below s nc ns Q (T.setTop g')) : Go p e below s nc ns Q (T.setTop g) := q ▸ k
theorem Bdy.w (B : Bdy p s m meth c Z a0 own nm bytes maxL rt tabs) {d : Jvm.Cond} (i : Nat) (q : tabs[i]? = some d) : d.before a0 Z = true := B.2.2.1 _ (List.mem_of_getElem? q)
theorem Bdy.d (B : Bdy p s m meth c Z a0 own nm bytes maxL rt tabs) {r : Except ClassFile.DecodeError (ClassFile.Instr × Nat)} (q : decode bytes pc = r) : decode c.code pc = r := hb B.2.2.2.1 q
theorem Bdy.x (B : Bdy p s m meth c Z a0 own nm bytes maxL rt tabs) : p.tables.exec = Jvm.exec := B.1
theorem Bdy.z (B : Bdy p s m meth c Z a0 own nm bytes maxL rt tabs) : Z.Warmed39 s.vm := B.2.1
theorem Bdy.ml (B : Bdy p s m meth c Z a0 own nm bytes maxL rt tabs) : c.maxLocals = maxL := B.2.2.2.2.1
theorem Bdy.o (B : Bdy p s m meth c Z a0 own nm bytes maxL rt tabs) : s.vm.findClass own = some m.cls := B.2.2.2.2.2.1
theorem Bdy.r (B : Bdy p s m meth c Z a0 own nm bytes maxL rt tabs) : meth.sig.returnType = rt := B.2.2.2.2.2.2.1
theorem Bdy.lk (B : Bdy p s m meth c Z a0 own nm bytes maxL rt tabs) : meth.locks = false := B.2.2.2.2.2.2.2.1
theorem Bdy.n (B : Bdy p s m meth c Z a0 own nm bytes maxL rt tabs) : meth.name = nm := B.2.2.2.2.2.2.2.2
theorem g_iloadN (X : Stand p l e R s m args below meth c T locs cells slots) (B : Bdy p s m meth c Z a0 own nm bytes maxL rt tabs) {k : Fin 4} {v : Int32} (hd : decode bytes pc = .ok (.iload_n k, 1)) (hp : pc + 1 = pc') (hl : Ls[k.val]? = some (.val (.int v))) (K : Go p e below s nc ns Q (T.setTop (mkF m pc' Ls (.int v :: St)))) : Go p e below s nc ns Q (T.setTop (mkF m pc Ls St)) := by
  subst hp; exact Go.step (fun t q => XS.iloadN X.here B.x (g := mkF m pc Ls St) rfl (B.d hd) hl q) K
theorem g_iload (X : Stand p l e R s m args below meth c T locs cells slots) (B : Bdy p s m meth c Z a0 own nm bytes maxL rt tabs) {k : Nat} {v : Int32} (hd : decode bytes pc = .ok (.iload k, 2)) (hp : pc + 2 = pc') (hl : Ls[k]? = some (.val (.int v))) (K : Go p e below s nc ns Q (T.setTop (mkF m pc' Ls (.int v :: St)))) : Go p e below s nc ns Q (T.setTop (mkF m pc Ls St)) := by
  subst hp; exact Go.step (fun t q => XS.iload X.here B.x (g := mkF m pc Ls St) rfl (B.d hd) hl q) K
theorem g_lloadN (X : Stand p l e R s m args below meth c T locs cells slots) (B : Bdy p s m meth c Z a0 own nm bytes maxL rt tabs) {k : Fin 4} {v : Int64} (hd : decode bytes pc = .ok (.lload_n k, 1)) (hp : pc + 1 = pc') (hl : Ls[k.val]? = some (.val (.long v))) (K : Go p e below s nc ns Q (T.setTop (mkF m pc' Ls (.long v :: St)))) : Go p e below s nc ns Q (T.setTop (mkF m pc Ls St)) := by
  subst hp; exact Go.step (fun t q => XS.lloadN X.here B.x (g := mkF m pc Ls St) rfl (B.d hd) hl q) K
theorem g_lload (X : Stand p l e R s m args below meth c T locs cells slots) (B : Bdy p s m meth c Z a0 own nm bytes maxL rt tabs) {k : Nat} {v : Int64} (hd : decode bytes pc = .ok (.lload k, 2)) (hp : pc + 2 = pc') (hl : Ls[k]? = some (.val (.long v))) (K : Go p e below s nc ns Q (T.setTop (mkF m pc' Ls (.long v :: St)))) : Go p e below s nc ns Q (T.setTop (mkF m pc Ls St)) := by
  subst hp; exact Go.step (fun t q => XS.lload X.here B.x (g := mkF m pc Ls St) rfl (B.d hd) hl q) K
theorem g_aloadN (X : Stand p l e R s m args below meth c T locs cells slots) (B : Bdy p s m meth c Z a0 own nm bytes maxL rt tabs) {k : Fin 4} {v : Value} (hd : decode bytes pc = .ok (.aload_n k, 1)) (hp : pc + 1 = pc') (hl : Ls[k.val]? = some (.val v)) (hv : v.isRef = true) (K : Go p e below s nc ns Q (T.setTop (mkF m pc' Ls (v :: St)))) : Go p e below s nc ns Q (T.setTop (mkF m pc Ls St)) := by
  subst hp; exact Go.step (fun t q => XS.aloadN X.here B.x (g := mkF m pc Ls St) rfl (B.d hd) hl hv q) K
theorem g_aload (X : Stand p l e R s m args below meth c T locs cells slots) (B : Bdy p s m meth c Z a0 own nm bytes maxL rt tabs) {k : Nat} {v : Value} (hd : decode bytes pc = .ok (.aload k, 2)) (hp : pc + 2 = pc') (hl : Ls[k]? = some (.val v)) (hv : v.isRef = true) (K : Go p e below s nc ns Q (T.setTop (mkF m pc' Ls (v :: St)))) : Go p e below s nc ns Q (T.setTop (mkF m pc Ls St)) := by
  subst hp; exact Go.step (fun t q => XS.aload X.here B.x (g := mkF m pc Ls St) rfl (B.d hd) hl hv q) K
theorem g_istoreN (X : Stand p l e R s m args below meth c T locs cells slots) (B : Bdy p s m meth c Z a0 own nm bytes maxL rt tabs) {k : Fin 4} {v : Int32} (hd : decode bytes pc = .ok (.istore_n k, 1)) (hp : pc + 1 = pc') (hl : storeLocals Ls k.val (.int v) = some Ls') (K : Go p e below s nc ns Q (T.setTop (mkF m pc' Ls' St))) : Go p e below s nc ns Q (T.setTop (mkF m pc Ls (.int v :: St))) := by
  subst hp; exact Go.step (fun t q => XS.istoreN X.here B.x (g := mkF m pc Ls (.int v :: St)) rfl (B.d hd) rfl hl q) K
theorem g_istore (X : Stand p l e R s m args below meth c T locs cells slots) (B : Bdy p s m meth c Z a0 own nm bytes maxL rt tabs) {k : Nat} {v : Int32} (hd : decode bytes pc = .ok (.istore k, 2)) (hp : pc + 2 = pc') (hl : storeLocals Ls k (.int v) = some Ls') (K : Go p e below s nc ns Q (T.setTop (mkF m pc' Ls' St))) : Go p e below s nc ns Q (T.setTop (mkF m pc Ls (.int v :: St))) := by
  subst hp; exact Go.step (fun t q => XS.istore X.here B.x (g := mkF m pc Ls (.int v :: St)) rfl (B.d hd) rfl hl q) K
theorem g_lstoreN (X : Stand p l e R s m args below meth c T locs cells slots) (B : Bdy p s m meth c Z a0 own nm bytes maxL rt tabs) {k : Fin 4} {v : Int64} (hd : decode bytes pc = .ok (.lstore_n k, 1)) (hp : pc + 1 = pc') (hl : storeLocals Ls k.val (.long v) = some Ls') (K : Go p e below s nc ns Q (T.setTop (mkF m pc' Ls' St))) : Go p e below s nc ns Q (T.setTop (mkF m pc Ls (.long v :: St))) := by
  subst hp; exact Go.step (fun t q => XS.lstoreN X.here B.x (g := mkF m pc Ls (.long v :: St)) rfl (B.d hd) rfl hl q) K
theorem g_lstore (X : Stand p l e R s m args below meth c T locs cells slots) (B : Bdy p s m meth c Z a0 own nm bytes maxL rt tabs) {k : Nat} {v : Int64} (hd : decode bytes pc = .ok (.lstore k, 2)) (hp : pc + 2 = pc') (hl : storeLocals Ls k (.long v) = some Ls') (K : Go p e below s nc ns Q (T.setTop (mkF m pc' Ls' St))) : Go p e below s nc ns Q (T.setTop (mkF m pc Ls (.long v :: St))) := by
  subst hp; exact Go.step (fun t q => XS.lstore X.here B.x (g := mkF m pc Ls (.long v :: St)) rfl (B.d hd) rfl hl q) K
theorem g_astoreN (X : Stand p l e R s m args below meth c T locs cells slots) (B : Bdy p s m meth c Z a0 own nm bytes maxL rt tabs) {k : Fin 4} {v : Value} (hd : decode bytes pc = .ok (.astore_n k, 1)) (hp : pc + 1 = pc') (hv : v.isRef = true) (hl : storeLocals Ls k.val v = some Ls') (K : Go p e below s nc ns Q (T.setTop (mkF m pc' Ls' St))) : Go p e below s nc ns Q (T.setTop (mkF m pc Ls (v :: St))) := by
  subst hp; exact Go.step (fun t q => XS.astoreN X.here B.x (g := mkF m pc Ls (v :: St)) rfl (B.d hd) rfl hv hl q) K
theorem g_astore (X : Stand p l e R s m args below meth c T locs cells slots) (B : Bdy p s m meth c Z a0 own nm bytes maxL rt tabs) {k : Nat} {v : Value} (hd : decode bytes pc = .ok (.astore k, 2)) (hp : pc + 2 = pc') (hv : v.isRef = true) (hl : storeLocals Ls k v = some Ls') (K : Go p e below s nc ns Q (T.setTop (mkF m pc' Ls' St))) : Go p e below s nc ns Q (T.setTop (mkF m pc Ls (v :: St))) := by
  subst hp; exact Go.step (fun t q => XS.astore X.here B.x (g := mkF m pc Ls (v :: St)) rfl (B.d hd) rfl hv hl q) K
theorem g_iinc (X : Stand p l e R s m args below meth c T locs cells slots) (B : Bdy p s m meth c Z a0 own nm bytes maxL rt tabs) {k : Nat} {i : Int} {v : Int32} (hd : decode bytes pc = .ok (.iinc k i, 3)) (hp : pc + 3 = pc') (hl : Ls[k]? = some (.val (.int v))) (hs : storeLocals Ls k (.int (v + Int32.ofInt i)) = some Ls') (K : Go p e below s nc ns Q (T.setTop (mkF m pc' Ls' St))) : Go p e below s nc ns Q (T.setTop (mkF m pc Ls St)) := by
  subst hp; exact Go.step (fun t q => XS.iinc X.here B.x (g := mkF m pc Ls St) rfl (B.d hd) hl hs q) K
theorem g_iconst (X : Stand p l e R s m args below meth c T locs cells slots) (B : Bdy p s m meth c Z a0 own nm bytes maxL rt tabs) {i : Int} {v : Int32} (hd : decode bytes pc = .ok (.iconst i, 1)) (hp : pc + 1 = pc') (hv : Int32.ofInt i = v) (K : Go p e below s nc ns Q (T.setTop (mkF m pc' Ls (.int v :: St)))) : Go p e below s nc ns Q (T.setTop (mkF m pc Ls St)) := by
  subst hp hv; exact Go.step (fun t q => XS.iconst X.here B.x (g := mkF m pc Ls St) rfl (B.d hd) q) K
theorem g_bipush (X : Stand p l e R s m args below meth c T locs cells slots) (B : Bdy p s m meth c Z a0 own nm bytes maxL rt tabs) {i : Int} {v : Int32} (hd : decode bytes pc = .ok (.bipush i, 2)) (hp : pc + 2 = pc') (hv : (Int8.ofInt i).toInt32 = v) (K : Go p e below s nc ns Q (T.setTop (mkF m pc' Ls (.int v :: St)))) : Go p e below s nc ns Q (T.setTop (mkF m pc Ls St)) := by
  subst hp hv; exact Go.step (fun t q => XS.bipush X.here B.x (g := mkF m pc Ls St) rfl (B.d hd) q) K
theorem g_sipush (X : Stand p l e R s m args below meth c T locs cells slots) (B : Bdy p s m meth c Z a0 own nm bytes maxL rt tabs) {i : Int} {v : Int32} (hd : decode bytes pc = .ok (.sipush i, 3)) (hp : pc + 3 = pc') (hv : (Int16.ofInt i).toInt32 = v) (K : Go p e below s nc ns Q (T.setTop (mkF m pc' Ls (.int v :: St)))) : Go p e below s nc ns Q (T.setTop (mkF m pc Ls St)) := by
  subst hp hv; exact Go.step (fun t q => XS.sipush X.here B.x (g := mkF m pc Ls St) rfl (B.d hd) q) K
theorem g_lconst (X : Stand p l e R s m args below meth c T locs cells slots) (B : Bdy p s m meth c Z a0 own nm bytes maxL rt tabs) {k : Fin 2} {v : Int64} (hd : decode bytes pc = .ok (.lconst k, 1)) (hp : pc + 1 = pc') (hv : Int64.ofNat k = v) (K : Go p e below s nc ns Q (T.setTop (mkF m pc' Ls (.long v :: St)))) : Go p e below s nc ns Q (T.setTop (mkF m pc Ls St)) := by
  subst hp hv; exact Go.step (fun t q => XS.lconst X.here B.x (g := mkF m pc Ls St) rfl (B.d hd) q) K
theorem g_null (X : Stand p l e R s m args below meth c T locs cells slots) (B : Bdy p s m meth c Z a0 own nm bytes maxL rt tabs) (hd : decode bytes pc = .ok (.aconst_null, 1)) (hp : pc + 1 = pc') (K : Go p e below s nc ns Q (T.setTop (mkF m pc' Ls (.null :: St)))) : Go p e below s nc ns Q (T.setTop (mkF m pc Ls St)) := by
  subst hp; exact Go.step (fun t q => XS.aconstNull X.here B.x (g := mkF m pc Ls St) rfl (B.d hd) q) K
theorem g_ldc (X : Stand p l e R s m args below meth c T locs cells slots) (B : Bdy p s m meth c Z a0 own nm bytes maxL rt tabs) {i : Nat} {v : Int32} (w : (Jvm.Cond.constant own i v).before a0 Z = true) (hd : decode bytes pc = .ok (.ldc i, 2)) (hp : pc + 2 = pc') (K : Go p e below s nc ns Q (T.setTop (mkF m pc' Ls (.int v :: St)))) : Go p e below s nc ns Q (T.setTop (mkF m pc Ls St)) := by
  subst hp; exact Go.step (fun t q => X.ldcInt B.x B.o (mvT B.z w) (g := mkF m pc Ls St) rfl (B.d hd) t q) K
theorem g_ldcw (X : Stand p l e R s m args below meth c T locs cells slots) (B : Bdy p s m meth c Z a0 own nm bytes maxL rt tabs) {i : Nat} {v : Int32} (w : (Jvm.Cond.constant own i v).before a0 Z = true) (hd : decode bytes pc = .ok (.ldc_w i, 3)) (hp : pc + 3 = pc') (K : Go p e below s nc ns Q (T.setTop (mkF m pc' Ls (.int v :: St)))) : Go p e below s nc ns Q (T.setTop (mkF m pc Ls St)) := by
  subst hp; exact Go.step (fun t q => X.ldcwInt B.x B.o (mvT B.z w) (g := mkF m pc Ls St) rfl (B.d hd) t q) K
theorem g_ldc2 (X : Stand p l e R s m args below meth c T locs cells slots) (B : Bdy p s m meth c Z a0 own nm bytes maxL rt tabs) {i : Nat} {v : Int64} (w : (Jvm.Cond.constantLong own i v).before a0 Z = true) (hd : decode bytes pc = .ok (.ldc2_w i, 3)) (hp : pc + 3 = pc') (K : Go p e below s nc ns Q (T.setTop (mkF m pc' Ls (.long v :: St)))) : Go p e below s nc ns Q (T.setTop (mkF m pc Ls St)) := by
  subst hp; exact Go.step (fun t q => X.ldc2Long B.x B.o (mvT B.z w) (g := mkF m pc Ls St) rfl (B.d hd) t q) K
theorem g_iadd (X : Stand p l e R s m args below meth c T locs cells slots) (B : Bdy p s m meth c Z a0 own nm bytes maxL rt tabs) {x y : Int32} (hd : decode bytes pc = .ok (.iadd, 1)) (hp : pc + 1 = pc') (K : Go p e below s nc ns Q (T.setTop (mkF m pc' Ls (.int (x + y) :: St)))) : Go p e below s nc ns Q (T.setTop (mkF m pc Ls (.int y :: .int x :: St))) := by
  subst hp; exact Go.step (fun t q => XS.iadd X.here B.x (g := mkF m pc Ls (.int y :: .int x :: St)) rfl (B.d hd) rfl q) K
theorem g_isub (X : Stand p l e R s m args below meth c T locs cells slots) (B : Bdy p s m meth c Z a0 own nm bytes maxL rt tabs) {x y : Int32} (hd : decode bytes pc = .ok (.isub, 1)) (hp : pc + 1 = pc') (K : Go p e below s nc ns Q (T.setTop (mkF m pc' Ls (.int (x - y) :: St)))) : Go p e below s nc ns Q (T.setTop (mkF m pc Ls (.int y :: .int x :: St))) := by
  subst hp; exact Go.step (fun t q => XS.isub X.here B.x (g := mkF m pc Ls (.int y :: .int x :: St)) rfl (B.d hd) rfl q) K
theorem g_imul (X : Stand p l e R s m args below meth c T locs cells slots) (B : Bdy p s m meth c Z a0 own nm bytes maxL rt tabs) {x y : Int32} (hd : decode bytes pc = .ok (.imul, 1)) (hp : pc + 1 = pc') (K : Go p e below s nc ns Q (T.setTop (mkF m pc' Ls (.int (x * y) :: St)))) : Go p e below s nc ns Q (T.setTop (mkF m pc Ls (.int y :: .int x :: St))) := by
  subst hp; exact Go.step (fun t q => XS.imul X.here B.x (g := mkF m pc Ls (.int y :: .int x :: St)) rfl (B.d hd) rfl q) K
theorem g_iand (X : Stand p l e R s m args below meth c T locs cells slots) (B : Bdy p s m meth c Z a0 own nm bytes maxL rt tabs) {x y : Int32} (hd : decode bytes pc = .ok (.iand, 1)) (hp : pc + 1 = pc') (K : Go p e below s nc ns Q (T.setTop (mkF m pc' Ls (.int (x &&& y) :: St)))) : Go p e below s nc ns Q (T.setTop (mkF m pc Ls (.int y :: .int x :: St))) := by
  subst hp; exact Go.step (fun t q => XS.iand X.here B.x (g := mkF m pc Ls (.int y :: .int x :: St)) rfl (B.d hd) rfl q) K
theorem g_ior (X : Stand p l e R s m args below meth c T locs cells slots) (B : Bdy p s m meth c Z a0 own nm bytes maxL rt tabs) {x y : Int32} (hd : decode bytes pc = .ok (.ior, 1)) (hp : pc + 1 = pc') (K : Go p e below s nc ns Q (T.setTop (mkF m pc' Ls (.int (x ||| y) :: St)))) : Go p e below s nc ns Q (T.setTop (mkF m pc Ls (.int y :: .int x :: St))) := by
  subst hp; exact Go.step (fun t q => XS.ior X.here B.x (g := mkF m pc Ls (.int y :: .int x :: St)) rfl (B.d hd) rfl q) K
theorem g_ixor (X : Stand p l e R s m args below meth c T locs cells slots) (B : Bdy p s m meth c Z a0 own nm bytes maxL rt tabs) {x y : Int32} (hd : decode bytes pc = .ok (.ixor, 1)) (hp : pc + 1 = pc') (K : Go p e below s nc ns Q (T.setTop (mkF m pc' Ls (.int (x ^^^ y) :: St)))) : Go p e below s nc ns Q (T.setTop (mkF m pc Ls (.int y :: .int x :: St))) := by
  subst hp; exact Go.step (fun t q => XS.ixor X.here B.x (g := mkF m pc Ls (.int y :: .int x :: St)) rfl (B.d hd) rfl q) K
theorem g_ishl (X : Stand p l e R s m args below meth c T locs cells slots) (B : Bdy p s m meth c Z a0 own nm bytes maxL rt tabs) {x z : Int32} {y : Int32} (hd : decode bytes pc = .ok (.ishl, 1)) (hp : pc + 1 = pc') (hz : x <<< (y &&& 31) = z) (K : Go p e below s nc ns Q (T.setTop (mkF m pc' Ls (.int z :: St)))) : Go p e below s nc ns Q (T.setTop (mkF m pc Ls (.int y :: .int x :: St))) := by
  subst hp hz; exact Go.step (fun t q => XS.ishl X.here B.x (g := mkF m pc Ls (.int y :: .int x :: St)) rfl (B.d hd) rfl q) K
theorem g_ishr (X : Stand p l e R s m args below meth c T locs cells slots) (B : Bdy p s m meth c Z a0 own nm bytes maxL rt tabs) {x z : Int32} {y : Int32} (hd : decode bytes pc = .ok (.ishr, 1)) (hp : pc + 1 = pc') (hz : x >>> (y &&& 31) = z) (K : Go p e below s nc ns Q (T.setTop (mkF m pc' Ls (.int z :: St)))) : Go p e below s nc ns Q (T.setTop (mkF m pc Ls (.int y :: .int x :: St))) := by
  subst hp hz; exact Go.step (fun t q => XS.ishr X.here B.x (g := mkF m pc Ls (.int y :: .int x :: St)) rfl (B.d hd) rfl q) K
theorem g_iushr (X : Stand p l e R s m args below meth c T locs cells slots) (B : Bdy p s m meth c Z a0 own nm bytes maxL rt tabs) {x z : Int32} {y : Int32} (hd : decode bytes pc = .ok (.iushr, 1)) (hp : pc + 1 = pc') (hz : (x.toUInt32 >>> (y &&& 31).toUInt32).toInt32 = z) (K : Go p e below s nc ns Q (T.setTop (mkF m pc' Ls (.int z :: St)))) : Go p e below s nc ns Q (T.setTop (mkF m pc Ls (.int y :: .int x :: St))) := by
  subst hp hz; exact Go.step (fun t q => XS.iushr X.here B.x (g := mkF m pc Ls (.int y :: .int x :: St)) rfl (B.d hd) rfl q) K
theorem g_ladd (X : Stand p l e R s m args below meth c T locs cells slots) (B : Bdy p s m meth c Z a0 own nm bytes maxL rt tabs) {x y : Int64} (hd : decode bytes pc = .ok (.ladd, 1)) (hp : pc + 1 = pc') (K : Go p e below s nc ns Q (T.setTop (mkF m pc' Ls (.long (x + y) :: St)))) : Go p e below s nc ns Q (T.setTop (mkF m pc Ls (.long y :: .long x :: St))) := by
  subst hp; exact Go.step (fun t q => XS.ladd X.here B.x (g := mkF m pc Ls (.long y :: .long x :: St)) rfl (B.d hd) rfl q) K
theorem g_lsub (X : Stand p l e R s m args below meth c T locs cells slots) (B : Bdy p s m meth c Z a0 own nm bytes maxL rt tabs) {x y : Int64} (hd : decode bytes pc = .ok (.lsub, 1)) (hp : pc + 1 = pc') (K : Go p e below s nc ns Q (T.setTop (mkF m pc' Ls (.long (x - y) :: St)))) : Go p e below s nc ns Q (T.setTop (mkF m pc Ls (.long y :: .long x :: St))) := by
  subst hp; exact Go.step (fun t q => XS.lsub X.here B.x (g := mkF m pc Ls (.long y :: .long x :: St)) rfl (B.d hd) rfl q) K
theorem g_lmul (X : Stand p l e R s m args below meth c T locs cells slots) (B : Bdy p s m meth c Z a0 own nm bytes maxL rt tabs) {x y : Int64} (hd : decode bytes pc = .ok (.lmul, 1)) (hp : pc + 1 = pc') (K : Go p e below s nc ns Q (T.setTop (mkF m pc' Ls (.long (x * y) :: St)))) : Go p e below s nc ns Q (T.setTop (mkF m pc Ls (.long y :: .long x :: St))) := by
  subst hp; exact Go.step (fun t q => XS.lmul X.here B.x (g := mkF m pc Ls (.long y :: .long x :: St)) rfl (B.d hd) rfl q) K
theorem g_land (X : Stand p l e R s m args below meth c T locs cells slots) (B : Bdy p s m meth c Z a0 own nm bytes maxL rt tabs) {x y : Int64} (hd : decode bytes pc = .ok (.land, 1)) (hp : pc + 1 = pc') (K : Go p e below s nc ns Q (T.setTop (mkF m pc' Ls (.long (x &&& y) :: St)))) : Go p e below s nc ns Q (T.setTop (mkF m pc Ls (.long y :: .long x :: St))) := by
  subst hp; exact Go.step (fun t q => XS.land X.here B.x (g := mkF m pc Ls (.long y :: .long x :: St)) rfl (B.d hd) rfl q) K
theorem g_lor (X : Stand p l e R s m args below meth c T locs cells slots) (B : Bdy p s m meth c Z a0 own nm bytes maxL rt tabs) {x y : Int64} (hd : decode bytes pc = .ok (.lor, 1)) (hp : pc + 1 = pc') (K : Go p e below s nc ns Q (T.setTop (mkF m pc' Ls (.long (x ||| y) :: St)))) : Go p e below s nc ns Q (T.setTop (mkF m pc Ls (.long y :: .long x :: St))) := by
  subst hp; exact Go.step (fun t q => XS.lor X.here B.x (g := mkF m pc Ls (.long y :: .long x :: St)) rfl (B.d hd) rfl q) K
theorem g_lxor (X : Stand p l e R s m args below meth c T locs cells slots) (B : Bdy p s m meth c Z a0 own nm bytes maxL rt tabs) {x y : Int64} (hd : decode bytes pc = .ok (.lxor, 1)) (hp : pc + 1 = pc') (K : Go p e below s nc ns Q (T.setTop (mkF m pc' Ls (.long (x ^^^ y) :: St)))) : Go p e below s nc ns Q (T.setTop (mkF m pc Ls (.long y :: .long x :: St))) := by
  subst hp; exact Go.step (fun t q => XS.lxor X.here B.x (g := mkF m pc Ls (.long y :: .long x :: St)) rfl (B.d hd) rfl q) K
theorem g_lshl (X : Stand p l e R s m args below meth c T locs cells slots) (B : Bdy p s m meth c Z a0 own nm bytes maxL rt tabs) {x z : Int64} {y : Int32} (hd : decode bytes pc = .ok (.lshl, 1)) (hp : pc + 1 = pc') (hz : x <<< (y &&& 63).toInt64 = z) (K : Go p e below s nc ns Q (T.setTop (mkF m pc' Ls (.long z :: St)))) : Go p e below s nc ns Q (T.setTop (mkF m pc Ls (.int y :: .long x :: St))) := by
  subst hp hz; exact Go.step (fun t q => XS.lshl X.here B.x (g := mkF m pc Ls (.int y :: .long x :: St)) rfl (B.d hd) rfl q) K
theorem g_lshr (X : Stand p l e R s m args below meth c T locs cells slots) (B : Bdy p s m meth c Z a0 own nm bytes maxL rt tabs) {x z : Int64} {y : Int32} (hd : decode bytes pc = .ok (.lshr, 1)) (hp : pc + 1 = pc') (hz : x >>> (y &&& 63).toInt64 = z) (K : Go p e below s nc ns Q (T.setTop (mkF m pc' Ls (.long z :: St)))) : Go p e below s nc ns Q (T.setTop (mkF m pc Ls (.int y :: .long x :: St))) := by
  subst hp hz; exact Go.step (fun t q => XS.lshr X.here B.x (g := mkF m pc Ls (.int y :: .long x :: St)) rfl (B.d hd) rfl q) K
theorem g_lushr (X : Stand p l e R s m args below meth c T locs cells slots) (B : Bdy p s m meth c Z a0 own nm bytes maxL rt tabs) {x z : Int64} {y : Int32} (hd : decode bytes pc = .ok (.lushr, 1)) (hp : pc + 1 = pc') (hz : (x.toUInt64 >>> (y &&& 63).toInt64.toUInt64).toInt64 = z) (K : Go p e below s nc ns Q (T.setTop (mkF m pc' Ls (.long z :: St)))) : Go p e below s nc ns Q (T.setTop (mkF m pc Ls (.int y :: .long x :: St))) := by
  subst hp hz; exact Go.step (fun t q => XS.lushr X.here B.x (g := mkF m pc Ls (.int y :: .long x :: St)) rfl (B.d hd) rfl q) K
theorem g_ineg (X : Stand p l e R s m args below meth c T locs cells slots) (B : Bdy p s m meth c Z a0 own nm bytes maxL rt tabs) {x : Int32} (hd : decode bytes pc = .ok (.ineg, 1)) (hp : pc + 1 = pc') (K : Go p e below s nc ns Q (T.setTop (mkF m pc' Ls (.int ((-x)) :: St)))) : Go p e below s nc ns Q (T.setTop (mkF m pc Ls (.int x :: St))) := by
  subst hp; exact Go.step (fun t q => XS.ineg X.here B.x (g := mkF m pc Ls (.int x :: St)) rfl (B.d hd) rfl q) K
theorem g_lneg (X : Stand p l e R s m args below meth c T locs cells slots) (B : Bdy p s m meth c Z a0 own nm bytes maxL rt tabs) {x : Int64} (hd : decode bytes pc = .ok (.lneg, 1)) (hp : pc + 1 = pc') (K : Go p e below s nc ns Q (T.setTop (mkF m pc' Ls (.long ((-x)) :: St)))) : Go p e below s nc ns Q (T.setTop (mkF m pc Ls (.long x :: St))) := by
  subst hp; exact Go.step (fun t q => XS.lneg X.here B.x (g := mkF m pc Ls (.long x :: St)) rfl (B.d hd) rfl q) K
theorem g_i2l (X : Stand p l e R s m args below meth c T locs cells slots) (B : Bdy p s m meth c Z a0 own nm bytes maxL rt tabs) {x : Int32} (hd : decode bytes pc = .ok (.i2l, 1)) (hp : pc + 1 = pc') (K : Go p e below s nc ns Q (T.setTop (mkF m pc' Ls (.long (x.toInt64) :: St)))) : Go p e below s nc ns Q (T.setTop (mkF m pc Ls (.int x :: St))) := by
  subst hp; exact Go.step (fun t q => XS.i2l X.here B.x (g := mkF m pc Ls (.int x :: St)) rfl (B.d hd) rfl q) K
theorem g_l2i (X : Stand p l e R s m args below meth c T locs cells slots) (B : Bdy p s m meth c Z a0 own nm bytes maxL rt tabs) {x : Int64} (hd : decode bytes pc = .ok (.l2i, 1)) (hp : pc + 1 = pc') (K : Go p e below s nc ns Q (T.setTop (mkF m pc' Ls (.int (x.toInt32) :: St)))) : Go p e below s nc ns Q (T.setTop (mkF m pc Ls (.long x :: St))) := by
  subst hp; exact Go.step (fun t q => XS.l2i X.here B.x (g := mkF m pc Ls (.long x :: St)) rfl (B.d hd) rfl q) K
theorem g_i2b (X : Stand p l e R s m args below meth c T locs cells slots) (B : Bdy p s m meth c Z a0 own nm bytes maxL rt tabs) {x : Int32} (hd : decode bytes pc = .ok (.i2b, 1)) (hp : pc + 1 = pc') (K : Go p e below s nc ns Q (T.setTop (mkF m pc' Ls (.int (x.toInt8.toInt32) :: St)))) : Go p e below s nc ns Q (T.setTop (mkF m pc Ls (.int x :: St))) := by
  subst hp; exact Go.step (fun t q => XS.i2b X.here B.x (g := mkF m pc Ls (.int x :: St)) rfl (B.d hd) rfl q) K
theorem g_i2s (X : Stand p l e R s m args below meth c T locs cells slots) (B : Bdy p s m meth c Z a0 own nm bytes maxL rt tabs) {x : Int32} (hd : decode bytes pc = .ok (.i2s, 1)) (hp : pc + 1 = pc') (K : Go p e below s nc ns Q (T.setTop (mkF m pc' Ls (.int (x.toInt16.toInt32) :: St)))) : Go p e below s nc ns Q (T.setTop (mkF m pc Ls (.int x :: St))) := by
  subst hp; exact Go.step (fun t q => XS.i2s X.here B.x (g := mkF m pc Ls (.int x :: St)) rfl (B.d hd) rfl q) K
theorem g_i2c (X : Stand p l e R s m args below meth c T locs cells slots) (B : Bdy p s m meth c Z a0 own nm bytes maxL rt tabs) {x : Int32} (hd : decode bytes pc = .ok (.i2c, 1)) (hp : pc + 1 = pc') (K : Go p e below s nc ns Q (T.setTop (mkF m pc' Ls (.int (x.toUInt32.toUInt16.toUInt32.toInt32) :: St)))) : Go p e below s nc ns Q (T.setTop (mkF m pc Ls (.int x :: St))) := by
  subst hp; exact Go.step (fun t q => XS.i2c X.here B.x (g := mkF m pc Ls (.int x :: St)) rfl (B.d hd) rfl q) K
theorem g_irem (X : Stand p l e R s m args below meth c T locs cells slots) (B : Bdy p s m meth c Z a0 own nm bytes maxL rt tabs) {x y : Int32} (hy : y ≠ 0) (hd : decode bytes pc = .ok (.irem, 1)) (hp : pc + 1 = pc') (K : Go p e below s nc ns Q (T.setTop (mkF m pc' Ls (.int (x % y) :: St)))) : Go p e below s nc ns Q (T.setTop (mkF m pc Ls (.int y :: .int x :: St))) := by
  subst hp; exact Go.step (fun t q => Jvm.RoadKit.iremM X B.x (g := mkF m pc Ls (.int y :: .int x :: St)) rfl (B.d hd) rfl hy q) K
theorem g_idiv (X : Stand p l e R s m args below meth c T locs cells slots) (B : Bdy p s m meth c Z a0 own nm bytes maxL rt tabs) {x y : Int32} (hy : y ≠ 0) (hd : decode bytes pc = .ok (.idiv, 1)) (hp : pc + 1 = pc') (K : Go p e below s nc ns Q (T.setTop (mkF m pc' Ls (.int (x / y) :: St)))) : Go p e below s nc ns Q (T.setTop (mkF m pc Ls (.int y :: .int x :: St))) := by
  subst hp; exact Go.step (fun t q => XS.idiv X.here B.x (g := mkF m pc Ls (.int y :: .int x :: St)) rfl (B.d hd) rfl hy q) K
theorem g_ldiv (X : Stand p l e R s m args below meth c T locs cells slots) (B : Bdy p s m meth c Z a0 own nm bytes maxL rt tabs) {x y : Int64} (hy : y ≠ 0) (hd : decode bytes pc = .ok (.ldiv, 1)) (hp : pc + 1 = pc') (K : Go p e below s nc ns Q (T.setTop (mkF m pc' Ls (.long (x / y) :: St)))) : Go p e below s nc ns Q (T.setTop (mkF m pc Ls (.long y :: .long x :: St))) := by
  subst hp; exact Go.step (fun t q => XS.ldiv X.here B.x (g := mkF m pc Ls (.long y :: .long x :: St)) rfl (B.d hd) rfl hy q) K
theorem g_lrem (X : Stand p l e R s m args below meth c T locs cells slots) (B : Bdy p s m meth c Z a0 own nm bytes maxL rt tabs) {x y : Int64} (hy : y ≠ 0) (hd : decode bytes pc = .ok (.lrem, 1)) (hp : pc + 1 = pc') (K : Go p e below s nc ns Q (T.setTop (mkF m pc' Ls (.long (x % y) :: St)))) : Go p e below s nc ns Q (T.setTop (mkF m pc Ls (.long y :: .long x :: St))) := by
  subst hp; rw [← lrem_mod] at K; exact Go.step (fun t q => XS.lrem X.here B.x (g := mkF m pc Ls (.long y :: .long x :: St)) rfl (B.d hd) rfl hy q) K
theorem g_dup (X : Stand p l e R s m args below meth c T locs cells slots) (B : Bdy p s m meth c Z a0 own nm bytes maxL rt tabs) {v : Value} (hd : decode bytes pc = .ok (.dup, 1)) (hp : pc + 1 = pc') (hv : v.category = 1) (K : Go p e below s nc ns Q (T.setTop (mkF m pc' Ls (v :: v :: St)))) : Go p e below s nc ns Q (T.setTop (mkF m pc Ls (v :: St))) := by
  subst hp; exact Go.step (fun t q => XS.dup X.here B.x (g := mkF m pc Ls (v :: St)) rfl (B.d hd) rfl hv q) K
theorem g_dupX1 (X : Stand p l e R s m args below meth c T locs cells slots) (B : Bdy p s m meth c Z a0 own nm bytes maxL rt tabs) {v w : Value} (hd : decode bytes pc = .ok (.dup_x1, 1)) (hp : pc + 1 = pc') (hv : v.category = 1) (hw : w.category = 1) (K : Go p e below s nc ns Q (T.setTop (mkF m pc' Ls (v :: w :: v :: St)))) : Go p e below s nc ns Q (T.setTop (mkF m pc Ls (v :: w :: St))) := by
  subst hp; exact Go.step (fun t q => XS.dupX1 X.here B.x (g := mkF m pc Ls (v :: w :: St)) rfl (B.d hd) rfl hv hw q) K
theorem g_dup2 (X : Stand p l e R s m args below meth c T locs cells slots) (B : Bdy p s m meth c Z a0 own nm bytes maxL rt tabs) {v w : Value} (hd : decode bytes pc = .ok (.dup2, 1)) (hp : pc + 1 = pc') (hv : v.category = 1) (hw : w.category = 1) (K : Go p e below s nc ns Q (T.setTop (mkF m pc' Ls (v :: w :: v :: w :: St)))) : Go p e below s nc ns Q (T.setTop (mkF m pc Ls (v :: w :: St))) := by
  subst hp; have hd' := B.d hd; have hx := B.x
  refine Go.step (fun t q => ?_) K
  jvm_step X.here [X.here.top, hx, hd', hv, hw]
  exact q
theorem g_dup2L (X : Stand p l e R s m args below meth c T locs cells slots) (B : Bdy p s m meth c Z a0 own nm bytes maxL rt tabs) {v : Int64} (hd : decode bytes pc = .ok (.dup2, 1)) (hp : pc + 1 = pc') (K : Go p e below s nc ns Q (T.setTop (mkF m pc' Ls (.long v :: .long v :: St)))) : Go p e below s nc ns Q (T.setTop (mkF m pc Ls (.long v :: St))) := by
  subst hp; have hd' := B.d hd; have hx := B.x
  refine Go.step (fun t q => ?_) K
  jvm_step X.here [X.here.top, hx, hd', Value.category]
  exact q
theorem g_pop (X : Stand p l e R s m args below meth c T locs cells slots) (B : Bdy p s m meth c Z a0 own nm bytes maxL rt tabs) {v : Value} (hd : decode bytes pc = .ok (.pop, 1)) (hp : pc + 1 = pc') (hv : v.category = 1) (K : Go p e below s nc ns Q (T.setTop (mkF m pc' Ls St))) : Go p e below s nc ns Q (T.setTop (mkF m pc Ls (v :: St))) := by
  subst hp; exact Go.step (fun t q => XS.pop X.here B.x (g := mkF m pc Ls (v :: St)) rfl (B.d hd) rfl hv q) K
theorem g_goto (X : Stand p l e R s m args below meth c T locs cells slots) (B : Bdy p s m meth c Z a0 own nm bytes maxL rt tabs) {o : Int} (hd : decode bytes pc = .ok (.goto o, 3)) (ho : 0 ≤ (pc : Int) + o) (hp : ((pc : Int) + o).toNat = pc') (K : Go p e below s nc ns Q (T.setTop (mkF m pc' Ls St))) : Go p e below s nc ns Q (T.setTop (mkF m pc Ls St)) :=
  Go.step (fun t q => XS.goto X.here B.x (g := mkF m pc Ls St) rfl rfl (B.d hd) ho hp q) K
/-! branches: K1 where the comparison holds, K2 where it doesn't -/
theorem g_icmp_lt (X : Stand p l e R s m args below meth c T locs cells slots) (B : Bdy p s m meth c Z a0 own nm bytes maxL rt tabs) {x y : Int32} {o : Int} {pcT pcF : Nat} (hd : decode bytes pc = .ok (.if_icmp .lt o, 3)) (ho : 0 ≤ (pc : Int) + o) (hT : ((pc : Int) + o).toNat = pcT) (hF : pc + 3 = pcF) (K1 : x < y → Go p e below s nc ns Q (T.setTop (mkF m pcT Ls St))) (K2 : ¬ x < y → Go p e below s nc ns Q (T.setTop (mkF m pcF Ls St))) : Go p e below s nc ns Q (T.setTop (mkF m pc Ls (.int y :: .int x :: St))) := by
  by_cases q : x < y
  · exact Go.step (fun t k => XS.icmpYes X.here B.x (g := mkF m pc Ls (.int y :: .int x :: St)) rfl rfl (B.d hd) rfl (tlt q).1 ho hT k) (K1 q)
  · subst hF; exact Go.step (fun t k => XS.icmpNo X.here B.x (g := mkF m pc Ls (.int y :: .int x :: St)) rfl (B.d hd) rfl (flt q).1 k) (K2 q)
theorem g_if_lt (X : Stand p l e R s m args below meth c T locs cells slots) (B : Bdy p s m meth c Z a0 own nm bytes maxL rt tabs) {x : Int32} {o : Int} {pcT pcF : Nat} (hd : decode bytes pc = .ok (.ifCond .lt o, 3)) (ho : 0 ≤ (pc : Int) + o) (hT : ((pc : Int) + o).toNat = pcT) (hF : pc + 3 = pcF) (K1 : x < (0 : Int32) → Go p e below s nc ns Q (T.setTop (mkF m pcT Ls St))) (K2 : ¬ x < (0 : Int32) → Go p e below s nc ns Q (T.setTop (mkF m pcF Ls St))) : Go p e below s nc ns Q (T.setTop (mkF m pc Ls (.int x :: St))) := by
  by_cases q : x < (0 : Int32)
  · exact Go.step (fun t k => XS.ifYes X.here B.x (g := mkF m pc Ls (.int x :: St)) rfl rfl (B.d hd) rfl ((if0 _ _).trans (tlt q).1) ho hT k) (K1 q)
  · subst hF; exact Go.step (fun t k => XS.ifNo X.here B.x (g := mkF m pc Ls (.int x :: St)) rfl (B.d hd) rfl ((if0 _ _).trans (flt q).1) k) (K2 q)
theorem g_lcmp_lt (X : Stand p l e R s m args below meth c T locs cells slots) (B : Bdy p s m meth c Z a0 own nm bytes maxL rt tabs) {x y : Int64} {o : Int} {pcT pcF : Nat} (hd1 : decode bytes pc = .ok (.lcmp, 1)) (hd : decode bytes (pc + 1) = .ok (.ifCond .lt o, 3)) (ho : 0 ≤ ((pc + 1 : Nat) : Int) + o) (hT : (((pc + 1 : Nat) : Int) + o).toNat = pcT) (hF : pc + 4 = pcF) (K1 : x < y → Go p e below s nc ns Q (T.setTop (mkF m pcT Ls St))) (K2 : ¬ x < y → Go p e below s nc ns Q (T.setTop (mkF m pcF Ls St))) : Go p e below s nc ns Q (T.setTop (mkF m pc Ls (.long y :: .long x :: St))) :=
  Go.step (fun t q => XS.lcmp X.here B.x (g := mkF m pc Ls (.long y :: .long x :: St)) rfl (B.d hd1) rfl q) (g_if_lt X B hd ho hT hF (fun q => K1 ((lw_lt x y).mp q)) (fun q => K2 fun z => q ((lw_lt x y).mpr z)))
theorem g_icmp_ge (X : Stand p l e R s m args below meth c T locs cells slots) (B : Bdy p s m meth c Z a0 own nm bytes maxL rt tabs) {x y : Int32} {o : Int} {pcT pcF : Nat} (hd : decode bytes pc = .ok (.if_icmp .ge o, 3)) (ho : 0 ≤ (pc : Int) + o) (hT : ((pc : Int) + o).toNat = pcT) (hF : pc + 3 = pcF) (K1 : x < y → Go p e below s nc ns Q (T.setTop (mkF m pcF Ls St))) (K2 : ¬ x < y → Go p e below s nc ns Q (T.setTop (mkF m pcT Ls St))) : Go p e below s nc ns Q (T.setTop (mkF m pc Ls (.int y :: .int x :: St))) := by
  by_cases q : x < y
  · subst hF; exact Go.step (fun t k => XS.icmpNo X.here B.x (g := mkF m pc Ls (.int y :: .int x :: St)) rfl (B.d hd) rfl (tlt q).2.1 k) (K1 q)
  · exact Go.step (fun t k => XS.icmpYes X.here B.x (g := mkF m pc Ls (.int y :: .int x :: St)) rfl rfl (B.d hd) rfl (flt q).2.1 ho hT k) (K2 q)
theorem g_if_ge (X : Stand p l e R s m args below meth c T locs cells slots) (B : Bdy p s m meth c Z a0 own nm bytes maxL rt tabs) {x : Int32} {o : Int} {pcT pcF : Nat} (hd : decode bytes pc = .ok (.ifCond .ge o, 3)) (ho : 0 ≤ (pc : Int) + o) (hT : ((pc : Int) + o).toNat = pcT) (hF : pc + 3 = pcF) (K1 : x < (0 : Int32) → Go p e below s nc ns Q (T.setTop (mkF m pcF Ls St))) (K2 : ¬ x < (0 : Int32) → Go p e below s nc ns Q (T.setTop (mkF m pcT Ls St))) : Go p e below s nc ns Q (T.setTop (mkF m pc Ls (.int x :: St))) := by
  by_cases q : x < (0 : Int32)
  · subst hF; exact Go.step (fun t k => XS.ifNo X.here B.x (g := mkF m pc Ls (.int x :: St)) rfl (B.d hd) rfl ((if0 _ _).trans (tlt q).2.1) k) (K1 q)
  · exact Go.step (fun t k => XS.ifYes X.here B.x (g := mkF m pc Ls (.int x :: St)) rfl rfl (B.d hd) rfl ((if0 _ _).trans (flt q).2.1) ho hT k) (K2 q)
theorem g_lcmp_ge (X : Stand p l e R s m args below meth c T locs cells slots) (B : Bdy p s m meth c Z a0 own nm bytes maxL rt tabs) {x y : Int64} {o : Int} {pcT pcF : Nat} (hd1 : decode bytes pc = .ok (.lcmp, 1)) (hd : decode bytes (pc + 1) = .ok (.ifCond .ge o, 3)) (ho : 0 ≤ ((pc + 1 : Nat) : Int) + o) (hT : (((pc + 1 : Nat) : Int) + o).toNat = pcT) (hF : pc + 4 = pcF) (K1 : x < y → Go p e below s nc ns Q (T.setTop (mkF m pcF Ls St))) (K2 : ¬ x < y → Go p e below s nc ns Q (T.setTop (mkF m pcT Ls St))) : Go p e below s nc ns Q (T.setTop (mkF m pc Ls (.long y :: .long x :: St))) :=
  Go.step (fun t q => XS.lcmp X.here B.x (g := mkF m pc Ls (.long y :: .long x :: St)) rfl (B.d hd1) rfl q) (g_if_ge X B hd ho hT hF (fun q => K1 ((lw_lt x y).mp q)) (fun q => K2 fun z => q ((lw_lt x y).mpr z)))
theorem g_icmp_gt (X : Stand p l e R s m args below meth c T locs cells slots) (B : Bdy p s m meth c Z a0 own nm bytes maxL rt tabs) {x y : Int32} {o : Int} {pcT pcF : Nat} (hd : decode bytes pc = .ok (.if_icmp .gt o, 3)) (ho : 0 ≤ (pc : Int) + o) (hT : ((pc : Int) + o).toNat = pcT) (hF : pc + 3 = pcF) (K1 : y < x → Go p e below s nc ns Q (T.setTop (mkF m pcT Ls St))) (K2 : ¬ y < x → Go p e below s nc ns Q (T.setTop (mkF m pcF Ls St))) : Go p e below s nc ns Q (T.setTop (mkF m pc Ls (.int y :: .int x :: St))) := by
  by_cases q : y < x
  · exact Go.step (fun t k => XS.icmpYes X.here B.x (g := mkF m pc Ls (.int y :: .int x :: St)) rfl rfl (B.d hd) rfl (tlt q).2.2.1 ho hT k) (K1 q)
  · subst hF; exact Go.step (fun t k => XS.icmpNo X.here B.x (g := mkF m pc Ls (.int y :: .int x :: St)) rfl (B.d hd) rfl (flt q).2.2.1 k) (K2 q)
theorem g_if_gt (X : Stand p l e R s m args below meth c T locs cells slots) (B : Bdy p s m meth c Z a0 own nm bytes maxL rt tabs) {x : Int32} {o : Int} {pcT pcF : Nat} (hd : decode bytes pc = .ok (.ifCond .gt o, 3)) (ho : 0 ≤ (pc : Int) + o) (hT : ((pc : Int) + o).toNat = pcT) (hF : pc + 3 = pcF) (K1 : (0 : Int32) < x → Go p e below s nc ns Q (T.setTop (mkF m pcT Ls St))) (K2 : ¬ (0 : Int32) < x → Go p e below s nc ns Q (T.setTop (mkF m pcF Ls St))) : Go p e below s nc ns Q (T.setTop (mkF m pc Ls (.int x :: St))) := by
  by_cases q : (0 : Int32) < x
  · exact Go.step (fun t k => XS.ifYes X.here B.x (g := mkF m pc Ls (.int x :: St)) rfl rfl (B.d hd) rfl ((if0 _ _).trans (tlt q).2.2.1) ho hT k) (K1 q)
  · subst hF; exact Go.step (fun t k => XS.ifNo X.here B.x (g := mkF m pc Ls (.int x :: St)) rfl (B.d hd) rfl ((if0 _ _).trans (flt q).2.2.1) k) (K2 q)
theorem g_lcmp_gt (X : Stand p l e R s m args below meth c T locs cells slots) (B : Bdy p s m meth c Z a0 own nm bytes maxL rt tabs) {x y : Int64} {o : Int} {pcT pcF : Nat} (hd1 : decode bytes pc = .ok (.lcmp, 1)) (hd : decode bytes (pc + 1) = .ok (.ifCond .gt o, 3)) (ho : 0 ≤ ((pc + 1 : Nat) : Int) + o) (hT : (((pc + 1 : Nat) : Int) + o).toNat = pcT) (hF : pc + 4 = pcF) (K1 : y < x → Go p e below s nc ns Q (T.setTop (mkF m pcT Ls St))) (K2 : ¬ y < x → Go p e below s nc ns Q (T.setTop (mkF m pcF Ls St))) : Go p e below s nc ns Q (T.setTop (mkF m pc Ls (.long y :: .long x :: St))) :=
  Go.step (fun t q => XS.lcmp X.here B.x (g := mkF m pc Ls (.long y :: .long x :: St)) rfl (B.d hd1) rfl q) (g_if_gt X B hd ho hT hF (fun q => K1 ((lw_gt x y).mp q)) (fun q => K2 fun z => q ((lw_gt x y).mpr z)))
theorem g_icmp_le (X : Stand p l e R s m args below meth c T locs cells slots) (B : Bdy p s m meth c Z a0 own nm bytes maxL rt tabs) {x y : Int32} {o : Int} {pcT pcF : Nat} (hd : decode bytes pc = .ok (.if_icmp .le o, 3)) (ho : 0 ≤ (pc : Int) + o) (hT : ((pc : Int) + o).toNat = pcT) (hF : pc + 3 = pcF) (K1 : y < x → Go p e below s nc ns Q (T.setTop (mkF m pcF Ls St))) (K2 : ¬ y < x → Go p e below s nc ns Q (T.setTop (mkF m pcT Ls St))) : Go p e below s nc ns Q (T.setTop (mkF m pc Ls (.int y :: .int x :: St))) := by
  by_cases q : y < x
  · subst hF; exact Go.step (fun t k => XS.icmpNo X.here B.x (g := mkF m pc Ls (.int y :: .int x :: St)) rfl (B.d hd) rfl (tlt q).2.2.2 k) (K1 q)
  · exact Go.step (fun t k => XS.icmpYes X.here B.x (g := mkF m pc Ls (.int y :: .int x :: St)) rfl rfl (B.d hd) rfl (flt q).2.2.2 ho hT k) (K2 q)
theorem g_if_le (X : Stand p l e R s m args below meth c T locs cells slots) (B : Bdy p s m meth c Z a0 own nm bytes maxL rt tabs) {x : Int32} {o : Int} {pcT pcF : Nat} (hd : decode bytes pc = .ok (.ifCond .le o, 3)) (ho : 0 ≤ (pc : Int) + o) (hT : ((pc : Int) + o).toNat = pcT) (hF : pc + 3 = pcF) (K1 : (0 : Int32) < x → Go p e below s nc ns Q (T.setTop (mkF m pcF Ls St))) (K2 : ¬ (0 : Int32) < x → Go p e below s nc ns Q (T.setTop (mkF m pcT Ls St))) : Go p e below s nc ns Q (T.setTop (mkF m pc Ls (.int x :: St))) := by
  by_cases q : (0 : Int32) < x
  · subst hF; exact Go.step (fun t k => XS.ifNo X.here B.x (g := mkF m pc Ls (.int x :: St)) rfl (B.d hd) rfl ((if0 _ _).trans (tlt q).2.2.2) k) (K1 q)
  · exact Go.step (fun t k => XS.ifYes X.here B.x (g := mkF m pc Ls (.int x :: St)) rfl rfl (B.d hd) rfl ((if0 _ _).trans (flt q).2.2.2) ho hT k) (K2 q)
theorem g_lcmp_le (X : Stand p l e R s m args below meth c T locs cells slots) (B : Bdy p s m meth c Z a0 own nm bytes maxL rt tabs) {x y : Int64} {o : Int} {pcT pcF : Nat} (hd1 : decode bytes pc = .ok (.lcmp, 1)) (hd : decode bytes (pc + 1) = .ok (.ifCond .le o, 3)) (ho : 0 ≤ ((pc + 1 : Nat) : Int) + o) (hT : (((pc + 1 : Nat) : Int) + o).toNat = pcT) (hF : pc + 4 = pcF) (K1 : y < x → Go p e below s nc ns Q (T.setTop (mkF m pcF Ls St))) (K2 : ¬ y < x → Go p e below s nc ns Q (T.setTop (mkF m pcT Ls St))) : Go p e below s nc ns Q (T.setTop (mkF m pc Ls (.long y :: .long x :: St))) :=
  Go.step (fun t q => XS.lcmp X.here B.x (g := mkF m pc Ls (.long y :: .long x :: St)) rfl (B.d hd1) rfl q) (g_if_le X B hd ho hT hF (fun q => K1 ((lw_gt x y).mp q)) (fun q => K2 fun z => q ((lw_gt x y).mpr z)))
theorem g_icmp_eq (X : Stand p l e R s m args below meth c T locs cells slots) (B : Bdy p s m meth c Z a0 own nm bytes maxL rt tabs) {x y : Int32} {o : Int} {pcT pcF : Nat} (hd : decode bytes pc = .ok (.if_icmp .eq o, 3)) (ho : 0 ≤ (pc : Int) + o) (hT : ((pc : Int) + o).toNat = pcT) (hF : pc + 3 = pcF) (K1 : x = y → Go p e below s nc ns Q (T.setTop (mkF m pcT Ls St))) (K2 : ¬ x = y → Go p e below s nc ns Q (T.setTop (mkF m pcF Ls St))) : Go p e below s nc ns Q (T.setTop (mkF m pc Ls (.int y :: .int x :: St))) := by
  by_cases q : x = y
  · exact Go.step (fun t k => XS.icmpYes X.here B.x (g := mkF m pc Ls (.int y :: .int x :: St)) rfl rfl (B.d hd) rfl (teq q).1 ho hT k) (K1 q)
  · subst hF; exact Go.step (fun t k => XS.icmpNo X.here B.x (g := mkF m pc Ls (.int y :: .int x :: St)) rfl (B.d hd) rfl (feq q).1 k) (K2 q)
theorem g_if_eq (X : Stand p l e R s m args below meth c T locs cells slots) (B : Bdy p s m meth c Z a0 own nm bytes maxL rt tabs) {x : Int32} {o : Int} {pcT pcF : Nat} (hd : decode bytes pc = .ok (.ifCond .eq o, 3)) (ho : 0 ≤ (pc : Int) + o) (hT : ((pc : Int) + o).toNat = pcT) (hF : pc + 3 = pcF) (K1 : x = (0 : Int32) → Go p e below s nc ns Q (T.setTop (mkF m pcT Ls St))) (K2 : ¬ x = (0 : Int32) → Go p e below s nc ns Q (T.setTop (mkF m pcF Ls St))) : Go p e below s nc ns Q (T.setTop (mkF m pc Ls (.int x :: St))) := by
  by_cases q : x = (0 : Int32)
  · exact Go.step (fun t k => XS.ifYes X.here B.x (g := mkF m pc Ls (.int x :: St)) rfl rfl (B.d hd) rfl ((if0 _ _).trans (teq q).1) ho hT k) (K1 q)
  · subst hF; exact Go.step (fun t k => XS.ifNo X.here B.x (g := mkF m pc Ls (.int x :: St)) rfl (B.d hd) rfl ((if0 _ _).trans (feq q).1) k) (K2 q)
theorem g_lcmp_eq (X : Stand p l e R s m args below meth c T locs cells slots) (B : Bdy p s m meth c Z a0 own nm bytes maxL rt tabs) {x y : Int64} {o : Int} {pcT pcF : Nat} (hd1 : decode bytes pc = .ok (.lcmp, 1)) (hd : decode bytes (pc + 1) = .ok (.ifCond .eq o, 3)) (ho : 0 ≤ ((pc + 1 : Nat) : Int) + o) (hT : (((pc + 1 : Nat) : Int) + o).toNat = pcT) (hF : pc + 4 = pcF) (K1 : x = y → Go p e below s nc ns Q (T.setTop (mkF m pcT Ls St))) (K2 : ¬ x = y → Go p e below s nc ns Q (T.setTop (mkF m pcF Ls St))) : Go p e below s nc ns Q (T.setTop (mkF m pc Ls (.long y :: .long x :: St))) :=
  Go.step (fun t q => XS.lcmp X.here B.x (g := mkF m pc Ls (.long y :: .long x :: St)) rfl (B.d hd1) rfl q) (g_if_eq X B hd ho hT hF (fun q => K1 ((lw_eq x y).mp q)) (fun q => K2 fun z => q ((lw_eq x y).mpr z)))
theorem g_icmp_ne (X : Stand p l e R s m args below meth c T locs cells slots) (B : Bdy p s m meth c Z a0 own nm bytes maxL rt tabs) {x y : Int32} {o : Int} {pcT pcF : Nat} (hd : decode bytes pc = .ok (.if_icmp .ne o, 3)) (ho : 0 ≤ (pc : Int) + o) (hT : ((pc : Int) + o).toNat = pcT) (hF : pc + 3 = pcF) (K1 : x = y → Go p e below s nc ns Q (T.setTop (mkF m pcF Ls St))) (K2 : ¬ x = y → Go p e below s nc ns Q (T.setTop (mkF m pcT Ls St))) : Go p e below s nc ns Q (T.setTop (mkF m pc Ls (.int y :: .int x :: St))) := by
  by_cases q : x = y
  · subst hF; exact Go.step (fun t k => XS.icmpNo X.here B.x (g := mkF m pc Ls (.int y :: .int x :: St)) rfl (B.d hd) rfl (teq q).2 k) (K1 q)
  · exact Go.step (fun t k => XS.icmpYes X.here B.x (g := mkF m pc Ls (.int y :: .int x :: St)) rfl rfl (B.d hd) rfl (feq q).2 ho hT k) (K2 q)
theorem g_if_ne (X : Stand p l e R s m args below meth c T locs cells slots) (B : Bdy p s m meth c Z a0 own nm bytes maxL rt tabs) {x : Int32} {o : Int} {pcT pcF : Nat} (hd : decode bytes pc = .ok (.ifCond .ne o, 3)) (ho : 0 ≤ (pc : Int) + o) (hT : ((pc : Int) + o).toNat = pcT) (hF : pc + 3 = pcF) (K1 : x = (0 : Int32) → Go p e below s nc ns Q (T.setTop (mkF m pcF Ls St))) (K2 : ¬ x = (0 : Int32) → Go p e below s nc ns Q (T.setTop (mkF m pcT Ls St))) : Go p e below s nc ns Q (T.setTop (mkF m pc Ls (.int x :: St))) := by
  by_cases q : x = (0 : Int32)
  · subst hF; exact Go.step (fun t k => XS.ifNo X.here B.x (g := mkF m pc Ls (.int x :: St)) rfl (B.d hd) rfl ((if0 _ _).trans (teq q).2) k) (K1 q)
  · exact Go.step (fun t k => XS.ifYes X.here B.x (g := mkF m pc Ls (.int x :: St)) rfl rfl (B.d hd) rfl ((if0 _ _).trans (feq q).2) ho hT k) (K2 q)
theorem g_lcmp_ne (X : Stand p l e R s m args below meth c T locs cells slots) (B : Bdy p s m meth c Z a0 own nm bytes maxL rt tabs) {x y : Int64} {o : Int} {pcT pcF : Nat} (hd1 : decode bytes pc = .ok (.lcmp, 1)) (hd : decode bytes (pc + 1) = .ok (.ifCond .ne o, 3)) (ho : 0 ≤ ((pc + 1 : Nat) : Int) + o) (hT : (((pc + 1 : Nat) : Int) + o).toNat = pcT) (hF : pc + 4 = pcF) (K1 : x = y → Go p e below s nc ns Q (T.setTop (mkF m pcF Ls St))) (K2 : ¬ x = y → Go p e below s nc ns Q (T.setTop (mkF m pcT Ls St))) : Go p e below s nc ns Q (T.setTop (mkF m pc Ls (.long y :: .long x :: St))) :=
  Go.step (fun t q => XS.lcmp X.here B.x (g := mkF m pc Ls (.long y :: .long x :: St)) rfl (B.d hd1) rfl q) (g_if_ne X B hd ho hT hF (fun q => K1 ((lw_eq x y).mp q)) (fun q => K2 fun z => q ((lw_eq x y).mpr z)))
/-! ends -/
theorem g_ret0 (X : Stand p l e R s m args below meth c T locs cells slots) (B : Bdy p s m meth c Z a0 own nm bytes maxL rt tabs) (hr : rt = none) (hd : decode bytes pc = .ok (.return_, 1)) (hc : cells ≤ nc) (hs : slots ≤ ns) (q : Q none T.heap locs) : Go p e below s nc ns Q (T.setTop (mkF m pc Ls [])) := by
  subst hr
  obtain ⟨fs, hr, hrun, hended, hW, hsame⟩ := X.leave (v := none) (fun _ => rfl) B.lk
  exact ⟨_, _, X.returnOut B.x B.r (B.d hd) hr, hrun, hended, _, _, rfl, q, ⟨_, rfl⟩, hW, hsame.mono hc hs⟩
theorem g_retV (X : Stand p l e R s m args below meth c T locs cells slots) (B : Bdy p s m meth c Z a0 own nm bytes maxL rt tabs) {w : Value} {t : FieldType} {i : Instr} (hr : rt = some t) (hn : narrow t w = w)
    (hi : (i = .ireturn ∧ (t = .int ∨ t = .boolean ∨ t = .byte ∨ t = .char ∨ t = .short) ∧ ∃ z, w = .int z) ∨ (i = .lreturn ∧ t = .long ∧ ∃ z, w = .long z) ∨ (i = .dreturn ∧ t = .double ∧ ∃ z, w = .double z) ∨ (i = .freturn ∧ t = .float ∧ ∃ z, w = .float z) ∨ (i = .areturn ∧ t.isReference = true ∧ w.isRef = true))
    (hd : decode bytes pc = .ok (i, 1)) (hc : cells ≤ nc) (hs : slots ≤ ns) (q : Q (some w) T.heap locs) : Go p e below s nc ns Q (T.setTop (mkF m pc Ls (w :: St))) := by
  subst hr
  obtain ⟨fs, hr, hrun, hended, hW, hsame⟩ := X.leave (v := some w) (fun h => by rw [B.r] at h; cases h) B.lk
  exact ⟨_, _, retOut X B.x B.r hn hi (B.d hd) hr, hrun, hended, _, _, rfl, q, ⟨_, rfl⟩, hW, hsame.mono hc hs⟩
theorem g_retI (X : Stand p l e R s m args below meth c T locs cells slots) (B : Bdy p s m meth c Z a0 own nm bytes maxL rt tabs) {z : Int32} (hr : rt = some .int) (hd : decode bytes pc = .ok (.ireturn, 1)) (hc : cells ≤ nc) (hs : slots ≤ ns) (q : Q (some (.int z)) T.heap locs) : Go p e below s nc ns Q (T.setTop (mkF m pc Ls (.int z :: St))) :=
  g_retV X B hr rfl (Or.inl ⟨rfl, Or.inl rfl, z, rfl⟩) hd hc hs q
theorem g_retL (X : Stand p l e R s m args below meth c T locs cells slots) (B : Bdy p s m meth c Z a0 own nm bytes maxL rt tabs) {z : Int64} (hr : rt = some .long) (hd : decode bytes pc = .ok (.lreturn, 1)) (hc : cells ≤ nc) (hs : slots ≤ ns) (q : Q (some (.long z)) T.heap locs) : Go p e below s nc ns Q (T.setTop (mkF m pc Ls (.long z :: St))) :=
  g_retV X B hr rfl (Or.inr (Or.inl ⟨rfl, rfl, z, rfl⟩)) hd hc hs q
theorem g_retA (X : Stand p l e R s m args below meth c T locs cells slots) (B : Bdy p s m meth c Z a0 own nm bytes maxL rt tabs) {w : Value} {t : FieldType} (hr : rt = some t) (ht : t.isReference = true) (hw : w.isRef = true) (hn : narrow t w = w) (hd : decode bytes pc = .ok (.areturn, 1)) (hc : cells ≤ nc) (hs : slots ≤ ns) (q : Q (some w) T.heap locs) : Go p e below s nc ns Q (T.setTop (mkF m pc Ls (w :: St))) :=
  g_retV X B hr hn (Or.inr (Or.inr (Or.inr (Or.inr ⟨rfl, ht, hw⟩)))) hd hc hs q
theorem g_retN (X : Stand p l e R s m args below meth c T locs cells slots) (B : Bdy p s m meth c Z a0 own nm bytes maxL rt tabs) {z : Int32} {t : FieldType} (hr : rt = some t) (ht : t = .boolean ∨ t = .byte ∨ t = .char ∨ t = .short) (hd : decode bytes pc = .ok (.ireturn, 1)) (hc : cells ≤ nc) (hs : slots ≤ ns) (q : Q (some (.int (nar t z))) T.heap locs) : Go p e below s nc ns Q (T.setTop (mkF m pc Ls (.int z :: St))) := by
  subst hr
  obtain ⟨fs, hr, hrun, hended, hW, hsame⟩ := X.leave (v := some (.int (nar t z))) (fun h => by rw [B.r] at h; cases h) B.lk
  exact ⟨_, _, retN X B.x B.r ht (B.d hd) hr, hrun, hended, _, _, rfl, q, ⟨_, rfl⟩, hW, hsame.mono hc hs⟩
/-! calls -/
abbrev Met (l : Launch) (Z : State) (y : MethodName) (yb : ByteArray) (ym : Nat) (yr : Option FieldType) (ws : List Jvm.Cond) (rm : Room) (as : Array Value) (h : Heap) (Qc : Option Value → Heap → List Loc → Prop) : Prop :=
  MetFree l y (head1 (Jvm.Cond.code y yb ym yr :: ws) rm) (fun a U => a = as ∧ Z.Warmed39 U.vm ∧ U.heap = h) (fun _ _ _ _ _ => True) (fun _ U o U' => ∃ v L, o = .returned v ∧ Qc v U'.heap L ∧ FrameEnd U o U' L rm.cells rm.slots)
theorem met_of {y : MethodName} {rm : Room} {as : Array Value} {ws : List Jvm.Cond} (hpl : plainFor y = true) (hw : ∀ d ∈ tabs, d.before a0 Z = true)
    (body : ∀ (p : Program) (e : Env) (s : State) (m : MethodId) (below : List Frame) (meth : Method) (c : Code) (T : State), Stand p l e rm s m as below meth c T [] 0 0 → Bdy p s m meth c Z a0 y.cls y.name bytes maxL rt tabs → T.heap = h → Go p e below s rm.cells rm.slots Q (T.setTop (entryFrame m as maxL))) :
    Met l Z y bytes maxL rt ws rm as h Q := by
  refine MetFree.of_bodySF hpl hisR ?_
  intro p e s m args below meth c s₁ Bd hml0 hP hK
  obtain ⟨rfl, hZ, hh⟩ := hP
  exact body p e s m below meth c s₁ (Stand.of_body Bd) ⟨Bd.exec, hZ, hw, Bd.bytes, hml0, findClass_of_methodNamed Bd.named, Bd.returns, BodyLoose.notSynchronized Bd, (name_of_methodNamed Bd.named Bd.method).1⟩ (by rw [← hh, Bd.state]; rfl)
theorem g_callS (X : Stand p l e R s m args below meth c T locs cells slots) (B : Bdy p s m meth c Z a0 own nm bytes maxL rt tabs) {y : MethodName} {i : Nat} {yb : ByteArray} {ym : Nat} {yr : Option FieldType} {rm : Room} {argsL rest : List Value} {Qc : Option Value → Heap → List Loc → Prop} (eT : T.heap = h) (W : Nat)
    (w1 : (Jvm.Cond.methodLink own i y).before a0 Z = true) (w2 : (Jvm.Cond.static y).before a0 Z = true) (w3 : (Jvm.Cond.initialized y.cls).before a0 Z = true) (w4 : (Jvm.Cond.code y yb ym yr).before a0 Z = true) (hy : y.cls ≠ "java/lang/invoke/MethodHandle" ∧ y.cls ≠ "java/lang/invoke/VarHandle")
    (M : Met l Z y yb ym yr [] rm argsL.toArray h Qc) (hf : rm.frames + 1 ≤ R.frames) (hl : W + (ym + 11) + rm.locals ≤ R.locals) (hc : cells + rm.cells ≤ R.cells) (hs : slots + rm.slots ≤ R.slots)
    (hsz : Ls.size = maxL) (hlen : ∀ sig, parseMethodDescriptor y.desc = some sig → argsL.length = sig.parameters.length) (hst : St = argsL.reverse ++ rest) (hW : (rest.map fun v => v.category).sum ≤ W) (hd : decode bytes pc = .ok (.invokestatic i, 3)) (hp : pc + 3 = pc')
    (K : ∀ (T' : State) (v : Option Value) (L : List Loc), Stand p l e R s m args below meth c T' (locs ++ L) (cells + rm.cells) (slots + rm.slots) → Qc v T'.heap L → Go p e below s nc ns Q (T'.setTop (mkF m pc' Ls (v.toList ++ rest)))) : Go p e below s nc ns Q (T.setTop (mkF m pc Ls St)) := by
  subst hp
  obtain ⟨v, _, ⟨T', L', k', n'⟩, -, X', ⟨Lc, hQ, l', y', z'⟩, st⟩ := Jvm.LawKit.callS X B.x (y := y) B.o (mvT B.z w1) (mvT B.z w2) (mvT B.z w3) (mvT B.z w4) hy (backOf (W := W) M B.z w4 w3 hf hl) (g := mkF m pc Ls St) rfl (by rw [B.ml]; exact hsz) (argsL := argsL) (rest := rest) hlen hst (by show 2 * 0 + _ ≤ _; omega) (B.d hd) (fun _ _ => ⟨rfl, eT, hc, hs⟩)
  dsimp only [Pt.U, Pt.locs, Pt.cells, Pt.slots] at X' l' y' z' st hQ
  subst l' y' z'
  exact Go.step st (K T' v Lc X' hQ)
theorem g_callP (X : Stand p l e R s m args below meth c T locs cells slots) (B : Bdy p s m meth c Z a0 own nm bytes maxL rt tabs) {y : MethodName} {i : Nat} {yb : ByteArray} {ym : Nat} {yr : Option FieldType} {fr lo : Nat} {argsL rest : List Value} {w : Value} (eT : T.heap = h) (W : Nat)
    (w1 : (Jvm.Cond.methodLink own i y).before a0 Z = true) (w2 : (Jvm.Cond.static y).before a0 Z = true) (w3 : (Jvm.Cond.initialized y.cls).before a0 Z = true) (w4 : (Jvm.Cond.code y yb ym yr).before a0 Z = true) (hy : y.cls ≠ "java/lang/invoke/MethodHandle" ∧ y.cls ≠ "java/lang/invoke/VarHandle")
    (M : Met l Z y yb ym yr [] ⟨fr, 0, 0, lo⟩ argsL.toArray h (PQ (some w) h [])) (hf : fr + 1 ≤ R.frames) (hl : W + (ym + 11) + lo ≤ R.locals) (hc : cells ≤ R.cells) (hs : slots ≤ R.slots)
    (hsz : Ls.size = maxL) (hlen : ∀ sig, parseMethodDescriptor y.desc = some sig → argsL.length = sig.parameters.length) (hst : St = argsL.reverse ++ rest) (hW : (rest.map fun v => v.category).sum ≤ W) (hd : decode bytes pc = .ok (.invokestatic i, 3)) (hp : pc + 3 = pc')
    (K : ∀ (T' : State), Stand p l e R s m args below meth c T' locs cells slots → T'.heap = h → Go p e below s nc ns Q (T'.setTop (mkF m pc' Ls (w :: rest)))) : Go p e below s nc ns Q (T.setTop (mkF m pc Ls St)) := by
  refine g_callS X B eT W w1 w2 w3 w4 hy M hf hl hc hs hsz hlen hst hW hd hp fun T' v L X' q => ?_
  obtain ⟨rfl, q2, rfl⟩ := q
  rw [List.append_nil] at X'
  exact K T' X' q2
end GoKit
theorem own_pd0 : parseMethodDescriptor "(J)J" = some ⟨[.long], some .long⟩ := by decide +kernel
theorem inv_d0 : decode method_2_code 0 = .ok (.lload_n 0, 1) := by decide +kernel
theorem inv_d1 : decode method_2_code 1 = .ok (.lstore_n 2, 1) := by decide +kernel
theorem inv_d2 : decode method_2_code 2 = .ok (.lload_n 2, 1) := by decide +kernel
theorem inv_d3 : decode method_2_code 3 = .ok (.ldc2_w 7, 3) := by decide +kernel
theorem inv_d6 : decode method_2_code 6 = .ok (.lload_n 0, 1) := by decide +kernel
theorem inv_d7 : decode method_2_code 7 = .ok (.lload_n 2, 1) := by decide +kernel
theorem inv_d8 : decode method_2_code 8 = .ok (.lmul, 1) := by decide +kernel
theorem inv_d9 : decode method_2_code 9 = .ok (.lsub, 1) := by decide +kernel
theorem inv_d10 : decode method_2_code 10 = .ok (.lmul, 1) := by decide +kernel
theorem inv_d11 : decode method_2_code 11 = .ok (.lstore_n 2, 1) := by decide +kernel
theorem inv_d12 : decode method_2_code 12 = .ok (.lload_n 2, 1) := by decide +kernel
theorem inv_d13 : decode method_2_code 13 = .ok (.ldc2_w 7, 3) := by decide +kernel
theorem inv_d16 : decode method_2_code 16 = .ok (.lload_n 0, 1) := by decide +kernel
theorem inv_d17 : decode method_2_code 17 = .ok (.lload_n 2, 1) := by decide +kernel
theorem inv_d18 : decode method_2_code 18 = .ok (.lmul, 1) := by decide +kernel
theorem inv_d19 : decode method_2_code 19 = .ok (.lsub, 1) := by decide +kernel
theorem inv_d20 : decode method_2_code 20 = .ok (.lmul, 1) := by decide +kernel
theorem inv_d21 : decode method_2_code 21 = .ok (.lstore_n 2, 1) := by decide +kernel
theorem inv_d22 : decode method_2_code 22 = .ok (.lload_n 2, 1) := by decide +kernel
theorem inv_d23 : decode method_2_code 23 = .ok (.ldc2_w 7, 3) := by decide +kernel
theorem inv_d26 : decode method_2_code 26 = .ok (.lload_n 0, 1) := by decide +kernel
theorem inv_d27 : decode method_2_code 27 = .ok (.lload_n 2, 1) := by decide +kernel
theorem inv_d28 : decode method_2_code 28 = .ok (.lmul, 1) := by decide +kernel
theorem inv_d29 : decode method_2_code 29 = .ok (.lsub, 1) := by decide +kernel
theorem inv_d30 : decode method_2_code 30 = .ok (.lmul, 1) := by decide +kernel
theorem inv_d31 : decode method_2_code 31 = .ok (.lstore_n 2, 1) := by decide +kernel
theorem inv_d32 : decode method_2_code 32 = .ok (.lload_n 2, 1) := by decide +kernel
theorem inv_d33 : decode method_2_code 33 = .ok (.ldc2_w 7, 3) := by decide +kernel
theorem inv_d36 : decode method_2_code 36 = .ok (.lload_n 0, 1) := by decide +kernel
theorem inv_d37 : decode method_2_code 37 = .ok (.lload_n 2, 1) := by decide +kernel
theorem inv_d38 : decode method_2_code 38 = .ok (.lmul, 1) := by decide +kernel
theorem inv_d39 : decode method_2_code 39 = .ok (.lsub, 1) := by decide +kernel
theorem inv_d40 : decode method_2_code 40 = .ok (.lmul, 1) := by decide +kernel
theorem inv_d41 : decode method_2_code 41 = .ok (.lstore_n 2, 1) := by decide +kernel
theorem inv_d42 : decode method_2_code 42 = .ok (.lload_n 2, 1) := by decide +kernel
theorem inv_d43 : decode method_2_code 43 = .ok (.ldc2_w 7, 3) := by decide +kernel
theorem inv_d46 : decode method_2_code 46 = .ok (.lload_n 0, 1) := by decide +kernel
theorem inv_d47 : decode method_2_code 47 = .ok (.lload_n 2, 1) := by decide +kernel
theorem inv_d48 : decode method_2_code 48 = .ok (.lmul, 1) := by decide +kernel
theorem inv_d49 : decode method_2_code 49 = .ok (.lsub, 1) := by decide +kernel
theorem inv_d50 : decode method_2_code 50 = .ok (.lmul, 1) := by decide +kernel
theorem inv_d51 : decode method_2_code 51 = .ok (.lstore_n 2, 1) := by decide +kernel
theorem inv_d52 : decode method_2_code 52 = .ok (.lload_n 2, 1) := by decide +kernel
theorem inv_d53 : decode method_2_code 53 = .ok (.ldc2_w 7, 3) := by decide +kernel
theorem inv_d56 : decode method_2_code 56 = .ok (.lload_n 0, 1) := by decide +kernel
theorem inv_d57 : decode method_2_code 57 = .ok (.lload_n 2, 1) := by decide +kernel
theorem inv_d58 : decode method_2_code 58 = .ok (.lmul, 1) := by decide +kernel
theorem inv_d59 : decode method_2_code 59 = .ok (.lsub, 1) := by decide +kernel
theorem inv_d60 : decode method_2_code 60 = .ok (.lmul, 1) := by decide +kernel
theorem inv_d61 : decode method_2_code 61 = .ok (.lstore_n 2, 1) := by decide +kernel
theorem inv_d62 : decode method_2_code 62 = .ok (.lload_n 2, 1) := by decide +kernel
theorem inv_d63 : decode method_2_code 63 = .ok (.lreturn, 1) := by decide +kernel
def inv_f62 (j2 : Int64) : Int64 := j2
theorem inv_b62 {p : Program} {l : Launch} {e : Env} {s : State} {m : MethodId} {args : Array Value} {below : List Frame} {meth : Method} {c : Code} {T : State} {Z : State} {a0 : Array Value} {h : Heap} {locs : List Loc} {cells slots : Nat} (X : Stand p l e (⟨0, 0, 0, 0⟩ : Room) s m args below meth c T locs cells slots) (hc : cells ≤ ((⟨0, 0, 0, 0⟩ : Room)).cells) (hs : slots ≤ ((⟨0, 0, 0, 0⟩ : Room)).slots) (B : Bdy p s m meth c Z a0 "com/example/vouch/vouch/MurmurHash3FinalMixPinLaw" "inverseOf" method_2_code 4 (some .long) tables_1) (eT : T.heap = h) (j0 : Int64) (j2 : Int64)  :
    Go p e below s cells slots (PQ (some (.long (inv_f62 j2))) h locs) (T.setTop (mkF m 62 #[.val (.long j0), .second, .val (.long j2), .second] [])) := by
  refine g_lloadN X B inv_d62 (pc' := 63) rfl (v := j2) rfl ?_
  exact g_retL X B rfl inv_d63 (Nat.le_refl _) (Nat.le_refl _) ⟨congrArg (fun z => some (Value.long z)) (Eq.symm (by rw [inv_f62])), eT, rfl⟩
def inv_f52 (j0 : Int64) (j2 : Int64) : Int64 := (inv_f62 (j2 * ((2 : Int64) - (j0 * j2))))
theorem inv_b52 {p : Program} {l : Launch} {e : Env} {s : State} {m : MethodId} {args : Array Value} {below : List Frame} {meth : Method} {c : Code} {T : State} {Z : State} {a0 : Array Value} {h : Heap} {locs : List Loc} {cells slots : Nat} (X : Stand p l e (⟨0, 0, 0, 0⟩ : Room) s m args below meth c T locs cells slots) (hc : cells ≤ ((⟨0, 0, 0, 0⟩ : Room)).cells) (hs : slots ≤ ((⟨0, 0, 0, 0⟩ : Room)).slots) (B : Bdy p s m meth c Z a0 "com/example/vouch/vouch/MurmurHash3FinalMixPinLaw" "inverseOf" method_2_code 4 (some .long) tables_1) (eT : T.heap = h) (j0 : Int64) (j2 : Int64)  :
    Go p e below s cells slots (PQ (some (.long (inv_f52 j0 j2))) h locs) (T.setTop (mkF m 52 #[.val (.long j0), .second, .val (.long j2), .second] [])) := by
  refine g_lloadN X B inv_d52 (pc' := 53) rfl (v := j2) rfl ?_
  refine g_ldc2 X B (B.w 6 rfl) inv_d53 (pc' := 56) rfl ?_
  refine g_lloadN X B inv_d56 (pc' := 57) rfl (v := j0) rfl ?_
  refine g_lloadN X B inv_d57 (pc' := 58) rfl (v := j2) rfl ?_
  refine g_lmul X B inv_d58 (pc' := 59) rfl ?_
  refine g_lsub X B inv_d59 (pc' := 60) rfl ?_
  refine g_lmul X B inv_d60 (pc' := 61) rfl ?_
  refine g_lstoreN X B inv_d61 (pc' := 62) rfl (Ls' := #[.val (.long j0), .second, .val (.long (j2 * ((2 : Int64) - (j0 * j2)))), .second]) rfl ?_
  exact Go.cw (congrArg (fun z => some (Value.long z)) (Eq.symm (by rw [inv_f52]))) (inv_b62 X hc hs B eT j0 (j2 * ((2 : Int64) - (j0 * j2))))
def inv_f42 (j0 : Int64) (j2 : Int64) : Int64 := (inv_f52 j0 (j2 * ((2 : Int64) - (j0 * j2))))
theorem inv_b42 {p : Program} {l : Launch} {e : Env} {s : State} {m : MethodId} {args : Array Value} {below : List Frame} {meth : Method} {c : Code} {T : State} {Z : State} {a0 : Array Value} {h : Heap} {locs : List Loc} {cells slots : Nat} (X : Stand p l e (⟨0, 0, 0, 0⟩ : Room) s m args below meth c T locs cells slots) (hc : cells ≤ ((⟨0, 0, 0, 0⟩ : Room)).cells) (hs : slots ≤ ((⟨0, 0, 0, 0⟩ : Room)).slots) (B : Bdy p s m meth c Z a0 "com/example/vouch/vouch/MurmurHash3FinalMixPinLaw" "inverseOf" method_2_code 4 (some .long) tables_1) (eT : T.heap = h) (j0 : Int64) (j2 : Int64)  :
    Go p e below s cells slots (PQ (some (.long (inv_f42 j0 j2))) h locs) (T.setTop (mkF m 42 #[.val (.long j0), .second, .val (.long j2), .second] [])) := by
  refine g_lloadN X B inv_d42 (pc' := 43) rfl (v := j2) rfl ?_
  refine g_ldc2 X B (B.w 6 rfl) inv_d43 (pc' := 46) rfl ?_
  refine g_lloadN X B inv_d46 (pc' := 47) rfl (v := j0) rfl ?_
  refine g_lloadN X B inv_d47 (pc' := 48) rfl (v := j2) rfl ?_
  refine g_lmul X B inv_d48 (pc' := 49) rfl ?_
  refine g_lsub X B inv_d49 (pc' := 50) rfl ?_
  refine g_lmul X B inv_d50 (pc' := 51) rfl ?_
  refine g_lstoreN X B inv_d51 (pc' := 52) rfl (Ls' := #[.val (.long j0), .second, .val (.long (j2 * ((2 : Int64) - (j0 * j2)))), .second]) rfl ?_
  exact Go.cw (congrArg (fun z => some (Value.long z)) (Eq.symm (by rw [inv_f42]))) (inv_b52 X hc hs B eT j0 (j2 * ((2 : Int64) - (j0 * j2))))
def inv_f32 (j0 : Int64) (j2 : Int64) : Int64 := (inv_f42 j0 (j2 * ((2 : Int64) - (j0 * j2))))
theorem inv_b32 {p : Program} {l : Launch} {e : Env} {s : State} {m : MethodId} {args : Array Value} {below : List Frame} {meth : Method} {c : Code} {T : State} {Z : State} {a0 : Array Value} {h : Heap} {locs : List Loc} {cells slots : Nat} (X : Stand p l e (⟨0, 0, 0, 0⟩ : Room) s m args below meth c T locs cells slots) (hc : cells ≤ ((⟨0, 0, 0, 0⟩ : Room)).cells) (hs : slots ≤ ((⟨0, 0, 0, 0⟩ : Room)).slots) (B : Bdy p s m meth c Z a0 "com/example/vouch/vouch/MurmurHash3FinalMixPinLaw" "inverseOf" method_2_code 4 (some .long) tables_1) (eT : T.heap = h) (j0 : Int64) (j2 : Int64)  :
    Go p e below s cells slots (PQ (some (.long (inv_f32 j0 j2))) h locs) (T.setTop (mkF m 32 #[.val (.long j0), .second, .val (.long j2), .second] [])) := by
  refine g_lloadN X B inv_d32 (pc' := 33) rfl (v := j2) rfl ?_
  refine g_ldc2 X B (B.w 6 rfl) inv_d33 (pc' := 36) rfl ?_
  refine g_lloadN X B inv_d36 (pc' := 37) rfl (v := j0) rfl ?_
  refine g_lloadN X B inv_d37 (pc' := 38) rfl (v := j2) rfl ?_
  refine g_lmul X B inv_d38 (pc' := 39) rfl ?_
  refine g_lsub X B inv_d39 (pc' := 40) rfl ?_
  refine g_lmul X B inv_d40 (pc' := 41) rfl ?_
  refine g_lstoreN X B inv_d41 (pc' := 42) rfl (Ls' := #[.val (.long j0), .second, .val (.long (j2 * ((2 : Int64) - (j0 * j2)))), .second]) rfl ?_
  exact Go.cw (congrArg (fun z => some (Value.long z)) (Eq.symm (by rw [inv_f32]))) (inv_b42 X hc hs B eT j0 (j2 * ((2 : Int64) - (j0 * j2))))
def inv_f22 (j0 : Int64) (j2 : Int64) : Int64 := (inv_f32 j0 (j2 * ((2 : Int64) - (j0 * j2))))
theorem inv_b22 {p : Program} {l : Launch} {e : Env} {s : State} {m : MethodId} {args : Array Value} {below : List Frame} {meth : Method} {c : Code} {T : State} {Z : State} {a0 : Array Value} {h : Heap} {locs : List Loc} {cells slots : Nat} (X : Stand p l e (⟨0, 0, 0, 0⟩ : Room) s m args below meth c T locs cells slots) (hc : cells ≤ ((⟨0, 0, 0, 0⟩ : Room)).cells) (hs : slots ≤ ((⟨0, 0, 0, 0⟩ : Room)).slots) (B : Bdy p s m meth c Z a0 "com/example/vouch/vouch/MurmurHash3FinalMixPinLaw" "inverseOf" method_2_code 4 (some .long) tables_1) (eT : T.heap = h) (j0 : Int64) (j2 : Int64)  :
    Go p e below s cells slots (PQ (some (.long (inv_f22 j0 j2))) h locs) (T.setTop (mkF m 22 #[.val (.long j0), .second, .val (.long j2), .second] [])) := by
  refine g_lloadN X B inv_d22 (pc' := 23) rfl (v := j2) rfl ?_
  refine g_ldc2 X B (B.w 6 rfl) inv_d23 (pc' := 26) rfl ?_
  refine g_lloadN X B inv_d26 (pc' := 27) rfl (v := j0) rfl ?_
  refine g_lloadN X B inv_d27 (pc' := 28) rfl (v := j2) rfl ?_
  refine g_lmul X B inv_d28 (pc' := 29) rfl ?_
  refine g_lsub X B inv_d29 (pc' := 30) rfl ?_
  refine g_lmul X B inv_d30 (pc' := 31) rfl ?_
  refine g_lstoreN X B inv_d31 (pc' := 32) rfl (Ls' := #[.val (.long j0), .second, .val (.long (j2 * ((2 : Int64) - (j0 * j2)))), .second]) rfl ?_
  exact Go.cw (congrArg (fun z => some (Value.long z)) (Eq.symm (by rw [inv_f22]))) (inv_b32 X hc hs B eT j0 (j2 * ((2 : Int64) - (j0 * j2))))
def inv_f12 (j0 : Int64) (j2 : Int64) : Int64 := (inv_f22 j0 (j2 * ((2 : Int64) - (j0 * j2))))
theorem inv_b12 {p : Program} {l : Launch} {e : Env} {s : State} {m : MethodId} {args : Array Value} {below : List Frame} {meth : Method} {c : Code} {T : State} {Z : State} {a0 : Array Value} {h : Heap} {locs : List Loc} {cells slots : Nat} (X : Stand p l e (⟨0, 0, 0, 0⟩ : Room) s m args below meth c T locs cells slots) (hc : cells ≤ ((⟨0, 0, 0, 0⟩ : Room)).cells) (hs : slots ≤ ((⟨0, 0, 0, 0⟩ : Room)).slots) (B : Bdy p s m meth c Z a0 "com/example/vouch/vouch/MurmurHash3FinalMixPinLaw" "inverseOf" method_2_code 4 (some .long) tables_1) (eT : T.heap = h) (j0 : Int64) (j2 : Int64)  :
    Go p e below s cells slots (PQ (some (.long (inv_f12 j0 j2))) h locs) (T.setTop (mkF m 12 #[.val (.long j0), .second, .val (.long j2), .second] [])) := by
  refine g_lloadN X B inv_d12 (pc' := 13) rfl (v := j2) rfl ?_
  refine g_ldc2 X B (B.w 6 rfl) inv_d13 (pc' := 16) rfl ?_
  refine g_lloadN X B inv_d16 (pc' := 17) rfl (v := j0) rfl ?_
  refine g_lloadN X B inv_d17 (pc' := 18) rfl (v := j2) rfl ?_
  refine g_lmul X B inv_d18 (pc' := 19) rfl ?_
  refine g_lsub X B inv_d19 (pc' := 20) rfl ?_
  refine g_lmul X B inv_d20 (pc' := 21) rfl ?_
  refine g_lstoreN X B inv_d21 (pc' := 22) rfl (Ls' := #[.val (.long j0), .second, .val (.long (j2 * ((2 : Int64) - (j0 * j2)))), .second]) rfl ?_
  exact Go.cw (congrArg (fun z => some (Value.long z)) (Eq.symm (by rw [inv_f12]))) (inv_b22 X hc hs B eT j0 (j2 * ((2 : Int64) - (j0 * j2))))
def inv_f0 (j0 : Int64) : Int64 := (inv_f12 j0 (j0 * ((2 : Int64) - (j0 * j0))))
theorem inv_b0 {p : Program} {l : Launch} {e : Env} {s : State} {m : MethodId} {args : Array Value} {below : List Frame} {meth : Method} {c : Code} {T : State} {Z : State} {a0 : Array Value} {h : Heap} {locs : List Loc} {cells slots : Nat} (X : Stand p l e (⟨0, 0, 0, 0⟩ : Room) s m args below meth c T locs cells slots) (hc : cells ≤ ((⟨0, 0, 0, 0⟩ : Room)).cells) (hs : slots ≤ ((⟨0, 0, 0, 0⟩ : Room)).slots) (B : Bdy p s m meth c Z a0 "com/example/vouch/vouch/MurmurHash3FinalMixPinLaw" "inverseOf" method_2_code 4 (some .long) tables_1) (eT : T.heap = h) (j0 : Int64)  :
    Go p e below s cells slots (PQ (some (.long (inv_f0 j0))) h locs) (T.setTop (mkF m 0 #[.val (.long j0), .second, .unset, .unset] [])) := by
  refine g_lloadN X B inv_d0 (pc' := 1) rfl (v := j0) rfl ?_
  refine g_lstoreN X B inv_d1 (pc' := 2) rfl (Ls' := #[.val (.long j0), .second, .val (.long j0), .second]) rfl ?_
  refine g_lloadN X B inv_d2 (pc' := 3) rfl (v := j0) rfl ?_
  refine g_ldc2 X B (B.w 6 rfl) inv_d3 (pc' := 6) rfl ?_
  refine g_lloadN X B inv_d6 (pc' := 7) rfl (v := j0) rfl ?_
  refine g_lloadN X B inv_d7 (pc' := 8) rfl (v := j0) rfl ?_
  refine g_lmul X B inv_d8 (pc' := 9) rfl ?_
  refine g_lsub X B inv_d9 (pc' := 10) rfl ?_
  refine g_lmul X B inv_d10 (pc' := 11) rfl ?_
  refine g_lstoreN X B inv_d11 (pc' := 12) rfl (Ls' := #[.val (.long j0), .second, .val (.long (j0 * ((2 : Int64) - (j0 * j0)))), .second]) rfl ?_
  exact Go.cw (congrArg (fun z => some (Value.long z)) (Eq.symm (by rw [inv_f0]))) (inv_b12 X hc hs B eT j0 (j0 * ((2 : Int64) - (j0 * j0))))
theorem own_pn_inv : plainFor (⟨"com/example/vouch/vouch/MurmurHash3FinalMixPinLaw", "inverseOf", "(J)J"⟩ : MethodName) = true := plainFor_of_name (by first | (simp [plainName, overriddenIn]; done) | decide +kernel)
theorem own_ef_inv (m : MethodId) (j0 : Int64) : entryFrame m #[(.long j0)] 4 = (mkF m 0 #[.val (.long j0), .second, .unset, .unset] []) := by first | (simp [entryFrame, mkF, argsToLocals, Value.category]; done) | rfl
theorem inv_met (l : Launch) (Z : State) (a0 : Array Value) (hw : ∀ d ∈ tables_1, d.before a0 Z = true) (ws : List Jvm.Cond) (h : Heap) (j0 : Int64)  :
    Met l Z (⟨"com/example/vouch/vouch/MurmurHash3FinalMixPinLaw", "inverseOf", "(J)J"⟩ : MethodName) method_2_code 4 (some .long) ws (⟨0, 0, 0, 0⟩ : Room) #[(.long j0)] h (PQ (some (.long (inv_f0 j0))) h []) :=
  met_of own_pn_inv hw fun p e s m below meth c T X B eT => Go.top (own_ef_inv m j0) (inv_b0 X (Nat.zero_le _) (Nat.zero_le _) B eT j0)
theorem mix_d0 : decode prog_19_method_6_code 0 = .ok (.lload_n 0, 1) := by decide +kernel
theorem mix_d1 : decode prog_19_method_6_code 1 = .ok (.lload_n 0, 1) := by decide +kernel
theorem mix_d2 : decode prog_19_method_6_code 2 = .ok (.bipush 33, 2) := by decide +kernel
theorem mix_d4 : decode prog_19_method_6_code 4 = .ok (.lushr, 1) := by decide +kernel
theorem mix_d5 : decode prog_19_method_6_code 5 = .ok (.lxor, 1) := by decide +kernel
theorem mix_d6 : decode prog_19_method_6_code 6 = .ok (.ldc2_w 52, 3) := by decide +kernel
theorem mix_d9 : decode prog_19_method_6_code 9 = .ok (.lmul, 1) := by decide +kernel
theorem mix_d10 : decode prog_19_method_6_code 10 = .ok (.lstore_n 2, 1) := by decide +kernel
theorem mix_d11 : decode prog_19_method_6_code 11 = .ok (.lload_n 2, 1) := by decide +kernel
theorem mix_d12 : decode prog_19_method_6_code 12 = .ok (.lload_n 2, 1) := by decide +kernel
theorem mix_d13 : decode prog_19_method_6_code 13 = .ok (.bipush 33, 2) := by decide +kernel
theorem mix_d15 : decode prog_19_method_6_code 15 = .ok (.lushr, 1) := by decide +kernel
theorem mix_d16 : decode prog_19_method_6_code 16 = .ok (.lxor, 1) := by decide +kernel
theorem mix_d17 : decode prog_19_method_6_code 17 = .ok (.ldc2_w 54, 3) := by decide +kernel
theorem mix_d20 : decode prog_19_method_6_code 20 = .ok (.lmul, 1) := by decide +kernel
theorem mix_d21 : decode prog_19_method_6_code 21 = .ok (.lstore_n 2, 1) := by decide +kernel
theorem mix_d22 : decode prog_19_method_6_code 22 = .ok (.lload_n 2, 1) := by decide +kernel
theorem mix_d23 : decode prog_19_method_6_code 23 = .ok (.lload_n 2, 1) := by decide +kernel
theorem mix_d24 : decode prog_19_method_6_code 24 = .ok (.bipush 33, 2) := by decide +kernel
theorem mix_d26 : decode prog_19_method_6_code 26 = .ok (.lushr, 1) := by decide +kernel
theorem mix_d27 : decode prog_19_method_6_code 27 = .ok (.lxor, 1) := by decide +kernel
theorem mix_d28 : decode prog_19_method_6_code 28 = .ok (.lreturn, 1) := by decide +kernel
def mix_f22 (j2 : Int64) : Int64 := (j2 ^^^ ((j2.toUInt64 >>> ((33 : Int32) &&& 63).toInt64.toUInt64).toInt64))
theorem mix_b22 {p : Program} {l : Launch} {e : Env} {s : State} {m : MethodId} {args : Array Value} {below : List Frame} {meth : Method} {c : Code} {T : State} {Z : State} {a0 : Array Value} {h : Heap} {locs : List Loc} {cells slots : Nat} (X : Stand p l e (⟨0, 0, 0, 0⟩ : Room) s m args below meth c T locs cells slots) (hc : cells ≤ ((⟨0, 0, 0, 0⟩ : Room)).cells) (hs : slots ≤ ((⟨0, 0, 0, 0⟩ : Room)).slots) (B : Bdy p s m meth c Z a0 "com/example/vouch/vouch/MurmurHash3" "finalMix" prog_19_method_6_code 4 (some .long) tables_1) (eT : T.heap = h) (j0 : Int64) (j2 : Int64)  :
    Go p e below s cells slots (PQ (some (.long (mix_f22 j2))) h locs) (T.setTop (mkF m 22 #[.val (.long j0), .second, .val (.long j2), .second] [])) := by
  refine g_lloadN X B mix_d22 (pc' := 23) rfl (v := j2) rfl ?_
  refine g_lloadN X B mix_d23 (pc' := 24) rfl (v := j2) rfl ?_
  refine g_bipush X B mix_d24 (pc' := 26) rfl (v := (33 : Int32)) (by decide) ?_
  refine g_lushr X B mix_d26 (pc' := 27) rfl (z := ((j2.toUInt64 >>> ((33 : Int32) &&& 63).toInt64.toUInt64).toInt64)) rfl ?_
  refine g_lxor X B mix_d27 (pc' := 28) rfl ?_
  exact g_retL X B rfl mix_d28 (Nat.le_refl _) (Nat.le_refl _) ⟨congrArg (fun z => some (Value.long z)) (Eq.symm (by rw [mix_f22])), eT, rfl⟩
def mix_f11 (j2 : Int64) : Int64 := (mix_f22 ((j2 ^^^ ((j2.toUInt64 >>> ((33 : Int32) &&& 63).toInt64.toUInt64).toInt64)) * (-4265267296055464877 : Int64)))
theorem mix_b11 {p : Program} {l : Launch} {e : Env} {s : State} {m : MethodId} {args : Array Value} {below : List Frame} {meth : Method} {c : Code} {T : State} {Z : State} {a0 : Array Value} {h : Heap} {locs : List Loc} {cells slots : Nat} (X : Stand p l e (⟨0, 0, 0, 0⟩ : Room) s m args below meth c T locs cells slots) (hc : cells ≤ ((⟨0, 0, 0, 0⟩ : Room)).cells) (hs : slots ≤ ((⟨0, 0, 0, 0⟩ : Room)).slots) (B : Bdy p s m meth c Z a0 "com/example/vouch/vouch/MurmurHash3" "finalMix" prog_19_method_6_code 4 (some .long) tables_1) (eT : T.heap = h) (j0 : Int64) (j2 : Int64)  :
    Go p e below s cells slots (PQ (some (.long (mix_f11 j2))) h locs) (T.setTop (mkF m 11 #[.val (.long j0), .second, .val (.long j2), .second] [])) := by
  refine g_lloadN X B mix_d11 (pc' := 12) rfl (v := j2) rfl ?_
  refine g_lloadN X B mix_d12 (pc' := 13) rfl (v := j2) rfl ?_
  refine g_bipush X B mix_d13 (pc' := 15) rfl (v := (33 : Int32)) (by decide) ?_
  refine g_lushr X B mix_d15 (pc' := 16) rfl (z := ((j2.toUInt64 >>> ((33 : Int32) &&& 63).toInt64.toUInt64).toInt64)) rfl ?_
  refine g_lxor X B mix_d16 (pc' := 17) rfl ?_
  refine g_ldc2 X B (B.w 12 rfl) mix_d17 (pc' := 20) rfl ?_
  refine g_lmul X B mix_d20 (pc' := 21) rfl ?_
  refine g_lstoreN X B mix_d21 (pc' := 22) rfl (Ls' := #[.val (.long j0), .second, .val (.long ((j2 ^^^ ((j2.toUInt64 >>> ((33 : Int32) &&& 63).toInt64.toUInt64).toInt64)) * (-4265267296055464877 : Int64))), .second]) rfl ?_
  exact Go.cw (congrArg (fun z => some (Value.long z)) (Eq.symm (by rw [mix_f11]))) (mix_b22 X hc hs B eT j0 ((j2 ^^^ ((j2.toUInt64 >>> ((33 : Int32) &&& 63).toInt64.toUInt64).toInt64)) * (-4265267296055464877 : Int64)))
def mix_f0 (j0 : Int64) : Int64 := (mix_f11 ((j0 ^^^ ((j0.toUInt64 >>> ((33 : Int32) &&& 63).toInt64.toUInt64).toInt64)) * (-49064778989728563 : Int64)))
theorem mix_b0 {p : Program} {l : Launch} {e : Env} {s : State} {m : MethodId} {args : Array Value} {below : List Frame} {meth : Method} {c : Code} {T : State} {Z : State} {a0 : Array Value} {h : Heap} {locs : List Loc} {cells slots : Nat} (X : Stand p l e (⟨0, 0, 0, 0⟩ : Room) s m args below meth c T locs cells slots) (hc : cells ≤ ((⟨0, 0, 0, 0⟩ : Room)).cells) (hs : slots ≤ ((⟨0, 0, 0, 0⟩ : Room)).slots) (B : Bdy p s m meth c Z a0 "com/example/vouch/vouch/MurmurHash3" "finalMix" prog_19_method_6_code 4 (some .long) tables_1) (eT : T.heap = h) (j0 : Int64)  :
    Go p e below s cells slots (PQ (some (.long (mix_f0 j0))) h locs) (T.setTop (mkF m 0 #[.val (.long j0), .second, .unset, .unset] [])) := by
  refine g_lloadN X B mix_d0 (pc' := 1) rfl (v := j0) rfl ?_
  refine g_lloadN X B mix_d1 (pc' := 2) rfl (v := j0) rfl ?_
  refine g_bipush X B mix_d2 (pc' := 4) rfl (v := (33 : Int32)) (by decide) ?_
  refine g_lushr X B mix_d4 (pc' := 5) rfl (z := ((j0.toUInt64 >>> ((33 : Int32) &&& 63).toInt64.toUInt64).toInt64)) rfl ?_
  refine g_lxor X B mix_d5 (pc' := 6) rfl ?_
  refine g_ldc2 X B (B.w 11 rfl) mix_d6 (pc' := 9) rfl ?_
  refine g_lmul X B mix_d9 (pc' := 10) rfl ?_
  refine g_lstoreN X B mix_d10 (pc' := 11) rfl (Ls' := #[.val (.long j0), .second, .val (.long ((j0 ^^^ ((j0.toUInt64 >>> ((33 : Int32) &&& 63).toInt64.toUInt64).toInt64)) * (-49064778989728563 : Int64))), .second]) rfl ?_
  exact Go.cw (congrArg (fun z => some (Value.long z)) (Eq.symm (by rw [mix_f0]))) (mix_b11 X hc hs B eT j0 ((j0 ^^^ ((j0.toUInt64 >>> ((33 : Int32) &&& 63).toInt64.toUInt64).toInt64)) * (-49064778989728563 : Int64)))
theorem own_pn_mix : plainFor (⟨"com/example/vouch/vouch/MurmurHash3", "finalMix", "(J)J"⟩ : MethodName) = true := plainFor_of_name (by first | (simp [plainName, overriddenIn]; done) | decide +kernel)
theorem own_ef_mix (m : MethodId) (j0 : Int64) : entryFrame m #[(.long j0)] 4 = (mkF m 0 #[.val (.long j0), .second, .unset, .unset] []) := by first | (simp [entryFrame, mkF, argsToLocals, Value.category]; done) | rfl
theorem mix_met (l : Launch) (Z : State) (a0 : Array Value) (hw : ∀ d ∈ tables_1, d.before a0 Z = true) (ws : List Jvm.Cond) (h : Heap) (j0 : Int64)  :
    Met l Z (⟨"com/example/vouch/vouch/MurmurHash3", "finalMix", "(J)J"⟩ : MethodName) prog_19_method_6_code 4 (some .long) ws (⟨0, 0, 0, 0⟩ : Room) #[(.long j0)] h (PQ (some (.long (mix_f0 j0))) h []) :=
  met_of own_pn_mix hw fun p e s m below meth c T X B eT => Go.top (own_ef_mix m j0) (mix_b0 X (Nat.zero_le _) (Nat.zero_le _) B eT j0)
theorem uns_d0 : decode method_3_code 0 = .ok (.lload_n 0, 1) := by decide +kernel
theorem uns_d1 : decode method_3_code 1 = .ok (.lload_n 0, 1) := by decide +kernel
theorem uns_d2 : decode method_3_code 2 = .ok (.bipush 33, 2) := by decide +kernel
theorem uns_d4 : decode method_3_code 4 = .ok (.lushr, 1) := by decide +kernel
theorem uns_d5 : decode method_3_code 5 = .ok (.lxor, 1) := by decide +kernel
theorem uns_d6 : decode method_3_code 6 = .ok (.lreturn, 1) := by decide +kernel
def uns_f0 (j0 : Int64) : Int64 := (j0 ^^^ ((j0.toUInt64 >>> ((33 : Int32) &&& 63).toInt64.toUInt64).toInt64))
theorem uns_b0 {p : Program} {l : Launch} {e : Env} {s : State} {m : MethodId} {args : Array Value} {below : List Frame} {meth : Method} {c : Code} {T : State} {Z : State} {a0 : Array Value} {h : Heap} {locs : List Loc} {cells slots : Nat} (X : Stand p l e (⟨0, 0, 0, 0⟩ : Room) s m args below meth c T locs cells slots) (hc : cells ≤ ((⟨0, 0, 0, 0⟩ : Room)).cells) (hs : slots ≤ ((⟨0, 0, 0, 0⟩ : Room)).slots) (B : Bdy p s m meth c Z a0 "com/example/vouch/vouch/MurmurHash3FinalMixPinLaw" "unshift" method_3_code 2 (some .long) tables_1) (eT : T.heap = h) (j0 : Int64)  :
    Go p e below s cells slots (PQ (some (.long (uns_f0 j0))) h locs) (T.setTop (mkF m 0 #[.val (.long j0), .second] [])) := by
  refine g_lloadN X B uns_d0 (pc' := 1) rfl (v := j0) rfl ?_
  refine g_lloadN X B uns_d1 (pc' := 2) rfl (v := j0) rfl ?_
  refine g_bipush X B uns_d2 (pc' := 4) rfl (v := (33 : Int32)) (by decide) ?_
  refine g_lushr X B uns_d4 (pc' := 5) rfl (z := ((j0.toUInt64 >>> ((33 : Int32) &&& 63).toInt64.toUInt64).toInt64)) rfl ?_
  refine g_lxor X B uns_d5 (pc' := 6) rfl ?_
  exact g_retL X B rfl uns_d6 (Nat.le_refl _) (Nat.le_refl _) ⟨congrArg (fun z => some (Value.long z)) (Eq.symm (by rw [uns_f0])), eT, rfl⟩
theorem own_pn_uns : plainFor (⟨"com/example/vouch/vouch/MurmurHash3FinalMixPinLaw", "unshift", "(J)J"⟩ : MethodName) = true := plainFor_of_name (by first | (simp [plainName, overriddenIn]; done) | decide +kernel)
theorem own_ef_uns (m : MethodId) (j0 : Int64) : entryFrame m #[(.long j0)] 2 = (mkF m 0 #[.val (.long j0), .second] []) := by first | (simp [entryFrame, mkF, argsToLocals, Value.category]; done) | rfl
theorem uns_met (l : Launch) (Z : State) (a0 : Array Value) (hw : ∀ d ∈ tables_1, d.before a0 Z = true) (ws : List Jvm.Cond) (h : Heap) (j0 : Int64)  :
    Met l Z (⟨"com/example/vouch/vouch/MurmurHash3FinalMixPinLaw", "unshift", "(J)J"⟩ : MethodName) method_3_code 2 (some .long) ws (⟨0, 0, 0, 0⟩ : Room) #[(.long j0)] h (PQ (some (.long (uns_f0 j0))) h []) :=
  met_of own_pn_uns hw fun p e s m below meth c T X B eT => Go.top (own_ef_uns m j0) (uns_b0 X (Nat.zero_le _) (Nat.zero_le _) B eT j0)
def law_f94 (t0 : Int32) : Int32 := (nar .boolean t0)
theorem law_b94 {p : Program} {l : Launch} {e : Env} {s : State} {m : MethodId} {args : Array Value} {below : List Frame} {meth : Method} {c : Code} {T : State} {Z : State} {a0 : Array Value} {h : Heap} {locs : List Loc} {cells slots : Nat} (X : Stand p l e room_1 s m args below meth c T locs cells slots) (hc : cells ≤ (room_1).cells) (hs : slots ≤ (room_1).slots) (B : Bdy p s m meth c Z a0 "com/example/vouch/vouch/MurmurHash3FinalMixPinLaw" "law" code 14 (some .boolean) tables_1) (eT : T.heap = h) (j0 : Int64) (j2 : Int64) (j4 : Int64) (j6 : Int64) (j8 : Int64) (j10 : Int64) (j12 : Int64) (t0 : Int32)  :
    Go p e below s cells slots (PQ (some (.int (law_f94 t0))) h locs) (T.setTop (mkF m 94 #[.val (.long j0), .second, .val (.long j2), .second, .val (.long j4), .second, .val (.long j6), .second, .val (.long j8), .second, .val (.long j10), .second, .val (.long j12), .second] [(.int t0)])) := by
  exact g_retN X B (t := .boolean) rfl (by simp) at_94 (Nat.le_refl _) (Nat.le_refl _) ⟨congrArg (fun z => some (Value.int z)) (Eq.symm (by rw [law_f94])), eT, rfl⟩
def law_f93  : Int32 := (law_f94 (0 : Int32))
theorem law_b93 {p : Program} {l : Launch} {e : Env} {s : State} {m : MethodId} {args : Array Value} {below : List Frame} {meth : Method} {c : Code} {T : State} {Z : State} {a0 : Array Value} {h : Heap} {locs : List Loc} {cells slots : Nat} (X : Stand p l e room_1 s m args below meth c T locs cells slots) (hc : cells ≤ (room_1).cells) (hs : slots ≤ (room_1).slots) (B : Bdy p s m meth c Z a0 "com/example/vouch/vouch/MurmurHash3FinalMixPinLaw" "law" code 14 (some .boolean) tables_1) (eT : T.heap = h) (j0 : Int64) (j2 : Int64) (j4 : Int64) (j6 : Int64) (j8 : Int64) (j10 : Int64) (j12 : Int64)  :
    Go p e below s cells slots (PQ (some (.int law_f93)) h locs) (T.setTop (mkF m 93 #[.val (.long j0), .second, .val (.long j2), .second, .val (.long j4), .second, .val (.long j6), .second, .val (.long j8), .second, .val (.long j10), .second, .val (.long j12), .second] [])) := by
  refine g_iconst X B at_93 (pc' := 94) rfl (v := (0 : Int32)) (by decide) ?_
  exact Go.cw (congrArg (fun z => some (Value.int z)) (Eq.symm (by rw [law_f93]))) (law_b94 X hc hs B eT j0 j2 j4 j6 j8 j10 j12 (0 : Int32))
def law_f63 (j0 : Int64) (j2 : Int64) (j4 : Int64) (j6 : Int64) (j8 : Int64) (j12 : Int64) : Int32 := (if j12 = j0 then (if (j2 * j6) = (1 : Int64) then (if (j4 * j8) = (1 : Int64) then (law_f94 (1 : Int32)) else law_f93) else law_f93) else law_f93)
theorem law_b63 {p : Program} {l : Launch} {e : Env} {s : State} {m : MethodId} {args : Array Value} {below : List Frame} {meth : Method} {c : Code} {T : State} {Z : State} {a0 : Array Value} {h : Heap} {locs : List Loc} {cells slots : Nat} (X : Stand p l e room_1 s m args below meth c T locs cells slots) (hc : cells ≤ (room_1).cells) (hs : slots ≤ (room_1).slots) (B : Bdy p s m meth c Z a0 "com/example/vouch/vouch/MurmurHash3FinalMixPinLaw" "law" code 14 (some .boolean) tables_1) (eT : T.heap = h) (j0 : Int64) (j2 : Int64) (j4 : Int64) (j6 : Int64) (j8 : Int64) (j10 : Int64) (j12 : Int64)  :
    Go p e below s cells slots (PQ (some (.int (law_f63 j0 j2 j4 j6 j8 j12))) h locs) (T.setTop (mkF m 63 #[.val (.long j0), .second, .val (.long j2), .second, .val (.long j4), .second, .val (.long j6), .second, .val (.long j8), .second, .val (.long j10), .second, .val (.long j12), .second] [])) := by
  refine g_lload X B at_63 (pc' := 65) rfl (v := j12) rfl ?_
  refine g_lloadN X B at_65 (pc' := 66) rfl (v := j0) rfl ?_
  refine g_lcmp_ne X B at_66 at_67 (pcT := 93) (pcF := 70) (by decide) rfl rfl (fun c66_0 => ?_) (fun c66_0 => ?_)
  · refine g_lloadN X B at_70 (pc' := 71) rfl (v := j2) rfl ?_
    refine g_lload X B at_71 (pc' := 73) rfl (v := j6) rfl ?_
    refine g_lmul X B at_73 (pc' := 74) rfl ?_
    refine g_lconst X B at_74 (pc' := 75) rfl (v := (1 : Int64)) (by decide) ?_
    refine g_lcmp_ne X B at_75 at_76 (pcT := 93) (pcF := 79) (by decide) rfl rfl (fun c75_1 => ?_) (fun c75_1 => ?_)
    · refine g_lload X B at_79 (pc' := 81) rfl (v := j4) rfl ?_
      refine g_lload X B at_81 (pc' := 83) rfl (v := j8) rfl ?_
      refine g_lmul X B at_83 (pc' := 84) rfl ?_
      refine g_lconst X B at_84 (pc' := 85) rfl (v := (1 : Int64)) (by decide) ?_
      refine g_lcmp_ne X B at_85 at_86 (pcT := 93) (pcF := 89) (by decide) rfl rfl (fun c85_2 => ?_) (fun c85_2 => ?_)
      · refine g_iconst X B at_89 (pc' := 90) rfl (v := (1 : Int32)) (by decide) ?_
        refine g_goto X B at_90 (pc' := 94) (by decide) rfl ?_
        exact Go.cw (congrArg (fun z => some (Value.int z)) (Eq.symm (by rw [law_f63, if_pos c66_0, if_pos c75_1, if_pos c85_2]))) (law_b94 X hc hs B eT j0 j2 j4 j6 j8 j10 j12 (1 : Int32))
      · exact Go.cw (congrArg (fun z => some (Value.int z)) (Eq.symm (by rw [law_f63, if_pos c66_0, if_pos c75_1, if_neg c85_2]))) (law_b93 X hc hs B eT j0 j2 j4 j6 j8 j10 j12)
    · exact Go.cw (congrArg (fun z => some (Value.int z)) (Eq.symm (by rw [law_f63, if_pos c66_0, if_neg c75_1]))) (law_b93 X hc hs B eT j0 j2 j4 j6 j8 j10 j12)
  · exact Go.cw (congrArg (fun z => some (Value.int z)) (Eq.symm (by rw [law_f63, if_neg c66_0]))) (law_b93 X hc hs B eT j0 j2 j4 j6 j8 j10 j12)
def law_f56 (j0 : Int64) (j2 : Int64) (j4 : Int64) (j6 : Int64) (j8 : Int64) (j12 : Int64) : Int32 := (law_f63 j0 j2 j4 j6 j8 (uns_f0 j12))
theorem law_b56 {p : Program} {l : Launch} {e : Env} {s : State} {m : MethodId} {args : Array Value} {below : List Frame} {meth : Method} {c : Code} {T : State} {Z : State} {a0 : Array Value} {h : Heap} {locs : List Loc} {cells slots : Nat} (X : Stand p l e room_1 s m args below meth c T locs cells slots) (hc : cells ≤ (room_1).cells) (hs : slots ≤ (room_1).slots) (B : Bdy p s m meth c Z a0 "com/example/vouch/vouch/MurmurHash3FinalMixPinLaw" "law" code 14 (some .boolean) tables_1) (eT : T.heap = h) (j0 : Int64) (j2 : Int64) (j4 : Int64) (j6 : Int64) (j8 : Int64) (j10 : Int64) (j12 : Int64)  :
    Go p e below s cells slots (PQ (some (.int (law_f56 j0 j2 j4 j6 j8 j12))) h locs) (T.setTop (mkF m 56 #[.val (.long j0), .second, .val (.long j2), .second, .val (.long j4), .second, .val (.long j6), .second, .val (.long j8), .second, .val (.long j10), .second, .val (.long j12), .second] [])) := by
  refine g_lload X B at_56 (pc' := 58) rfl (v := j12) rfl ?_
  refine g_callP X B eT 0 (y := (⟨"com/example/vouch/vouch/MurmurHash3FinalMixPinLaw", "unshift", "(J)J"⟩ : MethodName)) (argsL := [(.long j12)]) (rest := []) (w := (.long (uns_f0 j12))) (B.w 13 rfl) (B.w 14 rfl) (B.w 4 rfl) (B.w 15 rfl) (by decide) (uns_met l Z a0 B.2.2.1 [] h j12) (by decide) (by decide) hc hs rfl (lenOf own_pd0 rfl) rfl (Nat.le_of_eq rfl) at_58 (pc' := 61) rfl (fun T1 X1 e1 => ?_)
  refine g_lstore X1 B at_61 (pc' := 63) rfl (Ls' := #[.val (.long j0), .second, .val (.long j2), .second, .val (.long j4), .second, .val (.long j6), .second, .val (.long j8), .second, .val (.long j10), .second, .val (.long (uns_f0 j12)), .second]) rfl ?_
  exact Go.cw (congrArg (fun z => some (Value.int z)) (Eq.symm (by rw [law_f56]))) (law_b63 X1 hc hs B e1 j0 j2 j4 j6 j8 j10 (uns_f0 j12))
def law_f49 (j0 : Int64) (j2 : Int64) (j4 : Int64) (j6 : Int64) (j8 : Int64) (j12 : Int64) : Int32 := (law_f56 j0 j2 j4 j6 j8 (j12 * j6))
theorem law_b49 {p : Program} {l : Launch} {e : Env} {s : State} {m : MethodId} {args : Array Value} {below : List Frame} {meth : Method} {c : Code} {T : State} {Z : State} {a0 : Array Value} {h : Heap} {locs : List Loc} {cells slots : Nat} (X : Stand p l e room_1 s m args below meth c T locs cells slots) (hc : cells ≤ (room_1).cells) (hs : slots ≤ (room_1).slots) (B : Bdy p s m meth c Z a0 "com/example/vouch/vouch/MurmurHash3FinalMixPinLaw" "law" code 14 (some .boolean) tables_1) (eT : T.heap = h) (j0 : Int64) (j2 : Int64) (j4 : Int64) (j6 : Int64) (j8 : Int64) (j10 : Int64) (j12 : Int64)  :
    Go p e below s cells slots (PQ (some (.int (law_f49 j0 j2 j4 j6 j8 j12))) h locs) (T.setTop (mkF m 49 #[.val (.long j0), .second, .val (.long j2), .second, .val (.long j4), .second, .val (.long j6), .second, .val (.long j8), .second, .val (.long j10), .second, .val (.long j12), .second] [])) := by
  refine g_lload X B at_49 (pc' := 51) rfl (v := j12) rfl ?_
  refine g_lload X B at_51 (pc' := 53) rfl (v := j6) rfl ?_
  refine g_lmul X B at_53 (pc' := 54) rfl ?_
  refine g_lstore X B at_54 (pc' := 56) rfl (Ls' := #[.val (.long j0), .second, .val (.long j2), .second, .val (.long j4), .second, .val (.long j6), .second, .val (.long j8), .second, .val (.long j10), .second, .val (.long (j12 * j6)), .second]) rfl ?_
  exact Go.cw (congrArg (fun z => some (Value.int z)) (Eq.symm (by rw [law_f49]))) (law_b56 X hc hs B eT j0 j2 j4 j6 j8 j10 (j12 * j6))
def law_f42 (j0 : Int64) (j2 : Int64) (j4 : Int64) (j6 : Int64) (j8 : Int64) (j12 : Int64) : Int32 := (law_f49 j0 j2 j4 j6 j8 (uns_f0 j12))
theorem law_b42 {p : Program} {l : Launch} {e : Env} {s : State} {m : MethodId} {args : Array Value} {below : List Frame} {meth : Method} {c : Code} {T : State} {Z : State} {a0 : Array Value} {h : Heap} {locs : List Loc} {cells slots : Nat} (X : Stand p l e room_1 s m args below meth c T locs cells slots) (hc : cells ≤ (room_1).cells) (hs : slots ≤ (room_1).slots) (B : Bdy p s m meth c Z a0 "com/example/vouch/vouch/MurmurHash3FinalMixPinLaw" "law" code 14 (some .boolean) tables_1) (eT : T.heap = h) (j0 : Int64) (j2 : Int64) (j4 : Int64) (j6 : Int64) (j8 : Int64) (j10 : Int64) (j12 : Int64)  :
    Go p e below s cells slots (PQ (some (.int (law_f42 j0 j2 j4 j6 j8 j12))) h locs) (T.setTop (mkF m 42 #[.val (.long j0), .second, .val (.long j2), .second, .val (.long j4), .second, .val (.long j6), .second, .val (.long j8), .second, .val (.long j10), .second, .val (.long j12), .second] [])) := by
  refine g_lload X B at_42 (pc' := 44) rfl (v := j12) rfl ?_
  refine g_callP X B eT 0 (y := (⟨"com/example/vouch/vouch/MurmurHash3FinalMixPinLaw", "unshift", "(J)J"⟩ : MethodName)) (argsL := [(.long j12)]) (rest := []) (w := (.long (uns_f0 j12))) (B.w 13 rfl) (B.w 14 rfl) (B.w 4 rfl) (B.w 15 rfl) (by decide) (uns_met l Z a0 B.2.2.1 [] h j12) (by decide) (by decide) hc hs rfl (lenOf own_pd0 rfl) rfl (Nat.le_of_eq rfl) at_44 (pc' := 47) rfl (fun T1 X1 e1 => ?_)
  refine g_lstore X1 B at_47 (pc' := 49) rfl (Ls' := #[.val (.long j0), .second, .val (.long j2), .second, .val (.long j4), .second, .val (.long j6), .second, .val (.long j8), .second, .val (.long j10), .second, .val (.long (uns_f0 j12)), .second]) rfl ?_
  exact Go.cw (congrArg (fun z => some (Value.int z)) (Eq.symm (by rw [law_f42]))) (law_b49 X1 hc hs B e1 j0 j2 j4 j6 j8 j10 (uns_f0 j12))
def law_f35 (j0 : Int64) (j2 : Int64) (j4 : Int64) (j6 : Int64) (j8 : Int64) (j12 : Int64) : Int32 := (law_f42 j0 j2 j4 j6 j8 (j12 * j8))
theorem law_b35 {p : Program} {l : Launch} {e : Env} {s : State} {m : MethodId} {args : Array Value} {below : List Frame} {meth : Method} {c : Code} {T : State} {Z : State} {a0 : Array Value} {h : Heap} {locs : List Loc} {cells slots : Nat} (X : Stand p l e room_1 s m args below meth c T locs cells slots) (hc : cells ≤ (room_1).cells) (hs : slots ≤ (room_1).slots) (B : Bdy p s m meth c Z a0 "com/example/vouch/vouch/MurmurHash3FinalMixPinLaw" "law" code 14 (some .boolean) tables_1) (eT : T.heap = h) (j0 : Int64) (j2 : Int64) (j4 : Int64) (j6 : Int64) (j8 : Int64) (j10 : Int64) (j12 : Int64)  :
    Go p e below s cells slots (PQ (some (.int (law_f35 j0 j2 j4 j6 j8 j12))) h locs) (T.setTop (mkF m 35 #[.val (.long j0), .second, .val (.long j2), .second, .val (.long j4), .second, .val (.long j6), .second, .val (.long j8), .second, .val (.long j10), .second, .val (.long j12), .second] [])) := by
  refine g_lload X B at_35 (pc' := 37) rfl (v := j12) rfl ?_
  refine g_lload X B at_37 (pc' := 39) rfl (v := j8) rfl ?_
  refine g_lmul X B at_39 (pc' := 40) rfl ?_
  refine g_lstore X B at_40 (pc' := 42) rfl (Ls' := #[.val (.long j0), .second, .val (.long j2), .second, .val (.long j4), .second, .val (.long j6), .second, .val (.long j8), .second, .val (.long j10), .second, .val (.long (j12 * j8)), .second]) rfl ?_
  exact Go.cw (congrArg (fun z => some (Value.int z)) (Eq.symm (by rw [law_f35]))) (law_b42 X hc hs B eT j0 j2 j4 j6 j8 j10 (j12 * j8))
def law_f28 (j0 : Int64) (j2 : Int64) (j4 : Int64) (j6 : Int64) (j8 : Int64) (j10 : Int64) : Int32 := (law_f35 j0 j2 j4 j6 j8 (uns_f0 j10))
theorem law_b28 {p : Program} {l : Launch} {e : Env} {s : State} {m : MethodId} {args : Array Value} {below : List Frame} {meth : Method} {c : Code} {T : State} {Z : State} {a0 : Array Value} {h : Heap} {locs : List Loc} {cells slots : Nat} (X : Stand p l e room_1 s m args below meth c T locs cells slots) (hc : cells ≤ (room_1).cells) (hs : slots ≤ (room_1).slots) (B : Bdy p s m meth c Z a0 "com/example/vouch/vouch/MurmurHash3FinalMixPinLaw" "law" code 14 (some .boolean) tables_1) (eT : T.heap = h) (j0 : Int64) (j2 : Int64) (j4 : Int64) (j6 : Int64) (j8 : Int64) (j10 : Int64)  :
    Go p e below s cells slots (PQ (some (.int (law_f28 j0 j2 j4 j6 j8 j10))) h locs) (T.setTop (mkF m 28 #[.val (.long j0), .second, .val (.long j2), .second, .val (.long j4), .second, .val (.long j6), .second, .val (.long j8), .second, .val (.long j10), .second, .unset, .unset] [])) := by
  refine g_lload X B at_28 (pc' := 30) rfl (v := j10) rfl ?_
  refine g_callP X B eT 0 (y := (⟨"com/example/vouch/vouch/MurmurHash3FinalMixPinLaw", "unshift", "(J)J"⟩ : MethodName)) (argsL := [(.long j10)]) (rest := []) (w := (.long (uns_f0 j10))) (B.w 13 rfl) (B.w 14 rfl) (B.w 4 rfl) (B.w 15 rfl) (by decide) (uns_met l Z a0 B.2.2.1 [] h j10) (by decide) (by decide) hc hs rfl (lenOf own_pd0 rfl) rfl (Nat.le_of_eq rfl) at_30 (pc' := 33) rfl (fun T1 X1 e1 => ?_)
  refine g_lstore X1 B at_33 (pc' := 35) rfl (Ls' := #[.val (.long j0), .second, .val (.long j2), .second, .val (.long j4), .second, .val (.long j6), .second, .val (.long j8), .second, .val (.long j10), .second, .val (.long (uns_f0 j10)), .second]) rfl ?_
  exact Go.cw (congrArg (fun z => some (Value.int z)) (Eq.symm (by rw [law_f28]))) (law_b35 X1 hc hs B e1 j0 j2 j4 j6 j8 j10 (uns_f0 j10))
def law_f22 (j0 : Int64) (j2 : Int64) (j4 : Int64) (j6 : Int64) (j8 : Int64) : Int32 := (law_f28 j0 j2 j4 j6 j8 (mix_f0 j0))
theorem law_b22 {p : Program} {l : Launch} {e : Env} {s : State} {m : MethodId} {args : Array Value} {below : List Frame} {meth : Method} {c : Code} {T : State} {Z : State} {a0 : Array Value} {h : Heap} {locs : List Loc} {cells slots : Nat} (X : Stand p l e room_1 s m args below meth c T locs cells slots) (hc : cells ≤ (room_1).cells) (hs : slots ≤ (room_1).slots) (B : Bdy p s m meth c Z a0 "com/example/vouch/vouch/MurmurHash3FinalMixPinLaw" "law" code 14 (some .boolean) tables_1) (eT : T.heap = h) (j0 : Int64) (j2 : Int64) (j4 : Int64) (j6 : Int64) (j8 : Int64)  :
    Go p e below s cells slots (PQ (some (.int (law_f22 j0 j2 j4 j6 j8))) h locs) (T.setTop (mkF m 22 #[.val (.long j0), .second, .val (.long j2), .second, .val (.long j4), .second, .val (.long j6), .second, .val (.long j8), .second, .unset, .unset, .unset, .unset] [])) := by
  refine g_lloadN X B at_22 (pc' := 23) rfl (v := j0) rfl ?_
  refine g_callP X B eT 0 (y := (⟨"com/example/vouch/vouch/MurmurHash3", "finalMix", "(J)J"⟩ : MethodName)) (argsL := [(.long j0)]) (rest := []) (w := (.long (mix_f0 j0))) (B.w 7 rfl) (B.w 8 rfl) (B.w 9 rfl) (B.w 10 rfl) (by decide) (mix_met l Z a0 B.2.2.1 [] h j0) (by decide) (by decide) hc hs rfl (lenOf own_pd0 rfl) rfl (Nat.le_of_eq rfl) at_23 (pc' := 26) rfl (fun T1 X1 e1 => ?_)
  refine g_lstore X1 B at_26 (pc' := 28) rfl (Ls' := #[.val (.long j0), .second, .val (.long j2), .second, .val (.long j4), .second, .val (.long j6), .second, .val (.long j8), .second, .val (.long (mix_f0 j0)), .second, .unset, .unset]) rfl ?_
  exact Go.cw (congrArg (fun z => some (Value.int z)) (Eq.symm (by rw [law_f22]))) (law_b28 X1 hc hs B e1 j0 j2 j4 j6 j8 (mix_f0 j0))
def law_f15 (j0 : Int64) (j2 : Int64) (j4 : Int64) (j6 : Int64) : Int32 := (law_f22 j0 j2 j4 j6 (inv_f0 j4))
theorem law_b15 {p : Program} {l : Launch} {e : Env} {s : State} {m : MethodId} {args : Array Value} {below : List Frame} {meth : Method} {c : Code} {T : State} {Z : State} {a0 : Array Value} {h : Heap} {locs : List Loc} {cells slots : Nat} (X : Stand p l e room_1 s m args below meth c T locs cells slots) (hc : cells ≤ (room_1).cells) (hs : slots ≤ (room_1).slots) (B : Bdy p s m meth c Z a0 "com/example/vouch/vouch/MurmurHash3FinalMixPinLaw" "law" code 14 (some .boolean) tables_1) (eT : T.heap = h) (j0 : Int64) (j2 : Int64) (j4 : Int64) (j6 : Int64)  :
    Go p e below s cells slots (PQ (some (.int (law_f15 j0 j2 j4 j6))) h locs) (T.setTop (mkF m 15 #[.val (.long j0), .second, .val (.long j2), .second, .val (.long j4), .second, .val (.long j6), .second, .unset, .unset, .unset, .unset, .unset, .unset] [])) := by
  refine g_lload X B at_15 (pc' := 17) rfl (v := j4) rfl ?_
  refine g_callP X B eT 0 (y := (⟨"com/example/vouch/vouch/MurmurHash3FinalMixPinLaw", "inverseOf", "(J)J"⟩ : MethodName)) (argsL := [(.long j4)]) (rest := []) (w := (.long (inv_f0 j4))) (B.w 2 rfl) (B.w 3 rfl) (B.w 4 rfl) (B.w 5 rfl) (by decide) (inv_met l Z a0 B.2.2.1 [] h j4) (by decide) (by decide) hc hs rfl (lenOf own_pd0 rfl) rfl (Nat.le_of_eq rfl) at_17 (pc' := 20) rfl (fun T1 X1 e1 => ?_)
  refine g_lstore X1 B at_20 (pc' := 22) rfl (Ls' := #[.val (.long j0), .second, .val (.long j2), .second, .val (.long j4), .second, .val (.long j6), .second, .val (.long (inv_f0 j4)), .second, .unset, .unset, .unset, .unset]) rfl ?_
  exact Go.cw (congrArg (fun z => some (Value.int z)) (Eq.symm (by rw [law_f15]))) (law_b22 X1 hc hs B e1 j0 j2 j4 j6 (inv_f0 j4))
def law_f9 (j0 : Int64) (j2 : Int64) (j4 : Int64) : Int32 := (law_f15 j0 j2 j4 (inv_f0 j2))
theorem law_b9 {p : Program} {l : Launch} {e : Env} {s : State} {m : MethodId} {args : Array Value} {below : List Frame} {meth : Method} {c : Code} {T : State} {Z : State} {a0 : Array Value} {h : Heap} {locs : List Loc} {cells slots : Nat} (X : Stand p l e room_1 s m args below meth c T locs cells slots) (hc : cells ≤ (room_1).cells) (hs : slots ≤ (room_1).slots) (B : Bdy p s m meth c Z a0 "com/example/vouch/vouch/MurmurHash3FinalMixPinLaw" "law" code 14 (some .boolean) tables_1) (eT : T.heap = h) (j0 : Int64) (j2 : Int64) (j4 : Int64)  :
    Go p e below s cells slots (PQ (some (.int (law_f9 j0 j2 j4))) h locs) (T.setTop (mkF m 9 #[.val (.long j0), .second, .val (.long j2), .second, .val (.long j4), .second, .unset, .unset, .unset, .unset, .unset, .unset, .unset, .unset] [])) := by
  refine g_lloadN X B at_9 (pc' := 10) rfl (v := j2) rfl ?_
  refine g_callP X B eT 0 (y := (⟨"com/example/vouch/vouch/MurmurHash3FinalMixPinLaw", "inverseOf", "(J)J"⟩ : MethodName)) (argsL := [(.long j2)]) (rest := []) (w := (.long (inv_f0 j2))) (B.w 2 rfl) (B.w 3 rfl) (B.w 4 rfl) (B.w 5 rfl) (by decide) (inv_met l Z a0 B.2.2.1 [] h j2) (by decide) (by decide) hc hs rfl (lenOf own_pd0 rfl) rfl (Nat.le_of_eq rfl) at_10 (pc' := 13) rfl (fun T1 X1 e1 => ?_)
  refine g_lstore X1 B at_13 (pc' := 15) rfl (Ls' := #[.val (.long j0), .second, .val (.long j2), .second, .val (.long j4), .second, .val (.long (inv_f0 j2)), .second, .unset, .unset, .unset, .unset, .unset, .unset]) rfl ?_
  exact Go.cw (congrArg (fun z => some (Value.int z)) (Eq.symm (by rw [law_f9]))) (law_b15 X1 hc hs B e1 j0 j2 j4 (inv_f0 j2))
def law_f4 (j0 : Int64) (j2 : Int64) : Int32 := (law_f9 j0 j2 (-4265267296055464877 : Int64))
theorem law_b4 {p : Program} {l : Launch} {e : Env} {s : State} {m : MethodId} {args : Array Value} {below : List Frame} {meth : Method} {c : Code} {T : State} {Z : State} {a0 : Array Value} {h : Heap} {locs : List Loc} {cells slots : Nat} (X : Stand p l e room_1 s m args below meth c T locs cells slots) (hc : cells ≤ (room_1).cells) (hs : slots ≤ (room_1).slots) (B : Bdy p s m meth c Z a0 "com/example/vouch/vouch/MurmurHash3FinalMixPinLaw" "law" code 14 (some .boolean) tables_1) (eT : T.heap = h) (j0 : Int64) (j2 : Int64)  :
    Go p e below s cells slots (PQ (some (.int (law_f4 j0 j2))) h locs) (T.setTop (mkF m 4 #[.val (.long j0), .second, .val (.long j2), .second, .unset, .unset, .unset, .unset, .unset, .unset, .unset, .unset, .unset, .unset] [])) := by
  refine g_ldc2 X B (B.w 1 rfl) at_4 (pc' := 7) rfl ?_
  refine g_lstore X B at_7 (pc' := 9) rfl (Ls' := #[.val (.long j0), .second, .val (.long j2), .second, .val (.long (-4265267296055464877 : Int64)), .second, .unset, .unset, .unset, .unset, .unset, .unset, .unset, .unset]) rfl ?_
  exact Go.cw (congrArg (fun z => some (Value.int z)) (Eq.symm (by rw [law_f4]))) (law_b9 X hc hs B eT j0 j2 (-4265267296055464877 : Int64))
def law_f0 (j0 : Int64) : Int32 := (law_f4 j0 (-49064778989728563 : Int64))
theorem law_b0 {p : Program} {l : Launch} {e : Env} {s : State} {m : MethodId} {args : Array Value} {below : List Frame} {meth : Method} {c : Code} {T : State} {Z : State} {a0 : Array Value} {h : Heap} {locs : List Loc} {cells slots : Nat} (X : Stand p l e room_1 s m args below meth c T locs cells slots) (hc : cells ≤ (room_1).cells) (hs : slots ≤ (room_1).slots) (B : Bdy p s m meth c Z a0 "com/example/vouch/vouch/MurmurHash3FinalMixPinLaw" "law" code 14 (some .boolean) tables_1) (eT : T.heap = h) (j0 : Int64)  :
    Go p e below s cells slots (PQ (some (.int (law_f0 j0))) h locs) (T.setTop (mkF m 0 #[.val (.long j0), .second, .unset, .unset, .unset, .unset, .unset, .unset, .unset, .unset, .unset, .unset, .unset, .unset] [])) := by
  refine g_ldc2 X B (B.w 0 rfl) at_0 (pc' := 3) rfl ?_
  refine g_lstoreN X B at_3 (pc' := 4) rfl (Ls' := #[.val (.long j0), .second, .val (.long (-49064778989728563 : Int64)), .second, .unset, .unset, .unset, .unset, .unset, .unset, .unset, .unset, .unset, .unset]) rfl ?_
  exact Go.cw (congrArg (fun z => some (Value.int z)) (Eq.symm (by rw [law_f0]))) (law_b4 X hc hs B eT j0 (-49064778989728563 : Int64))
theorem own_pn_law : plainFor (⟨"com/example/vouch/vouch/MurmurHash3FinalMixPinLaw", "law", "(J)Z"⟩ : MethodName) = true := plainFor_of_name (by first | (simp [plainName, overriddenIn]; done) | decide +kernel)
theorem own_ef_law (m : MethodId) (j0 : Int64) : entryFrame m #[(.long j0)] 14 = (mkF m 0 #[.val (.long j0), .second, .unset, .unset, .unset, .unset, .unset, .unset, .unset, .unset, .unset, .unset, .unset, .unset] []) := by first | (simp [entryFrame, mkF, argsToLocals, Value.category]; done) | rfl
theorem own_uns (v : Int64) : uns_f0 (uns_f0 v) = v := by
  simp only [uns_f0]
  apply Int64.toBitVec_inj.mp
  apply BitVec.eq_of_getLsbD_eq
  intro i hi
  have hk : ((((33 : Int32) &&& 63).toInt64).toUInt64.toBitVec.toNat % 64) = 33 := by decide
  simp only [Int64.toBitVec_xor, BitVec.getLsbD_xor]
  have q : ∀ (w : Int64) (i : Nat), ((w.toUInt64 >>> ((33 : Int32) &&& 63).toInt64.toUInt64).toInt64).toBitVec.getLsbD i = w.toBitVec.getLsbD (33 + i) := by
    intro w i
    show ((w.toUInt64 >>> ((33 : Int32) &&& 63).toInt64.toUInt64).toBitVec).getLsbD i = _
    rw [UInt64.toBitVec_shiftRight, BitVec.ushiftRight_eq', BitVec.getLsbD_ushiftRight]
    have e : ((((33 : Int32) &&& 63).toInt64.toUInt64).toBitVec % 64).toNat = 33 := by decide
    rw [e]; rfl
  rw [q, q, Int64.toBitVec_xor, BitVec.getLsbD_xor, q, BitVec.getLsbD_of_ge _ (33 + (33 + i)) (by omega)]
  cases v.toBitVec.getLsbD i <;> cases v.toBitVec.getLsbD (33 + i) <;> rfl
theorem own_mix (h : Int64) : mix_f0 h = uns_f0 ((uns_f0 ((uns_f0 h) * (-49064778989728563 : Int64))) * (-4265267296055464877 : Int64)) := rfl
theorem own_i1 : (-49064778989728563 : Int64) * inv_f0 (-49064778989728563 : Int64) = 1 := by decide +kernel
theorem own_i2 : (-4265267296055464877 : Int64) * inv_f0 (-4265267296055464877 : Int64) = 1 := by decide +kernel
theorem own_law (j0 : Int64) : law_f0 j0 = 1 := by
  have e1 := own_i1; have e2 := own_i2
  have n1 : nar .boolean (1 : Int32) = 1 := by decide
  simp only [law_f0, law_f4, law_f9, law_f15, law_f22, law_f28, law_f35, law_f42, law_f49, law_f56, own_mix, own_uns]
  generalize inv_f0 (-49064778989728563 : Int64) = a at *
  generalize inv_f0 (-4265267296055464877 : Int64) = b at *
  rw [Int64.mul_assoc, e2, Int64.mul_one, own_uns, Int64.mul_assoc, e1, Int64.mul_one, own_uns]
  simp only [law_f63, law_f94]
  rw [if_pos trivial, if_pos e1, if_pos e2, n1]
theorem own_rm (l : Launch) (Z : State) (a0 : Array Value) (hw : ∀ d ∈ tables_1, d.before a0 Z = true) (ws : List Jvm.Cond) (h : Heap) (n0 : Nat) (j0 : Int64) :
    Met l Z x code maxLocals ret ws room_1 #[(.long j0)] h (fun v _ L => v = some (.int 1) ∧ Fr n0 L) :=
  met_of own_pn_law hw fun p e s m below meth c T X B eT => Go.top (own_ef_law m j0) (Go.wid (Nat.zero_le _) (Nat.zero_le _) (Go.mono (fun v h' L q => ⟨q.1.trans (congrArg (fun z => some (Value.int z)) (own_law j0)), by rw [q.2.2]; exact Fr.nil _⟩) (law_b0 X (Nat.zero_le _) (Nat.zero_le _) B eT j0)))
set_option maxRecDepth 65536 in
set_option maxHeartbeats 40000000 in
theorem comes_1 {Post : Tables → Env → Array Value → State → Outcome → State → Prop} (hpost : ∀ tb e args s v u, (limb_1_1.after args s (.returned v) u = true ∧ limb_1_2.after args s (.returned v) u = true ∧ True) → FrameEnd s (.returned v) u (Jvm.fieldLocs frame_1_writes args s ++ Jvm.arrayLocs frame_1_arrays args s ++ Jvm.staticLocs frame_1_statics s) 0 0 → Post tb e args s (.returned v) u) :
    ArmFor flags0 classFile x code maxLocals ret World_1 tables_1 room_1 Calls_1 rest_1 Pre_1 Post := by
  intro l hfl _ _ p e ha hc hk s m args below hf hA hF happ hP
  obtain ⟨hcalls, hrest, hpre⟩ := hP
  obtain ⟨-, -, -, hnamed, -, -, -, hat⟩ := (Spec.applies_iff hf).mp happ
  obtain ⟨hg, hn⟩ := and_e (Cond.before_iff.mp (show (Jvm.Cond.and given_1 narrow_1).before args s = true from hpre))
  obtain ⟨h1, g1⟩ := and_e hg
  obtain ⟨w0, rfl⟩ : ∃ w0 : Value, args = #[w0] := by
    have hs : args.size = 1 := by simpa [Cond.value, given_1] using h1
    obtain ⟨L⟩ := args
    match L, hs with
    | [w0], _ => exact ⟨w0, rfl⟩
  have hw := fun d (hd : d ∈ tables_1) => atoms_spec (ws := Jvm.Cond.code x code maxLocals ret :: tables_1) hat d (List.mem_cons_of_mem _ hd)
  obtain ⟨z0, q0⟩ := isL_v g1
  obtain rfl : w0 = (.long z0) := Option.some.inj q0
  obtain ⟨n, o, h1, h2, h3, _, L, rfl, ⟨rfl, N⟩, hq⟩ := own_rm l s _ hw tables_1 s.heap s.heap.size z0 p e ha hc hk s m _ below hf ((Spec.applies_iff_loose hf).mp happ).1 ⟨rfl, State.Warmed39.refl s, rfl⟩ trivial
  refine ⟨n, _, h1, h2, h3, hpost _ _ _ _ _ _ ⟨Cond.after_iff.mpr rfl, Cond.after_iff.mpr (eq_i res_at (Term.int_eval (1)) rfl), trivial⟩ ⟨hq.1, hq.2.1, (hq.2.2.sift fun y hy => Or.inr (N y hy)).mono (by decide) (by decide)⟩⟩
theorem main_1_1 : Claimed_1_1 := comes_1 fun _ _ _ _ _ _ h hF => ⟨h.1, hF⟩
theorem main_1_2 : Claimed_1_2 := comes_1 fun _ _ _ _ _ _ h hF => ⟨h.2.1, hF⟩
end Jvm.Pilot.@@N@@
namespace Jvm.Pilot.@@N@@
open Jvm Jvm.ClassFile Sem Op Lib Jvm.Free Jvm.Stand Jvm.Pilot.@@N@@.Jvm.D
/-! MADE BY PROGRAM (witnessworld.py) out of the Statement's table words and the real class files: 9 classes; the members and pool entries that the words name. The judged class is class 1, her method 3. -/
namespace start1
open Jvm.ClassFile
def u (s : String) : CpInfo := .utf8 (stringToUtf16 s)
/-- a pool by its gaps: so many unusable entries, then the entry; so many at the end -/
def gap : Nat → List CpInfo → List CpInfo
  | 0, r => r
  | n + 1, r => .unusable :: gap n r
def poolList (es : List (Nat × CpInfo)) (last : Nat) : List CpInfo := es.foldr (fun e r => gap e.1 (e.2 :: r)) (gap last [])
def pool (es : List (Nat × CpInfo)) (last : Nat) : Array CpInfo := ⟨poolList es last⟩
def fileOf (pool : Array CpInfo) (this : Nat) (attrs : Array Attribute := #[]) (ms : Array MethodInfo := #[]) (fl : Nat := 33) (sup : Nat := 0) (ifs : Array Nat := #[]) (fds : Array FieldInfo := #[]) : ClassFile where
  minorVersion := 0
  majorVersion := 65
  constantPool := pool
  accessFlags := fl
  thisClass := this
  superClass := sup
  interfaces := ifs
  fields := fds
  methods := ms
  attributes := attrs
def plain (name : String) (sup : Option ClassId) : Class where
  name := name
  kind := .ordinary
  loader := none
  accessFlags := 33
  super := sup
  interfaces := #[]
  cf := none
  fields := #[]
  methods := #[]
  instanceTypes := #[]
  staticTypes := #[]
  resolved := #[]
  callSites := []
  init := .initialized
  statics := none
  mirror := none

def pool0 : Array CpInfo := pool [(5, u "<init>"), (0, u "()V"), (1, .class_ 10), (1, u "java/lang/Object")] 113

def k0m0 : Method := { name := "<init>", desc := "()V", sig := { parameters := [], returnType := none }, accessFlags := 1, code := none }
/-- java/lang/Object -/
def k0 : Class := { plain "java/lang/Object" none with
  accessFlags := 33
  interfaces := #[]
  cf := some (fileOf pool0 8 #[] #[{ accessFlags := 1, nameIndex := 5, descriptorIndex := 6, attributes := #[] }] 33 0 #[] #[])
  fields := #[]
  methods := #[k0m0]
  instanceTypes := #[]
  staticTypes := #[]
  resolved := Array.replicate 124 none
  statics := none }

def pool1 : Array CpInfo := pool [(2, .class_ 4), (1, u "java/lang/Object"), (0, u "<init>"), (0, u "()V"), (0, .long 2), (1, .long 18397679294719823053), (1, .long 14181476777654086739), (1, .methodref 14 15), (0, .class_ 16), (0, .nameAndType 17 18), (0, u "com/example/vouch/vouch/MurmurHash3FinalMixPinLaw"), (0, u "inverseOf"), (0, u "(J)J"), (0, .methodref 20 21), (0, .class_ 22), (0, .nameAndType 23 18), (0, u "com/example/vouch/vouch/MurmurHash3"), (0, u "finalMix"), (0, .methodref 14 25), (0, .nameAndType 26 18), (0, u "unshift"), (2, u "law"), (0, u "(J)Z")] 3

def k1m0 : Method := { name := "<init>", desc := "()V", sig := { parameters := [], returnType := none }, accessFlags := 2, code := none }
def k1c1 : Code := { maxStack := 8, maxLocals := 4, code := method_2_code, exceptionTable := #[], attributes := #[] }
def k1m1 : Method := { name := "inverseOf", desc := "(J)J", sig := { parameters := [.long], returnType := some .long }, accessFlags := 10, code := some k1c1 }
def k1c2 : Code := { maxStack := 5, maxLocals := 2, code := method_3_code, exceptionTable := #[], attributes := #[] }
def k1m2 : Method := { name := "unshift", desc := "(J)J", sig := { parameters := [.long], returnType := some .long }, accessFlags := 10, code := some k1c2 }
def k1c3 : Code := { maxStack := 4, maxLocals := 14, code := code, exceptionTable := #[], attributes := #[] }
def k1m3 : Method := { name := "law", desc := "(J)Z", sig := { parameters := [.long], returnType := some .boolean }, accessFlags := 9, code := some k1c3 }
/-- com/example/vouch/vouch/MurmurHash3FinalMixPinLaw -/
def k1 : Class := { plain "com/example/vouch/vouch/MurmurHash3FinalMixPinLaw" (some 0) with
  accessFlags := 49
  interfaces := #[]
  cf := some (fileOf pool1 14 #[] #[{ accessFlags := 2, nameIndex := 5, descriptorIndex := 6, attributes := #[] }, { accessFlags := 10, nameIndex := 17, descriptorIndex := 18, attributes := #[] }, { accessFlags := 10, nameIndex := 26, descriptorIndex := 18, attributes := #[] }, { accessFlags := 9, nameIndex := 29, descriptorIndex := 30, attributes := #[] }] 49 2 #[] #[])
  fields := #[]
  methods := #[k1m0, k1m1, k1m2, k1m3]
  instanceTypes := #[]
  staticTypes := #[]
  resolved := Array.replicate 34 none
  statics := none }

def pool2 : Array CpInfo := pool [(2, .class_ 4), (1, u "java/lang/Object"), (0, u "<init>"), (0, u "()V"), (1, .class_ 10), (1, u "com/example/vouch/vouch/MurmurHash3"), (0, u "LITTLE_ENDIAN_LONGS"), (0, u "Ljava/lang/invoke/VarHandle;"), (9, u "(J)J"), (20, u "finalMix"), (8, .long 18397679294719823053), (1, .long 14181476777654086739), (15, u "C1"), (0, u "J"), (1, u "C2")] 10

def k2m0 : Method := { name := "<init>", desc := "()V", sig := { parameters := [], returnType := none }, accessFlags := 2, code := none }
def k2c1 : Code := { maxStack := 5, maxLocals := 4, code := prog_19_method_6_code, exceptionTable := #[], attributes := #[] }
def k2m1 : Method := { name := "finalMix", desc := "(J)J", sig := { parameters := [.long], returnType := some .long }, accessFlags := 8, code := some k2c1 }
/-- com/example/vouch/vouch/MurmurHash3 -/
def k2 : Class := { plain "com/example/vouch/vouch/MurmurHash3" (some 0) with
  accessFlags := 48
  interfaces := #[]
  cf := some (fileOf pool2 8 #[] #[{ accessFlags := 2, nameIndex := 5, descriptorIndex := 6, attributes := #[] }, { accessFlags := 8, nameIndex := 43, descriptorIndex := 22, attributes := #[] }] 48 2 #[] #[{ accessFlags := 26, nameIndex := 70, descriptorIndex := 71, attributes := #[] }, { accessFlags := 26, nameIndex := 73, descriptorIndex := 71, attributes := #[] }, { accessFlags := 26, nameIndex := 11, descriptorIndex := 12, attributes := #[] }])
  fields := #[{ name := "C1", type := .long, accessFlags := 26, slot := 0, constantValue := 0 }, { name := "C2", type := .long, accessFlags := 26, slot := 1, constantValue := 0 }, { name := "LITTLE_ENDIAN_LONGS", type := (.object "java/lang/invoke/VarHandle"), accessFlags := 26, slot := 2, constantValue := 0 }]
  methods := #[k2m0, k2m1]
  instanceTypes := #[]
  staticTypes := #[.long, .long, (.object "java/lang/invoke/VarHandle")]
  resolved := Array.replicate 84 none
  statics := none }

def pool3 : Array CpInfo := pool [(1, u "java/lang/Cloneable"), (0, .class_ 1), (0, u "java/lang/Object"), (0, .class_ 3)] 3

/-- java/lang/Cloneable -/
def k3 : Class := { plain "java/lang/Cloneable" (some 0) with
  accessFlags := 1537
  interfaces := #[]
  cf := some (fileOf pool3 2 #[] #[] 1537 4 #[] #[])
  fields := #[]
  methods := #[]
  instanceTypes := #[]
  staticTypes := #[]
  resolved := Array.replicate 8 none
  statics := none }

def pool4 : Array CpInfo := pool [(1, u "java/io/Serializable"), (0, .class_ 1), (0, u "java/lang/Object"), (0, .class_ 3)] 3

/-- java/io/Serializable -/
def k4 : Class := { plain "java/io/Serializable" (some 0) with
  accessFlags := 1537
  interfaces := #[]
  cf := some (fileOf pool4 2 #[] #[] 1537 4 #[] #[])
  fields := #[]
  methods := #[]
  instanceTypes := #[]
  staticTypes := #[]
  resolved := Array.replicate 8 none
  statics := none }

/-- the primitive byte -/
def k5 : Class := { plain "byte" none with kind := .primitive 'B', accessFlags := 0x411 }
/-- [B -/
def k6 : Class := { plain "[B" (some 0) with kind := .array 5 .byte, interfaces := #[3, 4], accessFlags := 1041 }

/-- the primitive int -/
def k7 : Class := { plain "int" none with kind := .primitive 'I', accessFlags := 0x411 }
/-- [I -/
def k8 : Class := { plain "[I" (some 0) with kind := .array 7 .int, interfaces := #[3, 4], accessFlags := 1041 }

def heap : Heap := #[]
def classes : Array Class := #[k0, k1, k2, k3, k4, k5, k6, k7, k8]
def interned : List (Array UInt16 × Addr) := []
def slotsUsed : Nat := 0
def theMethod : MethodId := ⟨1, 3⟩
def args0 : Array Value := #[.long 5]
def aboutOver (below : List Frame) : State where
  vm := { classes := classes, interned := interned.toArray }
  heap := heap
  slotsUsed := slotsUsed
  threads := #[{ frames := .invoking theMethod args0 :: below }]
def below0 : List Frame := [.native { method := ⟨0, 0⟩, args := #[] }]
def about1 : State := aboutOver below0
def p0 : Program := .bare "" "" ""
def e0 : Env := launch0.env 0 0 0
theorem w_frames : about1.frames = Frame.invoking theMethod args0 :: below0 := rfl
set_option maxRecDepth 65536 in
theorem w_args : argsFit about1.vm theMethod args0 = true := by decide +kernel
set_option maxRecDepth 65536 in
theorem w_heap : heapFits about1 = true := by decide +kernel
set_option maxRecDepth 65536 in
theorem w_runnable : about1.curStatus? = some .runnable := by decide +kernel
set_option maxRecDepth 65536 in
theorem w_alone : about1.alone = true := by decide +kernel
set_option maxRecDepth 65536 in
theorem w_named : about1.methodNamed? x = some theMethod := by decide +kernel
set_option maxRecDepth 65536 in
theorem w_hears : about1.hears theMethod below0 = true := by decide +kernel
set_option maxRecDepth 65536 in
theorem w_ripe : about1.ripe theMethod args0 below0 = true := by decide +kernel
theorem w_running : about1.status = .running := rfl
set_option maxRecDepth 65536 in
theorem w_room : about1.hasRoom e0.platform room_1 = true :=
  launch0.hasRoom_least _ room_1 (by decide +kernel) (by decide +kernel) (by decide +kernel) (by decide +kernel) (by decide +kernel) (by decide +kernel)
theorem allAtoms_all (ts : List Jvm.Cond) (a : Array Jvm.Value) (st : Jvm.State) : (allAtoms ts).before a st = ts.all (fun c => c.before a st) := by
  induction ts with
  | nil => rfl
  | cons c t ih =>
    show (Jvm.Cond.and c (allAtoms t)).before a st = _
    rw [Jvm.Cond.before_and, ih, List.all_cons]
def words1 : List Jvm.Cond := Jvm.Cond.code x code maxLocals ret :: tables_1
/-- a 'code' word, met by the world's own term for the bytes: nothing is compared byte by byte -/
theorem code_word {y : MethodName} {bytes : ByteArray} {mx : Nat} {rt : Option FieldType} {a : Array Value} {s : State} {m : MethodId} {meth : Method} {c : Code} (h1 : s.methodNamed? y = some m) (h2 : s.vm.method? m = some meth) (h3 : meth.code = some c) (h4 : c.code = bytes)
    (h5 : (c.maxLocals == mx && c.exceptionTable.isEmpty && decide (c.maxStack ≤ mostOperands) && decide (meth.sig.returnType = rt) && !meth.locks && decide (parseMethodDescriptor y.desc = some meth.sig)) = true) : (Jvm.Cond.code y bytes mx rt).before a s = true := by
  simp only [Bool.and_eq_true, beq_iff_eq, Bool.not_eq_true', decide_eq_true_eq] at h5
  obtain ⟨⟨⟨⟨⟨g1, g2⟩, g3⟩, g4⟩, g5⟩, g6⟩ := h5
  simp [Cond.before, Cond.holds, Cond.value, h1, h2, h3, h4, g1, g2, g3, g4, g5, g6]
def isCode : Jvm.Cond → Bool
  | .code _ _ _ _ => true
  | _ => false
theorem all_split {L : List Jvm.Cond} {P : Jvm.Cond → Bool} (h1 : L.all (fun c => isCode c || P c) = true) (h2 : ∀ c ∈ L.filter isCode, P c = true) : L.all P = true := by
  refine List.all_eq_true.mpr fun c hc => ?_
  have h := List.all_eq_true.mp h1 c hc
  rcases Bool.eq_false_or_eq_true (isCode c) with hi | hi
  · exact h2 c (List.mem_filter.mpr ⟨hc, hi⟩)
  · simpa [hi] using h
set_option maxRecDepth 65536 in
theorem w_c0 : (Jvm.Cond.code x code maxLocals ret).before args0 about1 = true := code_word (m := ⟨1, 3⟩) (meth := k1m3) (c := k1c3) (by decide +kernel) rfl rfl rfl (by decide +kernel)
set_option maxRecDepth 65536 in
theorem w_c1 : (Jvm.Cond.code ({ cls := "com/example/vouch/vouch/MurmurHash3FinalMixPinLaw", name := "inverseOf", desc := "(J)J" } : Jvm.MethodName) method_2_code (4 : Nat) (Option.some Jvm.ClassFile.FieldType.long)).before args0 about1 = true := code_word (m := ⟨1, 1⟩) (meth := k1m1) (c := k1c1) (by decide +kernel) rfl rfl rfl (by decide +kernel)
set_option maxRecDepth 65536 in
theorem w_c2 : (Jvm.Cond.code ({ cls := "com/example/vouch/vouch/MurmurHash3", name := "finalMix", desc := "(J)J" } : Jvm.MethodName) prog_19_method_6_code (4 : Nat) (Option.some Jvm.ClassFile.FieldType.long)).before args0 about1 = true := code_word (m := ⟨2, 1⟩) (meth := k2m1) (c := k2c1) (by decide +kernel) rfl rfl rfl (by decide +kernel)
set_option maxRecDepth 65536 in
theorem w_c3 : (Jvm.Cond.code ({ cls := "com/example/vouch/vouch/MurmurHash3FinalMixPinLaw", name := "unshift", desc := "(J)J" } : Jvm.MethodName) method_3_code (2 : Nat) (Option.some Jvm.ClassFile.FieldType.long)).before args0 about1 = true := code_word (m := ⟨1, 2⟩) (meth := k1m2) (c := k1c2) (by decide +kernel) rfl rfl rfl (by decide +kernel)
def codes1 : List Jvm.Cond := [Jvm.Cond.code x code maxLocals ret, Jvm.Cond.code ({ cls := "com/example/vouch/vouch/MurmurHash3FinalMixPinLaw", name := "inverseOf", desc := "(J)J" } : Jvm.MethodName) method_2_code (4 : Nat) (Option.some Jvm.ClassFile.FieldType.long), Jvm.Cond.code ({ cls := "com/example/vouch/vouch/MurmurHash3", name := "finalMix", desc := "(J)J" } : Jvm.MethodName) prog_19_method_6_code (4 : Nat) (Option.some Jvm.ClassFile.FieldType.long), Jvm.Cond.code ({ cls := "com/example/vouch/vouch/MurmurHash3FinalMixPinLaw", name := "unshift", desc := "(J)J" } : Jvm.MethodName) method_3_code (2 : Nat) (Option.some Jvm.ClassFile.FieldType.long)]
set_option maxRecDepth 65536 in
theorem codes_eq : words1.filter isCode = codes1 := rfl
theorem w_codes : ∀ c ∈ words1.filter isCode, c.before args0 about1 = true := by
  rw [codes_eq]
  intro c hc
  simp only [codes1, List.mem_cons, List.not_mem_nil, or_false] at hc
  rcases hc with rfl | rfl | rfl | rfl
  · exact w_c0
  · exact w_c1
  · exact w_c2
  · exact w_c3
set_option maxRecDepth 65536 in
theorem w_t1 : words1.all (fun c => isCode c || c.before args0 about1) = true := by decide +kernel
theorem w_tables : (allAtoms (Jvm.Cond.code x code maxLocals ret :: tables_1)).before args0 about1 = true := by
  rw [allAtoms_all]
  show words1.all (fun c => c.before args0 about1) = true
  refine all_split ?_ w_codes
  rw [w_t1]
set_option maxRecDepth 65536 in
theorem w_case : (Jvm.Cond.and given_1 narrow_1).before args0 about1 = true := by decide +kernel
theorem w_applies : (headSpec (Jvm.Cond.code x code maxLocals ret :: tables_1) room_1).applies x e0.platform about1 = true :=
  (Spec.applies_iff w_frames).mpr ⟨w_running, w_runnable, w_alone, w_named, w_hears, w_ripe, w_room, w_tables⟩
theorem atStart : AtStart classFile x code maxLocals ret World_1 tables_1 room_1 Calls_1 rest_1 Pre_1 launch0 p0 e0 about1 theMethod args0 below0 :=
  ⟨lists_1, trivial, launch0.admits_env _ _ _, launch0.least_env, fairChoices_fair.cas, fairChoices_fair.clock, w_frames, w_args, w_heap, w_applies, trivial, trivial, w_case⟩
end start1
theorem witness_1 : WitnessClaimed_1 := ⟨start1.p0, start1.e0, start1.about1, start1.theMethod, start1.args0, start1.below0, start1.atStart⟩
end Jvm.Pilot.@@N@@

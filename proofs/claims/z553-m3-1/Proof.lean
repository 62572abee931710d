import JvmDerived
import JvmDerived.Pilot.@@N@@Statement
import JvmDerived.Pilot.@@N@@Code
set_option linter.unusedVariables false
set_option linter.unusedSimpArgs false
namespace Jvm.Pilot.@@N@@
open Jvm Jvm.ClassFile Sem Op Lib Jvm.Free Jvm.Stand Jvm.LawKit Jvm.RoadKit Bundle Jvm.Pilot.@@N@@.Jvm.D
/-! own frame: 'Go': from here the run ends as Q says -/
def Go (p : Program) (e : Env) (below : List Frame) (s : State) (nc ns : Nat) (Q : Option Value → Heap → List Loc → Prop) (u : State) : Prop :=
  ∃ s₂ o, Steps p.tables e below u s₂ ∧ s₂.status = .running ∧ Ended s₂ below o ∧ ∃ v L, o = .returned v ∧ Q v s₂.heap L ∧ FrameEnd s o s₂ L nc ns
/-- what a body's walk stands on -/
def Bdy (p : Program) (s : State) (m : MethodId) (meth : Method) (c : Code) (Z : State) (a0 : Array Value) (own nm : String) (bytes : ByteArray) (maxL : Nat) (rt : Option FieldType) (tabs : List Jvm.Cond) : Prop :=
  p.tables.exec = Jvm.exec ∧ Z.Warmed39 s.vm ∧ (∀ d ∈ tabs, d.before a0 Z = true) ∧ c.code = bytes ∧ c.maxLocals = maxL ∧ s.vm.findClass own = some m.cls ∧ meth.sig.returnType = rt ∧ meth.locks = false ∧ meth.name = nm
def PQ (w : Option Value) (h : Heap) (locs : List Loc) : Option Value → Heap → List Loc → Prop := fun v h' L => v = w ∧ h' = h ∧ L = locs
section GoKit
variable {p : Program} {l : Launch} {e : Env} {R : Room} {s : State} {m : MethodId} {args : Array Value} {below : List Frame} {meth : Method} {c : Code} {T : State} {locs : List Loc} {cells slots : Nat} {Z : State} {a0 : Array Value} {h : Heap} {nc ns : Nat} {Q Q' : Option Value → Heap → List Loc → Prop} {pc pc' : Nat} {Ls Ls' : Array Slot} {St : List Value} {own nm : String} {bytes : ByteArray} {maxL : Nat} {rt : Option FieldType} {tabs : List Jvm.Cond}
theorem Go.step {u u' : State} (st : ∀ t, Steps p.tables e below u' t → Steps p.tables e below u t) (k : Go p e below s nc ns Q u') : Go p e below s nc ns Q u := by
  obtain ⟨s₂, o, h1, h2⟩ := k
  exact ⟨s₂, o, st _ h1, h2⟩
theorem Go.mono {u : State} (q : ∀ v h L, Q v h L → Q' v h L) (k : Go p e below s nc ns Q u) : Go p e below s nc ns Q' u := by
  obtain ⟨s₂, o, h1, h2, h3, v, L, h4, h5, h6⟩ := k
  exact ⟨s₂, o, h1, h2, h3, v, L, h4, q _ _ _ h5, h6⟩
theorem Go.wid {u : State} {nc' ns' : Nat} (q1 : nc ≤ nc') (q2 : ns ≤ ns') (k : Go p e below s nc ns Q u) : Go p e below s nc' ns' Q u := by
  obtain ⟨s₂, o, h1, h2, h3, v, L, h4, h5, h6, h7, h8⟩ := k
  exact ⟨s₂, o, h1, h2, h3, v, L, h4, h5, h6, h7, h8.mono q1 q2⟩
theorem Go.cw {u : State} {w w' : Option Value} (q : w = w') (k : Go p e below s nc ns (PQ w h locs) u) : Go p e below s nc ns (PQ w' h locs) u := q ▸ k
theorem Go.top {g g' : JFrame} (q : g = g') (k : Go p e below s nc ns Q (T.setTop g')) : Go p e below s nc ns Q (T.setTop g) := q ▸ k
theorem Bdy.w (B : Bdy p s m meth c Z a0 own nm bytes maxL rt tabs) {d : Jvm.Cond} (i : Nat) (q : tabs[i]? = some d) : d.before a0 Z = true := B.2.2.1 _ (List.mem_of_getElem? q)
theorem Bdy.d (B : Bdy p s m meth c Z a0 own nm bytes maxL rt tabs) {r : Except ClassFile.DecodeError (ClassFile.Instr × Nat)} (q : decode bytes pc = r) : decode c.code pc = r := hb B.2.2.2.1 q
theorem Bdy.x (B : Bdy p s m meth c Z a0 own nm bytes maxL rt tabs) : p.tables.exec = Jvm.exec := B.1
theorem Bdy.z (B : Bdy p s m meth c Z a0 own nm bytes maxL rt tabs) : Z.Warmed39 s.vm := B.2.1
theorem Bdy.ml (B : Bdy p s m meth c Z a0 own nm bytes maxL rt tabs) : c.maxLocals = maxL := B.2.2.2.2.1
theorem Bdy.o (B : Bdy p s m meth c Z a0 own nm bytes maxL rt tabs) : s.vm.findClass own = some m.cls := B.2.2.2.2.2.1
theorem Bdy.r (B : Bdy p s m meth c Z a0 own nm bytes maxL rt tabs) : meth.sig.returnType = rt := B.2.2.2.2.2.2.1
theorem Bdy.lk (B : Bdy p s m meth c Z a0 own nm bytes maxL rt tabs) : meth.locks = false := B.2.2.2.2.2.2.2.1
theorem Bdy.n (B : Bdy p s m meth c Z a0 own nm bytes maxL rt tabs) : meth.name = nm := B.2.2.2.2.2.2.2.2
theorem g_iloadN (X : Stand p l e R s m args below meth c T locs cells slots) (B : Bdy p s m meth c Z a0 own nm bytes maxL rt tabs) {k : Fin 4} {v : Int32} (hd : decode bytes pc = .ok (.iload_n k, 1)) (hp : pc + 1 = pc') (hl : Ls[k.val]? = some (.val (.int v))) (K : Go p e below s nc ns Q (T.setTop (mkF m pc' Ls (.int v :: St)))) : Go p e below s nc ns Q (T.setTop (mkF m pc Ls St)) := by
  subst hp; exact Go.step (fun t q => XS.iloadN X.here B.x (g := mkF m pc Ls St) rfl (B.d hd) hl q) K
theorem g_iload (X : Stand p l e R s m args below meth c T locs cells slots) (B : Bdy p s m meth c Z a0 own nm bytes maxL rt tabs) {k : Nat} {v : Int32} (hd : decode bytes pc = .ok (.iload k, 2)) (hp : pc + 2 = pc') (hl : Ls[k]? = some (.val (.int v))) (K : Go p e below s nc ns Q (T.setTop (mkF m pc' Ls (.int v :: St)))) : Go p e below s nc ns Q (T.setTop (mkF m pc Ls St)) := by
  subst hp; exact Go.step (fun t q => XS.iload X.here B.x (g := mkF m pc Ls St) rfl (B.d hd) hl q) K
theorem g_lloadN (X : Stand p l e R s m args below meth c T locs cells slots) (B : Bdy p s m meth c Z a0 own nm bytes maxL rt tabs) {k : Fin 4} {v : Int64} (hd : decode bytes pc = .ok (.lload_n k, 1)) (hp : pc + 1 = pc') (hl : Ls[k.val]? = some (.val (.long v))) (K : Go p e below s nc ns Q (T.setTop (mkF m pc' Ls (.long v :: St)))) : Go p e below s nc ns Q (T.setTop (mkF m pc Ls St)) := by
  subst hp; exact Go.step (fun t q => XS.lloadN X.here B.x (g := mkF m pc Ls St) rfl (B.d hd) hl q) K
theorem g_lload (X : Stand p l e R s m args below meth c T locs cells slots) (B : Bdy p s m meth c Z a0 own nm bytes maxL rt tabs) {k : Nat} {v : Int64} (hd : decode bytes pc = .ok (.lload k, 2)) (hp : pc + 2 = pc') (hl : Ls[k]? = some (.val (.long v))) (K : Go p e below s nc ns Q (T.setTop (mkF m pc' Ls (.long v :: St)))) : Go p e below s nc ns Q (T.setTop (mkF m pc Ls St)) := by
  subst hp; exact Go.step (fun t q => XS.lload X.here B.x (g := mkF m pc Ls St) rfl (B.d hd) hl q) K
theorem g_aloadN (X : Stand p l e R s m args below meth c T locs cells slots) (B : Bdy p s m meth c Z a0 own nm bytes maxL rt tabs) {k : Fin 4} {v : Value} (hd : decode bytes pc = .ok (.aload_n k, 1)) (hp : pc + 1 = pc') (hl : Ls[k.val]? = some (.val v)) (hv : v.isRef = true) (K : Go p e below s nc ns Q (T.setTop (mkF m pc' Ls (v :: St)))) : Go p e below s nc ns Q (T.setTop (mkF m pc Ls St)) := by
  subst hp; exact Go.step (fun t q => XS.aloadN X.here B.x (g := mkF m pc Ls St) rfl (B.d hd) hl hv q) K
theorem g_aload (X : Stand p l e R s m args below meth c T locs cells slots) (B : Bdy p s m meth c Z a0 own nm bytes maxL rt tabs) {k : Nat} {v : Value} (hd : decode bytes pc = .ok (.aload k, 2)) (hp : pc + 2 = pc') (hl : Ls[k]? = some (.val v)) (hv : v.isRef = true) (K : Go p e below s nc ns Q (T.setTop (mkF m pc' Ls (v :: St)))) : Go p e below s nc ns Q (T.setTop (mkF m pc Ls St)) := by
  subst hp; exact Go.step (fun t q => XS.aload X.here B.x (g := mkF m pc Ls St) rfl (B.d hd) hl hv q) K
theorem g_istoreN (X : Stand p l e R s m args below meth c T locs cells slots) (B : Bdy p s m meth c Z a0 own nm bytes maxL rt tabs) {k : Fin 4} {v : Int32} (hd : decode bytes pc = .ok (.istore_n k, 1)) (hp : pc + 1 = pc') (hl : storeLocals Ls k.val (.int v) = some Ls') (K : Go p e below s nc ns Q (T.setTop (mkF m pc' Ls' St))) : Go p e below s nc ns Q (T.setTop (mkF m pc Ls (.int v :: St))) := by
  subst hp; exact Go.step (fun t q => XS.istoreN X.here B.x (g := mkF m pc Ls (.int v :: St)) rfl (B.d hd) rfl hl q) K
theorem g_istore (X : Stand p l e R s m args below meth c T locs cells slots) (B : Bdy p s m meth c Z a0 own nm bytes maxL rt tabs) {k : Nat} {v : Int32} (hd : decode bytes pc = .ok (.istore k, 2)) (hp : pc + 2 = pc') (hl : storeLocals Ls k (.int v) = some Ls') (K : Go p e below s nc ns Q (T.setTop (mkF m pc' Ls' St))) : Go p e below s nc ns Q (T.setTop (mkF m pc Ls (.int v :: St))) := by
  subst hp; exact Go.step (fun t q => XS.istore X.here B.x (g := mkF m pc Ls (.int v :: St)) rfl (B.d hd) rfl hl q) K
theorem g_lstoreN (X : Stand p l e R s m args below meth c T locs cells slots) (B : Bdy p s m meth c Z a0 own nm bytes maxL rt tabs) {k : Fin 4} {v : Int64} (hd : decode bytes pc = .ok (.lstore_n k, 1)) (hp : pc + 1 = pc') (hl : storeLocals Ls k.val (.long v) = some Ls') (K : Go p e below s nc ns Q (T.setTop (mkF m pc' Ls' St))) : Go p e below s nc ns Q (T.setTop (mkF m pc Ls (.long v :: St))) := by
  subst hp; exact Go.step (fun t q => XS.lstoreN X.here B.x (g := mkF m pc Ls (.long v :: St)) rfl (B.d hd) rfl hl q) K
theorem g_lstore (X : Stand p l e R s m args below meth c T locs cells slots) (B : Bdy p s m meth c Z a0 own nm bytes maxL rt tabs) {k : Nat} {v : Int64} (hd : decode bytes pc = .ok (.lstore k, 2)) (hp : pc + 2 = pc') (hl : storeLocals Ls k (.long v) = some Ls') (K : Go p e below s nc ns Q (T.setTop (mkF m pc' Ls' St))) : Go p e below s nc ns Q (T.setTop (mkF m pc Ls (.long v :: St))) := by
  subst hp; exact Go.step (fun t q => XS.lstore X.here B.x (g := mkF m pc Ls (.long v :: St)) rfl (B.d hd) rfl hl q) K
theorem g_astoreN (X : Stand p l e R s m args below meth c T locs cells slots) (B : Bdy p s m meth c Z a0 own nm bytes maxL rt tabs) {k : Fin 4} {v : Value} (hd : decode bytes pc = .ok (.astore_n k, 1)) (hp : pc + 1 = pc') (hv : v.isRef = true) (hl : storeLocals Ls k.val v = some Ls') (K : Go p e below s nc ns Q (T.setTop (mkF m pc' Ls' St))) : Go p e below s nc ns Q (T.setTop (mkF m pc Ls (v :: St))) := by
  subst hp; exact Go.step (fun t q => XS.astoreN X.here B.x (g := mkF m pc Ls (v :: St)) rfl (B.d hd) rfl hv hl q) K
theorem g_astore (X : Stand p l e R s m args below meth c T locs cells slots) (B : Bdy p s m meth c Z a0 own nm bytes maxL rt tabs) {k : Nat} {v : Value} (hd : decode bytes pc = .ok (.astore k, 2)) (hp : pc + 2 = pc') (hv : v.isRef = true) (hl : storeLocals Ls k v = some Ls') (K : Go p e below s nc ns Q (T.setTop (mkF m pc' Ls' St))) : Go p e below s nc ns Q (T.setTop (mkF m pc Ls (v :: St))) := by
  subst hp; exact Go.step (fun t q => XS.astore X.here B.x (g := mkF m pc Ls (v :: St)) rfl (B.d hd) rfl hv hl q) K
theorem g_iinc (X : Stand p l e R s m args below meth c T locs cells slots) (B : Bdy p s m meth c Z a0 own nm bytes maxL rt tabs) {k : Nat} {i : Int} {v : Int32} (hd : decode bytes pc = .ok (.iinc k i, 3)) (hp : pc + 3 = pc') (hl : Ls[k]? = some (.val (.int v))) (hs : storeLocals Ls k (.int (v + Int32.ofInt i)) = some Ls') (K : Go p e below s nc ns Q (T.setTop (mkF m pc' Ls' St))) : Go p e below s nc ns Q (T.setTop (mkF m pc Ls St)) := by
  subst hp; exact Go.step (fun t q => XS.iinc X.here B.x (g := mkF m pc Ls St) rfl (B.d hd) hl hs q) K
theorem g_iconst (X : Stand p l e R s m args below meth c T locs cells slots) (B : Bdy p s m meth c Z a0 own nm bytes maxL rt tabs) {i : Int} {v : Int32} (hd : decode bytes pc = .ok (.iconst i, 1)) (hp : pc + 1 = pc') (hv : Int32.ofInt i = v) (K : Go p e below s nc ns Q (T.setTop (mkF m pc' Ls (.int v :: St)))) : Go p e below s nc ns Q (T.setTop (mkF m pc Ls St)) := by
  subst hp hv; exact Go.step (fun t q => XS.iconst X.here B.x (g := mkF m pc Ls St) rfl (B.d hd) q) K
theorem g_bipush (X : Stand p l e R s m args below meth c T locs cells slots) (B : Bdy p s m meth c Z a0 own nm bytes maxL rt tabs) {i : Int} {v : Int32} (hd : decode bytes pc = .ok (.bipush i, 2)) (hp : pc + 2 = pc') (hv : (Int8.ofInt i).toInt32 = v) (K : Go p e below s nc ns Q (T.setTop (mkF m pc' Ls (.int v :: St)))) : Go p e below s nc ns Q (T.setTop (mkF m pc Ls St)) := by
  subst hp hv; exact Go.step (fun t q => XS.bipush X.here B.x (g := mkF m pc Ls St) rfl (B.d hd) q) K
theorem g_sipush (X : Stand p l e R s m args below meth c T locs cells slots) (B : Bdy p s m meth c Z a0 own nm bytes maxL rt tabs) {i : Int} {v : Int32} (hd : decode bytes pc = .ok (.sipush i, 3)) (hp : pc + 3 = pc') (hv : (Int16.ofInt i).toInt32 = v) (K : Go p e below s nc ns Q (T.setTop (mkF m pc' Ls (.int v :: St)))) : Go p e below s nc ns Q (T.setTop (mkF m pc Ls St)) := by
  subst hp hv; exact Go.step (fun t q => XS.sipush X.here B.x (g := mkF m pc Ls St) rfl (B.d hd) q) K
theorem g_lconst (X : Stand p l e R s m args below meth c T locs cells slots) (B : Bdy p s m meth c Z a0 own nm bytes maxL rt tabs) {k : Fin 2} {v : Int64} (hd : decode bytes pc = .ok (.lconst k, 1)) (hp : pc + 1 = pc') (hv : Int64.ofNat k = v) (K : Go p e below s nc ns Q (T.setTop (mkF m pc' Ls (.long v :: St)))) : Go p e below s nc ns Q (T.setTop (mkF m pc Ls St)) := by
  subst hp hv; exact Go.step (fun t q => XS.lconst X.here B.x (g := mkF m pc Ls St) rfl (B.d hd) q) K
theorem g_null (X : Stand p l e R s m args below meth c T locs cells slots) (B : Bdy p s m meth c Z a0 own nm bytes maxL rt tabs) (hd : decode bytes pc = .ok (.aconst_null, 1)) (hp : pc + 1 = pc') (K : Go p e below s nc ns Q (T.setTop (mkF m pc' Ls (.null :: St)))) : Go p e below s nc ns Q (T.setTop (mkF m pc Ls St)) := by
  subst hp; exact Go.step (fun t q => XS.aconstNull X.here B.x (g := mkF m pc Ls St) rfl (B.d hd) q) K
theorem g_ldc (X : Stand p l e R s m args below meth c T locs cells slots) (B : Bdy p s m meth c Z a0 own nm bytes maxL rt tabs) {i : Nat} {v : Int32} (w : (Jvm.Cond.constant own i v).before a0 Z = true) (hd : decode bytes pc = .ok (.ldc i, 2)) (hp : pc + 2 = pc') (K : Go p e below s nc ns Q (T.setTop (mkF m pc' Ls (.int v :: St)))) : Go p e below s nc ns Q (T.setTop (mkF m pc Ls St)) := by
  subst hp; exact Go.step (fun t q => X.ldcInt B.x B.o (mvT B.z w) (g := mkF m pc Ls St) rfl (B.d hd) t q) K
theorem g_ldcw (X : Stand p l e R s m args below meth c T locs cells slots) (B : Bdy p s m meth c Z a0 own nm bytes maxL rt tabs) {i : Nat} {v : Int32} (w : (Jvm.Cond.constant own i v).before a0 Z = true) (hd : decode bytes pc = .ok (.ldc_w i, 3)) (hp : pc + 3 = pc') (K : Go p e below s nc ns Q (T.setTop (mkF m pc' Ls (.int v :: St)))) : Go p e below s nc ns Q (T.setTop (mkF m pc Ls St)) := by
  subst hp; exact Go.step (fun t q => X.ldcwInt B.x B.o (mvT B.z w) (g := mkF m pc Ls St) rfl (B.d hd) t q) K
theorem g_ldc2 (X : Stand p l e R s m args below meth c T locs cells slots) (B : Bdy p s m meth c Z a0 own nm bytes maxL rt tabs) {i : Nat} {v : Int64} (w : (Jvm.Cond.constantLong own i v).before a0 Z = true) (hd : decode bytes pc = .ok (.ldc2_w i, 3)) (hp : pc + 3 = pc') (K : Go p e below s nc ns Q (T.setTop (mkF m pc' Ls (.long v :: St)))) : Go p e below s nc ns Q (T.setTop (mkF m pc Ls St)) := by
  subst hp; exact Go.step (fun t q => X.ldc2Long B.x B.o (mvT B.z w) (g := mkF m pc Ls St) rfl (B.d hd) t q) K
theorem g_iadd (X : Stand p l e R s m args below meth c T locs cells slots) (B : Bdy p s m meth c Z a0 own nm bytes maxL rt tabs) {x y : Int32} (hd : decode bytes pc = .ok (.iadd, 1)) (hp : pc + 1 = pc') (K : Go p e below s nc ns Q (T.setTop (mkF m pc' Ls (.int (x + y) :: St)))) : Go p e below s nc ns Q (T.setTop (mkF m pc Ls (.int y :: .int x :: St))) := by
  subst hp; exact Go.step (fun t q => XS.iadd X.here B.x (g := mkF m pc Ls (.int y :: .int x :: St)) rfl (B.d hd) rfl q) K
theorem g_isub (X : Stand p l e R s m args below meth c T locs cells slots) (B : Bdy p s m meth c Z a0 own nm bytes maxL rt tabs) {x y : Int32} (hd : decode bytes pc = .ok (.isub, 1)) (hp : pc + 1 = pc') (K : Go p e below s nc ns Q (T.setTop (mkF m pc' Ls (.int (x - y) :: St)))) : Go p e below s nc ns Q (T.setTop (mkF m pc Ls (.int y :: .int x :: St))) := by
  subst hp; exact Go.step (fun t q => XS.isub X.here B.x (g := mkF m pc Ls (.int y :: .int x :: St)) rfl (B.d hd) rfl q) K
theorem g_imul (X : Stand p l e R s m args below meth c T locs cells slots) (B : Bdy p s m meth c Z a0 own nm bytes maxL rt tabs) {x y : Int32} (hd : decode bytes pc = .ok (.imul, 1)) (hp : pc + 1 = pc') (K : Go p e below s nc ns Q (T.setTop (mkF m pc' Ls (.int (x * y) :: St)))) : Go p e below s nc ns Q (T.setTop (mkF m pc Ls (.int y :: .int x :: St))) := by
  subst hp; exact Go.step (fun t q => XS.imul X.here B.x (g := mkF m pc Ls (.int y :: .int x :: St)) rfl (B.d hd) rfl q) K
theorem g_iand (X : Stand p l e R s m args below meth c T locs cells slots) (B : Bdy p s m meth c Z a0 own nm bytes maxL rt tabs) {x y : Int32} (hd : decode bytes pc = .ok (.iand, 1)) (hp : pc + 1 = pc') (K : Go p e below s nc ns Q (T.setTop (mkF m pc' Ls (.int (x &&& y) :: St)))) : Go p e below s nc ns Q (T.setTop (mkF m pc Ls (.int y :: .int x :: St))) := by
  subst hp; exact Go.step (fun t q => XS.iand X.here B.x (g := mkF m pc Ls (.int y :: .int x :: St)) rfl (B.d hd) rfl q) K
theorem g_ior (X : Stand p l e R s m args below meth c T locs cells slots) (B : Bdy p s m meth c Z a0 own nm bytes maxL rt tabs) {x y : Int32} (hd : decode bytes pc = .ok (.ior, 1)) (hp : pc + 1 = pc') (K : Go p e below s nc ns Q (T.setTop (mkF m pc' Ls (.int (x ||| y) :: St)))) : Go p e below s nc ns Q (T.setTop (mkF m pc Ls (.int y :: .int x :: St))) := by
  subst hp; exact Go.step (fun t q => XS.ior X.here B.x (g := mkF m pc Ls (.int y :: .int x :: St)) rfl (B.d hd) rfl q) K
theorem g_ixor (X : Stand p l e R s m args below meth c T locs cells slots) (B : Bdy p s m meth c Z a0 own nm bytes maxL rt tabs) {x y : Int32} (hd : decode bytes pc = .ok (.ixor, 1)) (hp : pc + 1 = pc') (K : Go p e below s nc ns Q (T.setTop (mkF m pc' Ls (.int (x ^^^ y) :: St)))) : Go p e below s nc ns Q (T.setTop (mkF m pc Ls (.int y :: .int x :: St))) := by
  subst hp; exact Go.step (fun t q => XS.ixor X.here B.x (g := mkF m pc Ls (.int y :: .int x :: St)) rfl (B.d hd) rfl q) K
theorem g_ishl (X : Stand p l e R s m args below meth c T locs cells slots) (B : Bdy p s m meth c Z a0 own nm bytes maxL rt tabs) {x z : Int32} {y : Int32} (hd : decode bytes pc = .ok (.ishl, 1)) (hp : pc + 1 = pc') (hz : x <<< (y &&& 31) = z) (K : Go p e below s nc ns Q (T.setTop (mkF m pc' Ls (.int z :: St)))) : Go p e below s nc ns Q (T.setTop (mkF m pc Ls (.int y :: .int x :: St))) := by
  subst hp hz; exact Go.step (fun t q => XS.ishl X.here B.x (g := mkF m pc Ls (.int y :: .int x :: St)) rfl (B.d hd) rfl q) K
theorem g_ishr (X : Stand p l e R s m args below meth c T locs cells slots) (B : Bdy p s m meth c Z a0 own nm bytes maxL rt tabs) {x z : Int32} {y : Int32} (hd : decode bytes pc = .ok (.ishr, 1)) (hp : pc + 1 = pc') (hz : x >>> (y &&& 31) = z) (K : Go p e below s nc ns Q (T.setTop (mkF m pc' Ls (.int z :: St)))) : Go p e below s nc ns Q (T.setTop (mkF m pc Ls (.int y :: .int x :: St))) := by
  subst hp hz; exact Go.step (fun t q => XS.ishr X.here B.x (g := mkF m pc Ls (.int y :: .int x :: St)) rfl (B.d hd) rfl q) K
theorem g_iushr (X : Stand p l e R s m args below meth c T locs cells slots) (B : Bdy p s m meth c Z a0 own nm bytes maxL rt tabs) {x z : Int32} {y : Int32} (hd : decode bytes pc = .ok (.iushr, 1)) (hp : pc + 1 = pc') (hz : (x.toUInt32 >>> (y &&& 31).toUInt32).toInt32 = z) (K : Go p e below s nc ns Q (T.setTop (mkF m pc' Ls (.int z :: St)))) : Go p e below s nc ns Q (T.setTop (mkF m pc Ls (.int y :: .int x :: St))) := by
  subst hp hz; exact Go.step (fun t q => XS.iushr X.here B.x (g := mkF m pc Ls (.int y :: .int x :: St)) rfl (B.d hd) rfl q) K
theorem g_ladd (X : Stand p l e R s m args below meth c T locs cells slots) (B : Bdy p s m meth c Z a0 own nm bytes maxL rt tabs) {x y : Int64} (hd : decode bytes pc = .ok (.ladd, 1)) (hp : pc + 1 = pc') (K : Go p e below s nc ns Q (T.setTop (mkF m pc' Ls (.long (x + y) :: St)))) : Go p e below s nc ns Q (T.setTop (mkF m pc Ls (.long y :: .long x :: St))) := by
  subst hp; exact Go.step (fun t q => XS.ladd X.here B.x (g := mkF m pc Ls (.long y :: .long x :: St)) rfl (B.d hd) rfl q) K
theorem g_lsub (X : Stand p l e R s m args below meth c T locs cells slots) (B : Bdy p s m meth c Z a0 own nm bytes maxL rt tabs) {x y : Int64} (hd : decode bytes pc = .ok (.lsub, 1)) (hp : pc + 1 = pc') (K : Go p e below s nc ns Q (T.setTop (mkF m pc' Ls (.long (x - y) :: St)))) : Go p e below s nc ns Q (T.setTop (mkF m pc Ls (.long y :: .long x :: St))) := by
  subst hp; exact Go.step (fun t q => XS.lsub X.here B.x (g := mkF m pc Ls (.long y :: .long x :: St)) rfl (B.d hd) rfl q) K
theorem g_lmul (X : Stand p l e R s m args below meth c T locs cells slots) (B : Bdy p s m meth c Z a0 own nm bytes maxL rt tabs) {x y : Int64} (hd : decode bytes pc = .ok (.lmul, 1)) (hp : pc + 1 = pc') (K : Go p e below s nc ns Q (T.setTop (mkF m pc' Ls (.long (x * y) :: St)))) : Go p e below s nc ns Q (T.setTop (mkF m pc Ls (.long y :: .long x :: St))) := by
  subst hp; exact Go.step (fun t q => XS.lmul X.here B.x (g := mkF m pc Ls (.long y :: .long x :: St)) rfl (B.d hd) rfl q) K
theorem g_land (X : Stand p l e R s m args below meth c T locs cells slots) (B : Bdy p s m meth c Z a0 own nm bytes maxL rt tabs) {x y : Int64} (hd : decode bytes pc = .ok (.land, 1)) (hp : pc + 1 = pc') (K : Go p e below s nc ns Q (T.setTop (mkF m pc' Ls (.long (x &&& y) :: St)))) : Go p e below s nc ns Q (T.setTop (mkF m pc Ls (.long y :: .long x :: St))) := by
  subst hp; exact Go.step (fun t q => XS.land X.here B.x (g := mkF m pc Ls (.long y :: .long x :: St)) rfl (B.d hd) rfl q) K
theorem g_lor (X : Stand p l e R s m args below meth c T locs cells slots) (B : Bdy p s m meth c Z a0 own nm bytes maxL rt tabs) {x y : Int64} (hd : decode bytes pc = .ok (.lor, 1)) (hp : pc + 1 = pc') (K : Go p e below s nc ns Q (T.setTop (mkF m pc' Ls (.long (x ||| y) :: St)))) : Go p e below s nc ns Q (T.setTop (mkF m pc Ls (.long y :: .long x :: St))) := by
  subst hp; exact Go.step (fun t q => XS.lor X.here B.x (g := mkF m pc Ls (.long y :: .long x :: St)) rfl (B.d hd) rfl q) K
theorem g_lxor (X : Stand p l e R s m args below meth c T locs cells slots) (B : Bdy p s m meth c Z a0 own nm bytes maxL rt tabs) {x y : Int64} (hd : decode bytes pc = .ok (.lxor, 1)) (hp : pc + 1 = pc') (K : Go p e below s nc ns Q (T.setTop (mkF m pc' Ls (.long (x ^^^ y) :: St)))) : Go p e below s nc ns Q (T.setTop (mkF m pc Ls (.long y :: .long x :: St))) := by
  subst hp; exact Go.step (fun t q => XS.lxor X.here B.x (g := mkF m pc Ls (.long y :: .long x :: St)) rfl (B.d hd) rfl q) K
theorem g_lshl (X : Stand p l e R s m args below meth c T locs cells slots) (B : Bdy p s m meth c Z a0 own nm bytes maxL rt tabs) {x z : Int64} {y : Int32} (hd : decode bytes pc = .ok (.lshl, 1)) (hp : pc + 1 = pc') (hz : x <<< (y &&& 63).toInt64 = z) (K : Go p e below s nc ns Q (T.setTop (mkF m pc' Ls (.long z :: St)))) : Go p e below s nc ns Q (T.setTop (mkF m pc Ls (.int y :: .long x :: St))) := by
  subst hp hz; exact Go.step (fun t q => XS.lshl X.here B.x (g := mkF m pc Ls (.int y :: .long x :: St)) rfl (B.d hd) rfl q) K
theorem g_lshr (X : Stand p l e R s m args below meth c T locs cells slots) (B : Bdy p s m meth c Z a0 own nm bytes maxL rt tabs) {x z : Int64} {y : Int32} (hd : decode bytes pc = .ok (.lshr, 1)) (hp : pc + 1 = pc') (hz : x >>> (y &&& 63).toInt64 = z) (K : Go p e below s nc ns Q (T.setTop (mkF m pc' Ls (.long z :: St)))) : Go p e below s nc ns Q (T.setTop (mkF m pc Ls (.int y :: .long x :: St))) := by
  subst hp hz; exact Go.step (fun t q => XS.lshr X.here B.x (g := mkF m pc Ls (.int y :: .long x :: St)) rfl (B.d hd) rfl q) K
theorem g_lushr (X : Stand p l e R s m args below meth c T locs cells slots) (B : Bdy p s m meth c Z a0 own nm bytes maxL rt tabs) {x z : Int64} {y : Int32} (hd : decode bytes pc = .ok (.lushr, 1)) (hp : pc + 1 = pc') (hz : (x.toUInt64 >>> (y &&& 63).toInt64.toUInt64).toInt64 = z) (K : Go p e below s nc ns Q (T.setTop (mkF m pc' Ls (.long z :: St)))) : Go p e below s nc ns Q (T.setTop (mkF m pc Ls (.int y :: .long x :: St))) := by
  subst hp hz; exact Go.step (fun t q => XS.lushr X.here B.x (g := mkF m pc Ls (.int y :: .long x :: St)) rfl (B.d hd) rfl q) K
theorem g_ineg (X : Stand p l e R s m args below meth c T locs cells slots) (B : Bdy p s m meth c Z a0 own nm bytes maxL rt tabs) {x : Int32} (hd : decode bytes pc = .ok (.ineg, 1)) (hp : pc + 1 = pc') (K : Go p e below s nc ns Q (T.setTop (mkF m pc' Ls (.int ((-x)) :: St)))) : Go p e below s nc ns Q (T.setTop (mkF m pc Ls (.int x :: St))) := by
  subst hp; exact Go.step (fun t q => XS.ineg X.here B.x (g := mkF m pc Ls (.int x :: St)) rfl (B.d hd) rfl q) K
theorem g_lneg (X : Stand p l e R s m args below meth c T locs cells slots) (B : Bdy p s m meth c Z a0 own nm bytes maxL rt tabs) {x : Int64} (hd : decode bytes pc = .ok (.lneg, 1)) (hp : pc + 1 = pc') (K : Go p e below s nc ns Q (T.setTop (mkF m pc' Ls (.long ((-x)) :: St)))) : Go p e below s nc ns Q (T.setTop (mkF m pc Ls (.long x :: St))) := by
  subst hp; exact Go.step (fun t q => XS.lneg X.here B.x (g := mkF m pc Ls (.long x :: St)) rfl (B.d hd) rfl q) K
theorem g_i2l (X : Stand p l e R s m args below meth c T locs cells slots) (B : Bdy p s m meth c Z a0 own nm bytes maxL rt tabs) {x : Int32} (hd : decode bytes pc = .ok (.i2l, 1)) (hp : pc + 1 = pc') (K : Go p e below s nc ns Q (T.setTop (mkF m pc' Ls (.long (x.toInt64) :: St)))) : Go p e below s nc ns Q (T.setTop (mkF m pc Ls (.int x :: St))) := by
  subst hp; exact Go.step (fun t q => XS.i2l X.here B.x (g := mkF m pc Ls (.int x :: St)) rfl (B.d hd) rfl q) K
theorem g_l2i (X : Stand p l e R s m args below meth c T locs cells slots) (B : Bdy p s m meth c Z a0 own nm bytes maxL rt tabs) {x : Int64} (hd : decode bytes pc = .ok (.l2i, 1)) (hp : pc + 1 = pc') (K : Go p e below s nc ns Q (T.setTop (mkF m pc' Ls (.int (x.toInt32) :: St)))) : Go p e below s nc ns Q (T.setTop (mkF m pc Ls (.long x :: St))) := by
  subst hp; exact Go.step (fun t q => XS.l2i X.here B.x (g := mkF m pc Ls (.long x :: St)) rfl (B.d hd) rfl q) K
theorem g_i2b (X : Stand p l e R s m args below meth c T locs cells slots) (B : Bdy p s m meth c Z a0 own nm bytes maxL rt tabs) {x : Int32} (hd : decode bytes pc = .ok (.i2b, 1)) (hp : pc + 1 = pc') (K : Go p e below s nc ns Q (T.setTop (mkF m pc' Ls (.int (x.toInt8.toInt32) :: St)))) : Go p e below s nc ns Q (T.setTop (mkF m pc Ls (.int x :: St))) := by
  subst hp; exact Go.step (fun t q => XS.i2b X.here B.x (g := mkF m pc Ls (.int x :: St)) rfl (B.d hd) rfl q) K
theorem g_i2s (X : Stand p l e R s m args below meth c T locs cells slots) (B : Bdy p s m meth c Z a0 own nm bytes maxL rt tabs) {x : Int32} (hd : decode bytes pc = .ok (.i2s, 1)) (hp : pc + 1 = pc') (K : Go p e below s nc ns Q (T.setTop (mkF m pc' Ls (.int (x.toInt16.toInt32) :: St)))) : Go p e below s nc ns Q (T.setTop (mkF m pc Ls (.int x :: St))) := by
  subst hp; exact Go.step (fun t q => XS.i2s X.here B.x (g := mkF m pc Ls (.int x :: St)) rfl (B.d hd) rfl q) K
theorem g_i2c (X : Stand p l e R s m args below meth c T locs cells slots) (B : Bdy p s m meth c Z a0 own nm bytes maxL rt tabs) {x : Int32} (hd : decode bytes pc = .ok (.i2c, 1)) (hp : pc + 1 = pc') (K : Go p e below s nc ns Q (T.setTop (mkF m pc' Ls (.int (x.toUInt32.toUInt16.toUInt32.toInt32) :: St)))) : Go p e below s nc ns Q (T.setTop (mkF m pc Ls (.int x :: St))) := by
  subst hp; exact Go.step (fun t q => XS.i2c X.here B.x (g := mkF m pc Ls (.int x :: St)) rfl (B.d hd) rfl q) K
theorem g_irem (X : Stand p l e R s m args below meth c T locs cells slots) (B : Bdy p s m meth c Z a0 own nm bytes maxL rt tabs) {x y : Int32} (hy : y ≠ 0) (hd : decode bytes pc = .ok (.irem, 1)) (hp : pc + 1 = pc') (K : Go p e below s nc ns Q (T.setTop (mkF m pc' Ls (.int (x % y) :: St)))) : Go p e below s nc ns Q (T.setTop (mkF m pc Ls (.int y :: .int x :: St))) := by
  subst hp; exact Go.step (fun t q => Jvm.RoadKit.iremM X B.x (g := mkF m pc Ls (.int y :: .int x :: St)) rfl (B.d hd) rfl hy q) K
theorem g_idiv (X : Stand p l e R s m args below meth c T locs cells slots) (B : Bdy p s m meth c Z a0 own nm bytes maxL rt tabs) {x y : Int32} (hy : y ≠ 0) (hd : decode bytes pc = .ok (.idiv, 1)) (hp : pc + 1 = pc') (K : Go p e below s nc ns Q (T.setTop (mkF m pc' Ls (.int (x / y) :: St)))) : Go p e below s nc ns Q (T.setTop (mkF m pc Ls (.int y :: .int x :: St))) := by
  subst hp; exact Go.step (fun t q => XS.idiv X.here B.x (g := mkF m pc Ls (.int y :: .int x :: St)) rfl (B.d hd) rfl hy q) K
theorem g_ldiv (X : Stand p l e R s m args below meth c T locs cells slots) (B : Bdy p s m meth c Z a0 own nm bytes maxL rt tabs) {x y : Int64} (hy : y ≠ 0) (hd : decode bytes pc = .ok (.ldiv, 1)) (hp : pc + 1 = pc') (K : Go p e below s nc ns Q (T.setTop (mkF m pc' Ls (.long (x / y) :: St)))) : Go p e below s nc ns Q (T.setTop (mkF m pc Ls (.long y :: .long x :: St))) := by
  subst hp; exact Go.step (fun t q => XS.ldiv X.here B.x (g := mkF m pc Ls (.long y :: .long x :: St)) rfl (B.d hd) rfl hy q) K
theorem g_lrem (X : Stand p l e R s m args below meth c T locs cells slots) (B : Bdy p s m meth c Z a0 own nm bytes maxL rt tabs) {x y : Int64} (hy : y ≠ 0) (hd : decode bytes pc = .ok (.lrem, 1)) (hp : pc + 1 = pc') (K : Go p e below s nc ns Q (T.setTop (mkF m pc' Ls (.long (x % y) :: St)))) : Go p e below s nc ns Q (T.setTop (mkF m pc Ls (.long y :: .long x :: St))) := by
  subst hp; rw [← lrem_mod] at K; exact Go.step (fun t q => XS.lrem X.here B.x (g := mkF m pc Ls (.long y :: .long x :: St)) rfl (B.d hd) rfl hy q) K
theorem g_dup (X : Stand p l e R s m args below meth c T locs cells slots) (B : Bdy p s m meth c Z a0 own nm bytes maxL rt tabs) {v : Value} (hd : decode bytes pc = .ok (.dup, 1)) (hp : pc + 1 = pc') (hv : v.category = 1) (K : Go p e below s nc ns Q (T.setTop (mkF m pc' Ls (v :: v :: St)))) : Go p e below s nc ns Q (T.setTop (mkF m pc Ls (v :: St))) := by
  subst hp; exact Go.step (fun t q => XS.dup X.here B.x (g := mkF m pc Ls (v :: St)) rfl (B.d hd) rfl hv q) K
theorem g_dupX1 (X : Stand p l e R s m args below meth c T locs cells slots) (B : Bdy p s m meth c Z a0 own nm bytes maxL rt tabs) {v w : Value} (hd : decode bytes pc = .ok (.dup_x1, 1)) (hp : pc + 1 = pc') (hv : v.category = 1) (hw : w.category = 1) (K : Go p e below s nc ns Q (T.setTop (mkF m pc' Ls (v :: w :: v :: St)))) : Go p e below s nc ns Q (T.setTop (mkF m pc Ls (v :: w :: St))) := by
  subst hp; exact Go.step (fun t q => XS.dupX1 X.here B.x (g := mkF m pc Ls (v :: w :: St)) rfl (B.d hd) rfl hv hw q) K
theorem g_dup2 (X : Stand p l e R s m args below meth c T locs cells slots) (B : Bdy p s m meth c Z a0 own nm bytes maxL rt tabs) {v w : Value} (hd : decode bytes pc = .ok (.dup2, 1)) (hp : pc + 1 = pc') (hv : v.category = 1) (hw : w.category = 1) (K : Go p e below s nc ns Q (T.setTop (mkF m pc' Ls (v :: w :: v :: w :: St)))) : Go p e below s nc ns Q (T.setTop (mkF m pc Ls (v :: w :: St))) := by
  subst hp; have hd' := B.d hd; have hx := B.x
  refine Go.step (fun t q => ?_) K
  jvm_step X.here [X.here.top, hx, hd', hv, hw]
  exact q
theorem g_dup2L (X : Stand p l e R s m args below meth c T locs cells slots) (B : Bdy p s m meth c Z a0 own nm bytes maxL rt tabs) {v : Int64} (hd : decode bytes pc = .ok (.dup2, 1)) (hp : pc + 1 = pc') (K : Go p e below s nc ns Q (T.setTop (mkF m pc' Ls (.long v :: .long v :: St)))) : Go p e below s nc ns Q (T.setTop (mkF m pc Ls (.long v :: St))) := by
  subst hp; have hd' := B.d hd; have hx := B.x
  refine Go.step (fun t q => ?_) K
  jvm_step X.here [X.here.top, hx, hd', Value.category]
  exact q
theorem g_pop (X : Stand p l e R s m args below meth c T locs cells slots) (B : Bdy p s m meth c Z a0 own nm bytes maxL rt tabs) {v : Value} (hd : decode bytes pc = .ok (.pop, 1)) (hp : pc + 1 = pc') (hv : v.category = 1) (K : Go p e below s nc ns Q (T.setTop (mkF m pc' Ls St))) : Go p e below s nc ns Q (T.setTop (mkF m pc Ls (v :: St))) := by
  subst hp; exact Go.step (fun t q => XS.pop X.here B.x (g := mkF m pc Ls (v :: St)) rfl (B.d hd) rfl hv q) K
theorem g_goto (X : Stand p l e R s m args below meth c T locs cells slots) (B : Bdy p s m meth c Z a0 own nm bytes maxL rt tabs) {o : Int} (hd : decode bytes pc = .ok (.goto o, 3)) (ho : 0 ≤ (pc : Int) + o) (hp : ((pc : Int) + o).toNat = pc') (K : Go p e below s nc ns Q (T.setTop (mkF m pc' Ls St))) : Go p e below s nc ns Q (T.setTop (mkF m pc Ls St)) :=
  Go.step (fun t q => XS.goto X.here B.x (g := mkF m pc Ls St) rfl rfl (B.d hd) ho hp q) K
/-! branches: K1 where the comparison holds, K2 where it doesn't -/
theorem g_icmp_lt (X : Stand p l e R s m args below meth c T locs cells slots) (B : Bdy p s m meth c Z a0 own nm bytes maxL rt tabs) {x y : Int32} {o : Int} {pcT pcF : Nat} (hd : decode bytes pc = .ok (.if_icmp .lt o, 3)) (ho : 0 ≤ (pc : Int) + o) (hT : ((pc : Int) + o).toNat = pcT) (hF : pc + 3 = pcF) (K1 : x < y → Go p e below s nc ns Q (T.setTop (mkF m pcT Ls St))) (K2 : ¬ x < y → Go p e below s nc ns Q (T.setTop (mkF m pcF Ls St))) : Go p e below s nc ns Q (T.setTop (mkF m pc Ls (.int y :: .int x :: St))) := by
  by_cases q : x < y
  · exact Go.step (fun t k => XS.icmpYes X.here B.x (g := mkF m pc Ls (.int y :: .int x :: St)) rfl rfl (B.d hd) rfl (tlt q).1 ho hT k) (K1 q)
  · subst hF; exact Go.step (fun t k => XS.icmpNo X.here B.x (g := mkF m pc Ls (.int y :: .int x :: St)) rfl (B.d hd) rfl (flt q).1 k) (K2 q)
theorem g_if_lt (X : Stand p l e R s m args below meth c T locs cells slots) (B : Bdy p s m meth c Z a0 own nm bytes maxL rt tabs) {x : Int32} {o : Int} {pcT pcF : Nat} (hd : decode bytes pc = .ok (.ifCond .lt o, 3)) (ho : 0 ≤ (pc : Int) + o) (hT : ((pc : Int) + o).toNat = pcT) (hF : pc + 3 = pcF) (K1 : x < (0 : Int32) → Go p e below s nc ns Q (T.setTop (mkF m pcT Ls St))) (K2 : ¬ x < (0 : Int32) → Go p e below s nc ns Q (T.setTop (mkF m pcF Ls St))) : Go p e below s nc ns Q (T.setTop (mkF m pc Ls (.int x :: St))) := by
  by_cases q : x < (0 : Int32)
  · exact Go.step (fun t k => XS.ifYes X.here B.x (g := mkF m pc Ls (.int x :: St)) rfl rfl (B.d hd) rfl ((if0 _ _).trans (tlt q).1) ho hT k) (K1 q)
  · subst hF; exact Go.step (fun t k => XS.ifNo X.here B.x (g := mkF m pc Ls (.int x :: St)) rfl (B.d hd) rfl ((if0 _ _).trans (flt q).1) k) (K2 q)
theorem g_lcmp_lt (X : Stand p l e R s m args below meth c T locs cells slots) (B : Bdy p s m meth c Z a0 own nm bytes maxL rt tabs) {x y : Int64} {o : Int} {pcT pcF : Nat} (hd1 : decode bytes pc = .ok (.lcmp, 1)) (hd : decode bytes (pc + 1) = .ok (.ifCond .lt o, 3)) (ho : 0 ≤ ((pc + 1 : Nat) : Int) + o) (hT : (((pc + 1 : Nat) : Int) + o).toNat = pcT) (hF : pc + 4 = pcF) (K1 : x < y → Go p e below s nc ns Q (T.setTop (mkF m pcT Ls St))) (K2 : ¬ x < y → Go p e below s nc ns Q (T.setTop (mkF m pcF Ls St))) : Go p e below s nc ns Q (T.setTop (mkF m pc Ls (.long y :: .long x :: St))) :=
  Go.step (fun t q => XS.lcmp X.here B.x (g := mkF m pc Ls (.long y :: .long x :: St)) rfl (B.d hd1) rfl q) (g_if_lt X B hd ho hT hF (fun q => K1 ((lw_lt x y).mp q)) (fun q => K2 fun z => q ((lw_lt x y).mpr z)))
theorem g_icmp_ge (X : Stand p l e R s m args below meth c T locs cells slots) (B : Bdy p s m meth c Z a0 own nm bytes maxL rt tabs) {x y : Int32} {o : Int} {pcT pcF : Nat} (hd : decode bytes pc = .ok (.if_icmp .ge o, 3)) (ho : 0 ≤ (pc : Int) + o) (hT : ((pc : Int) + o).toNat = pcT) (hF : pc + 3 = pcF) (K1 : x < y → Go p e below s nc ns Q (T.setTop (mkF m pcF Ls St))) (K2 : ¬ x < y → Go p e below s nc ns Q (T.setTop (mkF m pcT Ls St))) : Go p e below s nc ns Q (T.setTop (mkF m pc Ls (.int y :: .int x :: St))) := by
  by_cases q : x < y
  · subst hF; exact Go.step (fun t k => XS.icmpNo X.here B.x (g := mkF m pc Ls (.int y :: .int x :: St)) rfl (B.d hd) rfl (tlt q).2.1 k) (K1 q)
  · exact Go.step (fun t k => XS.icmpYes X.here B.x (g := mkF m pc Ls (.int y :: .int x :: St)) rfl rfl (B.d hd) rfl (flt q).2.1 ho hT k) (K2 q)
theorem g_if_ge (X : Stand p l e R s m args below meth c T locs cells slots) (B : Bdy p s m meth c Z a0 own nm bytes maxL rt tabs) {x : Int32} {o : Int} {pcT pcF : Nat} (hd : decode bytes pc = .ok (.ifCond .ge o, 3)) (ho : 0 ≤ (pc : Int) + o) (hT : ((pc : Int) + o).toNat = pcT) (hF : pc + 3 = pcF) (K1 : x < (0 : Int32) → Go p e below s nc ns Q (T.setTop (mkF m pcF Ls St))) (K2 : ¬ x < (0 : Int32) → Go p e below s nc ns Q (T.setTop (mkF m pcT Ls St))) : Go p e below s nc ns Q (T.setTop (mkF m pc Ls (.int x :: St))) := by
  by_cases q : x < (0 : Int32)
  · subst hF; exact Go.step (fun t k => XS.ifNo X.here B.x (g := mkF m pc Ls (.int x :: St)) rfl (B.d hd) rfl ((if0 _ _).trans (tlt q).2.1) k) (K1 q)
  · exact Go.step (fun t k => XS.ifYes X.here B.x (g := mkF m pc Ls (.int x :: St)) rfl rfl (B.d hd) rfl ((if0 _ _).trans (flt q).2.1) ho hT k) (K2 q)
theorem g_lcmp_ge (X : Stand p l e R s m args below meth c T locs cells slots) (B : Bdy p s m meth c Z a0 own nm bytes maxL rt tabs) {x y : Int64} {o : Int} {pcT pcF : Nat} (hd1 : decode bytes pc = .ok (.lcmp, 1)) (hd : decode bytes (pc + 1) = .ok (.ifCond .ge o, 3)) (ho : 0 ≤ ((pc + 1 : Nat) : Int) + o) (hT : (((pc + 1 : Nat) : Int) + o).toNat = pcT) (hF : pc + 4 = pcF) (K1 : x < y → Go p e below s nc ns Q (T.setTop (mkF m pcF Ls St))) (K2 : ¬ x < y → Go p e below s nc ns Q (T.setTop (mkF m pcT Ls St))) : Go p e below s nc ns Q (T.setTop (mkF m pc Ls (.long y :: .long x :: St))) :=
  Go.step (fun t q => XS.lcmp X.here B.x (g := mkF m pc Ls (.long y :: .long x :: St)) rfl (B.d hd1) rfl q) (g_if_ge X B hd ho hT hF (fun q => K1 ((lw_lt x y).mp q)) (fun q => K2 fun z => q ((lw_lt x y).mpr z)))
theorem g_icmp_gt (X : Stand p l e R s m args below meth c T locs cells slots) (B : Bdy p s m meth c Z a0 own nm bytes maxL rt tabs) {x y : Int32} {o : Int} {pcT pcF : Nat} (hd : decode bytes pc = .ok (.if_icmp .gt o, 3)) (ho : 0 ≤ (pc : Int) + o) (hT : ((pc : Int) + o).toNat = pcT) (hF : pc + 3 = pcF) (K1 : y < x → Go p e below s nc ns Q (T.setTop (mkF m pcT Ls St))) (K2 : ¬ y < x → Go p e below s nc ns Q (T.setTop (mkF m pcF Ls St))) : Go p e below s nc ns Q (T.setTop (mkF m pc Ls (.int y :: .int x :: St))) := by
  by_cases q : y < x
  · exact Go.step (fun t k => XS.icmpYes X.here B.x (g := mkF m pc Ls (.int y :: .int x :: St)) rfl rfl (B.d hd) rfl (tlt q).2.2.1 ho hT k) (K1 q)
  · subst hF; exact Go.step (fun t k => XS.icmpNo X.here B.x (g := mkF m pc Ls (.int y :: .int x :: St)) rfl (B.d hd) rfl (flt q).2.2.1 k) (K2 q)
theorem g_if_gt (X : Stand p l e R s m args below meth c T locs cells slots) (B : Bdy p s m meth c Z a0 own nm bytes maxL rt tabs) {x : Int32} {o : Int} {pcT pcF : Nat} (hd : decode bytes pc = .ok (.ifCond .gt o, 3)) (ho : 0 ≤ (pc : Int) + o) (hT : ((pc : Int) + o).toNat = pcT) (hF : pc + 3 = pcF) (K1 : (0 : Int32) < x → Go p e below s nc ns Q (T.setTop (mkF m pcT Ls St))) (K2 : ¬ (0 : Int32) < x → Go p e below s nc ns Q (T.setTop (mkF m pcF Ls St))) : Go p e below s nc ns Q (T.setTop (mkF m pc Ls (.int x :: St))) := by
  by_cases q : (0 : Int32) < x
  · exact Go.step (fun t k => XS.ifYes X.here B.x (g := mkF m pc Ls (.int x :: St)) rfl rfl (B.d hd) rfl ((if0 _ _).trans (tlt q).2.2.1) ho hT k) (K1 q)
  · subst hF; exact Go.step (fun t k => XS.ifNo X.here B.x (g := mkF m pc Ls (.int x :: St)) rfl (B.d hd) rfl ((if0 _ _).trans (flt q).2.2.1) k) (K2 q)
theorem g_lcmp_gt (X : Stand p l e R s m args below meth c T locs cells slots) (B : Bdy p s m meth c Z a0 own nm bytes maxL rt tabs) {x y : Int64} {o : Int} {pcT pcF : Nat} (hd1 : decode bytes pc = .ok (.lcmp, 1)) (hd : decode bytes (pc + 1) = .ok (.ifCond .gt o, 3)) (ho : 0 ≤ ((pc + 1 : Nat) : Int) + o) (hT : (((pc + 1 : Nat) : Int) + o).toNat = pcT) (hF : pc + 4 = pcF) (K1 : y < x → Go p e below s nc ns Q (T.setTop (mkF m pcT Ls St))) (K2 : ¬ y < x → Go p e below s nc ns Q (T.setTop (mkF m pcF Ls St))) : Go p e below s nc ns Q (T.setTop (mkF m pc Ls (.long y :: .long x :: St))) :=
  Go.step (fun t q => XS.lcmp X.here B.x (g := mkF m pc Ls (.long y :: .long x :: St)) rfl (B.d hd1) rfl q) (g_if_gt X B hd ho hT hF (fun q => K1 ((lw_gt x y).mp q)) (fun q => K2 fun z => q ((lw_gt x y).mpr z)))
theorem g_icmp_le (X : Stand p l e R s m args below meth c T locs cells slots) (B : Bdy p s m meth c Z a0 own nm bytes maxL rt tabs) {x y : Int32} {o : Int} {pcT pcF : Nat} (hd : decode bytes pc = .ok (.if_icmp .le o, 3)) (ho : 0 ≤ (pc : Int) + o) (hT : ((pc : Int) + o).toNat = pcT) (hF : pc + 3 = pcF) (K1 : y < x → Go p e below s nc ns Q (T.setTop (mkF m pcF Ls St))) (K2 : ¬ y < x → Go p e below s nc ns Q (T.setTop (mkF m pcT Ls St))) : Go p e below s nc ns Q (T.setTop (mkF m pc Ls (.int y :: .int x :: St))) := by
  by_cases q : y < x
  · subst hF; exact Go.step (fun t k => XS.icmpNo X.here B.x (g := mkF m pc Ls (.int y :: .int x :: St)) rfl (B.d hd) rfl (tlt q).2.2.2 k) (K1 q)
  · exact Go.step (fun t k => XS.icmpYes X.here B.x (g := mkF m pc Ls (.int y :: .int x :: St)) rfl rfl (B.d hd) rfl (flt q).2.2.2 ho hT k) (K2 q)
theorem g_if_le (X : Stand p l e R s m args below meth c T locs cells slots) (B : Bdy p s m meth c Z a0 own nm bytes maxL rt tabs) {x : Int32} {o : Int} {pcT pcF : Nat} (hd : decode bytes pc = .ok (.ifCond .le o, 3)) (ho : 0 ≤ (pc : Int) + o) (hT : ((pc : Int) + o).toNat = pcT) (hF : pc + 3 = pcF) (K1 : (0 : Int32) < x → Go p e below s nc ns Q (T.setTop (mkF m pcF Ls St))) (K2 : ¬ (0 : Int32) < x → Go p e below s nc ns Q (T.setTop (mkF m pcT Ls St))) : Go p e below s nc ns Q (T.setTop (mkF m pc Ls (.int x :: St))) := by
  by_cases q : (0 : Int32) < x
  · subst hF; exact Go.step (fun t k => XS.ifNo X.here B.x (g := mkF m pc Ls (.int x :: St)) rfl (B.d hd) rfl ((if0 _ _).trans (tlt q).2.2.2) k) (K1 q)
  · exact Go.step (fun t k => XS.ifYes X.here B.x (g := mkF m pc Ls (.int x :: St)) rfl rfl (B.d hd) rfl ((if0 _ _).trans (flt q).2.2.2) ho hT k) (K2 q)
theorem g_lcmp_le (X : Stand p l e R s m args below meth c T locs cells slots) (B : Bdy p s m meth c Z a0 own nm bytes maxL rt tabs) {x y : Int64} {o : Int} {pcT pcF : Nat} (hd1 : decode bytes pc = .ok (.lcmp, 1)) (hd : decode bytes (pc + 1) = .ok (.ifCond .le o, 3)) (ho : 0 ≤ ((pc + 1 : Nat) : Int) + o) (hT : (((pc + 1 : Nat) : Int) + o).toNat = pcT) (hF : pc + 4 = pcF) (K1 : y < x → Go p e below s nc ns Q (T.setTop (mkF m pcF Ls St))) (K2 : ¬ y < x → Go p e below s nc ns Q (T.setTop (mkF m pcT Ls St))) : Go p e below s nc ns Q (T.setTop (mkF m pc Ls (.long y :: .long x :: St))) :=
  Go.step (fun t q => XS.lcmp X.here B.x (g := mkF m pc Ls (.long y :: .long x :: St)) rfl (B.d hd1) rfl q) (g_if_le X B hd ho hT hF (fun q => K1 ((lw_gt x y).mp q)) (fun q => K2 fun z => q ((lw_gt x y).mpr z)))
theorem g_icmp_eq (X : Stand p l e R s m args below meth c T locs cells slots) (B : Bdy p s m meth c Z a0 own nm bytes maxL rt tabs) {x y : Int32} {o : Int} {pcT pcF : Nat} (hd : decode bytes pc = .ok (.if_icmp .eq o, 3)) (ho : 0 ≤ (pc : Int) + o) (hT : ((pc : Int) + o).toNat = pcT) (hF : pc + 3 = pcF) (K1 : x = y → Go p e below s nc ns Q (T.setTop (mkF m pcT Ls St))) (K2 : ¬ x = y → Go p e below s nc ns Q (T.setTop (mkF m pcF Ls St))) : Go p e below s nc ns Q (T.setTop (mkF m pc Ls (.int y :: .int x :: St))) := by
  by_cases q : x = y
  · exact Go.step (fun t k => XS.icmpYes X.here B.x (g := mkF m pc Ls (.int y :: .int x :: St)) rfl rfl (B.d hd) rfl (teq q).1 ho hT k) (K1 q)
  · subst hF; exact Go.step (fun t k => XS.icmpNo X.here B.x (g := mkF m pc Ls (.int y :: .int x :: St)) rfl (B.d hd) rfl (feq q).1 k) (K2 q)
theorem g_if_eq (X : Stand p l e R s m args below meth c T locs cells slots) (B : Bdy p s m meth c Z a0 own nm bytes maxL rt tabs) {x : Int32} {o : Int} {pcT pcF : Nat} (hd : decode bytes pc = .ok (.ifCond .eq o, 3)) (ho : 0 ≤ (pc : Int) + o) (hT : ((pc : Int) + o).toNat = pcT) (hF : pc + 3 = pcF) (K1 : x = (0 : Int32) → Go p e below s nc ns Q (T.setTop (mkF m pcT Ls St))) (K2 : ¬ x = (0 : Int32) → Go p e below s nc ns Q (T.setTop (mkF m pcF Ls St))) : Go p e below s nc ns Q (T.setTop (mkF m pc Ls (.int x :: St))) := by
  by_cases q : x = (0 : Int32)
  · exact Go.step (fun t k => XS.ifYes X.here B.x (g := mkF m pc Ls (.int x :: St)) rfl rfl (B.d hd) rfl ((if0 _ _).trans (teq q).1) ho hT k) (K1 q)
  · subst hF; exact Go.step (fun t k => XS.ifNo X.here B.x (g := mkF m pc Ls (.int x :: St)) rfl (B.d hd) rfl ((if0 _ _).trans (feq q).1) k) (K2 q)
theorem g_lcmp_eq (X : Stand p l e R s m args below meth c T locs cells slots) (B : Bdy p s m meth c Z a0 own nm bytes maxL rt tabs) {x y : Int64} {o : Int} {pcT pcF : Nat} (hd1 : decode bytes pc = .ok (.lcmp, 1)) (hd : decode bytes (pc + 1) = .ok (.ifCond .eq o, 3)) (ho : 0 ≤ ((pc + 1 : Nat) : Int) + o) (hT : (((pc + 1 : Nat) : Int) + o).toNat = pcT) (hF : pc + 4 = pcF) (K1 : x = y → Go p e below s nc ns Q (T.setTop (mkF m pcT Ls St))) (K2 : ¬ x = y → Go p e below s nc ns Q (T.setTop (mkF m pcF Ls St))) : Go p e below s nc ns Q (T.setTop (mkF m pc Ls (.long y :: .long x :: St))) :=
  Go.step (fun t q => XS.lcmp X.here B.x (g := mkF m pc Ls (.long y :: .long x :: St)) rfl (B.d hd1) rfl q) (g_if_eq X B hd ho hT hF (fun q => K1 ((lw_eq x y).mp q)) (fun q => K2 fun z => q ((lw_eq x y).mpr z)))
theorem g_icmp_ne (X : Stand p l e R s m args below meth c T locs cells slots) (B : Bdy p s m meth c Z a0 own nm bytes maxL rt tabs) {x y : Int32} {o : Int} {pcT pcF : Nat} (hd : decode bytes pc = .ok (.if_icmp .ne o, 3)) (ho : 0 ≤ (pc : Int) + o) (hT : ((pc : Int) + o).toNat = pcT) (hF : pc + 3 = pcF) (K1 : x = y → Go p e below s nc ns Q (T.setTop (mkF m pcF Ls St))) (K2 : ¬ x = y → Go p e below s nc ns Q (T.setTop (mkF m pcT Ls St))) : Go p e below s nc ns Q (T.setTop (mkF m pc Ls (.int y :: .int x :: St))) := by
  by_cases q : x = y
  · subst hF; exact Go.step (fun t k => XS.icmpNo X.here B.x (g := mkF m pc Ls (.int y :: .int x :: St)) rfl (B.d hd) rfl (teq q).2 k) (K1 q)
  · exact Go.step (fun t k => XS.icmpYes X.here B.x (g := mkF m pc Ls (.int y :: .int x :: St)) rfl rfl (B.d hd) rfl (feq q).2 ho hT k) (K2 q)
theorem g_if_ne (X : Stand p l e R s m args below meth c T locs cells slots) (B : Bdy p s m meth c Z a0 own nm bytes maxL rt tabs) {x : Int32} {o : Int} {pcT pcF : Nat} (hd : decode bytes pc = .ok (.ifCond .ne o, 3)) (ho : 0 ≤ (pc : Int) + o) (hT : ((pc : Int) + o).toNat = pcT) (hF : pc + 3 = pcF) (K1 : x = (0 : Int32) → Go p e below s nc ns Q (T.setTop (mkF m pcF Ls St))) (K2 : ¬ x = (0 : Int32) → Go p e below s nc ns Q (T.setTop (mkF m pcT Ls St))) : Go p e below s nc ns Q (T.setTop (mkF m pc Ls (.int x :: St))) := by
  by_cases q : x = (0 : Int32)
  · subst hF; exact Go.step (fun t k => XS.ifNo X.here B.x (g := mkF m pc Ls (.int x :: St)) rfl (B.d hd) rfl ((if0 _ _).trans (teq q).2) k) (K1 q)
  · exact Go.step (fun t k => XS.ifYes X.here B.x (g := mkF m pc Ls (.int x :: St)) rfl rfl (B.d hd) rfl ((if0 _ _).trans (feq q).2) ho hT k) (K2 q)
theorem g_lcmp_ne (X : Stand p l e R s m args below meth c T locs cells slots) (B : Bdy p s m meth c Z a0 own nm bytes maxL rt tabs) {x y : Int64} {o : Int} {pcT pcF : Nat} (hd1 : decode bytes pc = .ok (.lcmp, 1)) (hd : decode bytes (pc + 1) = .ok (.ifCond .ne o, 3)) (ho : 0 ≤ ((pc + 1 : Nat) : Int) + o) (hT : (((pc + 1 : Nat) : Int) + o).toNat = pcT) (hF : pc + 4 = pcF) (K1 : x = y → Go p e below s nc ns Q (T.setTop (mkF m pcF Ls St))) (K2 : ¬ x = y → Go p e below s nc ns Q (T.setTop (mkF m pcT Ls St))) : Go p e below s nc ns Q (T.setTop (mkF m pc Ls (.long y :: .long x :: St))) :=
  Go.step (fun t q => XS.lcmp X.here B.x (g := mkF m pc Ls (.long y :: .long x :: St)) rfl (B.d hd1) rfl q) (g_if_ne X B hd ho hT hF (fun q => K1 ((lw_eq x y).mp q)) (fun q => K2 fun z => q ((lw_eq x y).mpr z)))
/-! ends -/
theorem g_ret0 (X : Stand p l e R s m args below meth c T locs cells slots) (B : Bdy p s m meth c Z a0 own nm bytes maxL rt tabs) (hr : rt = none) (hd : decode bytes pc = .ok (.return_, 1)) (hc : cells ≤ nc) (hs : slots ≤ ns) (q : Q none T.heap locs) : Go p e below s nc ns Q (T.setTop (mkF m pc Ls [])) := by
  subst hr
  obtain ⟨fs, hr, hrun, hended, hW, hsame⟩ := X.leave (v := none) (fun _ => rfl) B.lk
  exact ⟨_, _, X.returnOut B.x B.r (B.d hd) hr, hrun, hended, _, _, rfl, q, ⟨_, rfl⟩, hW, hsame.mono hc hs⟩
theorem g_retV (X : Stand p l e R s m args below meth c T locs cells slots) (B : Bdy p s m meth c Z a0 own nm bytes maxL rt tabs) {w : Value} {t : FieldType} {i : Instr} (hr : rt = some t) (hn : narrow t w = w)
    (hi : (i = .ireturn ∧ (t = .int ∨ t = .boolean ∨ t = .byte ∨ t = .char ∨ t = .short) ∧ ∃ z, w = .int z) ∨ (i = .lreturn ∧ t = .long ∧ ∃ z, w = .long z) ∨ (i = .dreturn ∧ t = .double ∧ ∃ z, w = .double z) ∨ (i = .freturn ∧ t = .float ∧ ∃ z, w = .float z) ∨ (i = .areturn ∧ t.isReference = true ∧ w.isRef = true))
    (hd : decode bytes pc = .ok (i, 1)) (hc : cells ≤ nc) (hs : slots ≤ ns) (q : Q (some w) T.heap locs) : Go p e below s nc ns Q (T.setTop (mkF m pc Ls (w :: St))) := by
  subst hr
  obtain ⟨fs, hr, hrun, hended, hW, hsame⟩ := X.leave (v := some w) (fun h => by rw [B.r] at h; cases h) B.lk
  exact ⟨_, _, retOut X B.x B.r hn hi (B.d hd) hr, hrun, hended, _, _, rfl, q, ⟨_, rfl⟩, hW, hsame.mono hc hs⟩
theorem g_retI (X : Stand p l e R s m args below meth c T locs cells slots) (B : Bdy p s m meth c Z a0 own nm bytes maxL rt tabs) {z : Int32} (hr : rt = some .int) (hd : decode bytes pc = .ok (.ireturn, 1)) (hc : cells ≤ nc) (hs : slots ≤ ns) (q : Q (some (.int z)) T.heap locs) : Go p e below s nc ns Q (T.setTop (mkF m pc Ls (.int z :: St))) :=
  g_retV X B hr rfl (Or.inl ⟨rfl, Or.inl rfl, z, rfl⟩) hd hc hs q
theorem g_retL (X : Stand p l e R s m args below meth c T locs cells slots) (B : Bdy p s m meth c Z a0 own nm bytes maxL rt tabs) {z : Int64} (hr : rt = some .long) (hd : decode bytes pc = .ok (.lreturn, 1)) (hc : cells ≤ nc) (hs : slots ≤ ns) (q : Q (some (.long z)) T.heap locs) : Go p e below s nc ns Q (T.setTop (mkF m pc Ls (.long z :: St))) :=
  g_retV X B hr rfl (Or.inr (Or.inl ⟨rfl, rfl, z, rfl⟩)) hd hc hs q
theorem g_retA (X : Stand p l e R s m args below meth c T locs cells slots) (B : Bdy p s m meth c Z a0 own nm bytes maxL rt tabs) {w : Value} {t : FieldType} (hr : rt = some t) (ht : t.isReference = true) (hw : w.isRef = true) (hn : narrow t w = w) (hd : decode bytes pc = .ok (.areturn, 1)) (hc : cells ≤ nc) (hs : slots ≤ ns) (q : Q (some w) T.heap locs) : Go p e below s nc ns Q (T.setTop (mkF m pc Ls (w :: St))) :=
  g_retV X B hr hn (Or.inr (Or.inr (Or.inr (Or.inr ⟨rfl, ht, hw⟩)))) hd hc hs q
theorem g_retN (X : Stand p l e R s m args below meth c T locs cells slots) (B : Bdy p s m meth c Z a0 own nm bytes maxL rt tabs) {z : Int32} {t : FieldType} (hr : rt = some t) (ht : t = .boolean ∨ t = .byte ∨ t = .char ∨ t = .short) (hd : decode bytes pc = .ok (.ireturn, 1)) (hc : cells ≤ nc) (hs : slots ≤ ns) (q : Q (some (.int (nar t z))) T.heap locs) : Go p e below s nc ns Q (T.setTop (mkF m pc Ls (.int z :: St))) := by
  subst hr
  obtain ⟨fs, hr, hrun, hended, hW, hsame⟩ := X.leave (v := some (.int (nar t z))) (fun h => by rw [B.r] at h; cases h) B.lk
  exact ⟨_, _, retN X B.x B.r ht (B.d hd) hr, hrun, hended, _, _, rfl, q, ⟨_, rfl⟩, hW, hsame.mono hc hs⟩
/-! calls -/
abbrev Met (l : Launch) (Z : State) (y : MethodName) (yb : ByteArray) (ym : Nat) (yr : Option FieldType) (ws : List Jvm.Cond) (rm : Room) (as : Array Value) (h : Heap) (Qc : Option Value → Heap → List Loc → Prop) : Prop :=
  MetFree l y (head1 (Jvm.Cond.code y yb ym yr :: ws) rm) (fun a U => a = as ∧ Z.Warmed39 U.vm ∧ U.heap = h) (fun _ _ _ _ _ => True) (fun _ U o U' => ∃ v L, o = .returned v ∧ Qc v U'.heap L ∧ FrameEnd U o U' L rm.cells rm.slots)
theorem met_of {y : MethodName} {rm : Room} {as : Array Value} {ws : List Jvm.Cond} (hpl : plainFor y = true) (hw : ∀ d ∈ tabs, d.before a0 Z = true)
    (body : ∀ (p : Program) (e : Env) (s : State) (m : MethodId) (below : List Frame) (meth : Method) (c : Code) (T : State), Stand p l e rm s m as below meth c T [] 0 0 → Bdy p s m meth c Z a0 y.cls y.name bytes maxL rt tabs → T.heap = h → Go p e below s rm.cells rm.slots Q (T.setTop (entryFrame m as maxL))) :
    Met l Z y bytes maxL rt ws rm as h Q := by
  refine MetFree.of_bodySF hpl hisR ?_
  intro p e s m args below meth c s₁ Bd hml0 hP hK
  obtain ⟨rfl, hZ, hh⟩ := hP
  exact body p e s m below meth c s₁ (Stand.of_body Bd) ⟨Bd.exec, hZ, hw, Bd.bytes, hml0, findClass_of_methodNamed Bd.named, Bd.returns, BodyLoose.notSynchronized Bd, (name_of_methodNamed Bd.named Bd.method).1⟩ (by rw [← hh, Bd.state]; rfl)
theorem g_callS (X : Stand p l e R s m args below meth c T locs cells slots) (B : Bdy p s m meth c Z a0 own nm bytes maxL rt tabs) {y : MethodName} {i : Nat} {yb : ByteArray} {ym : Nat} {yr : Option FieldType} {rm : Room} {argsL rest : List Value} {Qc : Option Value → Heap → List Loc → Prop} (eT : T.heap = h) (W : Nat)
    (w1 : (Jvm.Cond.methodLink own i y).before a0 Z = true) (w2 : (Jvm.Cond.static y).before a0 Z = true) (w3 : (Jvm.Cond.initialized y.cls).before a0 Z = true) (w4 : (Jvm.Cond.code y yb ym yr).before a0 Z = true) (hy : y.cls ≠ "java/lang/invoke/MethodHandle" ∧ y.cls ≠ "java/lang/invoke/VarHandle")
    (M : Met l Z y yb ym yr [] rm argsL.toArray h Qc) (hf : rm.frames + 1 ≤ R.frames) (hl : W + (ym + 11) + rm.locals ≤ R.locals) (hc : cells + rm.cells ≤ R.cells) (hs : slots + rm.slots ≤ R.slots)
    (hsz : Ls.size = maxL) (hlen : ∀ sig, parseMethodDescriptor y.desc = some sig → argsL.length = sig.parameters.length) (hst : St = argsL.reverse ++ rest) (hW : (rest.map fun v => v.category).sum ≤ W) (hd : decode bytes pc = .ok (.invokestatic i, 3)) (hp : pc + 3 = pc')
    (K : ∀ (T' : State) (v : Option Value) (L : List Loc), Stand p l e R s m args below meth c T' (locs ++ L) (cells + rm.cells) (slots + rm.slots) → Qc v T'.heap L → Go p e below s nc ns Q (T'.setTop (mkF m pc' Ls (v.toList ++ rest)))) : Go p e below s nc ns Q (T.setTop (mkF m pc Ls St)) := by
  subst hp
  obtain ⟨v, _, ⟨T', L', k', n'⟩, -, X', ⟨Lc, hQ, l', y', z'⟩, st⟩ := Jvm.LawKit.callS X B.x (y := y) B.o (mvT B.z w1) (mvT B.z w2) (mvT B.z w3) (mvT B.z w4) hy (backOf (W := W) M B.z w4 w3 hf hl) (g := mkF m pc Ls St) rfl (by rw [B.ml]; exact hsz) (argsL := argsL) (rest := rest) hlen hst (by show 2 * 0 + _ ≤ _; omega) (B.d hd) (fun _ _ => ⟨rfl, eT, hc, hs⟩)
  dsimp only [Pt.U, Pt.locs, Pt.cells, Pt.slots] at X' l' y' z' st hQ
  subst l' y' z'
  exact Go.step st (K T' v Lc X' hQ)
theorem g_callP (X : Stand p l e R s m args below meth c T locs cells slots) (B : Bdy p s m meth c Z a0 own nm bytes maxL rt tabs) {y : MethodName} {i : Nat} {yb : ByteArray} {ym : Nat} {yr : Option FieldType} {fr lo : Nat} {argsL rest : List Value} {w : Value} (eT : T.heap = h) (W : Nat)
    (w1 : (Jvm.Cond.methodLink own i y).before a0 Z = true) (w2 : (Jvm.Cond.static y).before a0 Z = true) (w3 : (Jvm.Cond.initialized y.cls).before a0 Z = true) (w4 : (Jvm.Cond.code y yb ym yr).before a0 Z = true) (hy : y.cls ≠ "java/lang/invoke/MethodHandle" ∧ y.cls ≠ "java/lang/invoke/VarHandle")
    (M : Met l Z y yb ym yr [] ⟨fr, 0, 0, lo⟩ argsL.toArray h (PQ (some w) h [])) (hf : fr + 1 ≤ R.frames) (hl : W + (ym + 11) + lo ≤ R.locals) (hc : cells ≤ R.cells) (hs : slots ≤ R.slots)
    (hsz : Ls.size = maxL) (hlen : ∀ sig, parseMethodDescriptor y.desc = some sig → argsL.length = sig.parameters.length) (hst : St = argsL.reverse ++ rest) (hW : (rest.map fun v => v.category).sum ≤ W) (hd : decode bytes pc = .ok (.invokestatic i, 3)) (hp : pc + 3 = pc')
    (K : ∀ (T' : State), Stand p l e R s m args below meth c T' locs cells slots → T'.heap = h → Go p e below s nc ns Q (T'.setTop (mkF m pc' Ls (w :: rest)))) : Go p e below s nc ns Q (T.setTop (mkF m pc Ls St)) := by
  refine g_callS X B eT W w1 w2 w3 w4 hy M hf hl hc hs hsz hlen hst hW hd hp fun T' v L X' q => ?_
  obtain ⟨rfl, q2, rfl⟩ := q
  rw [List.append_nil] at X'
  exact K T' X' q2
end GoKit
/-! own frame, the heap's steps -/
def Ax (Z : State) (h : Heap) (a : Addr) (ty : FieldType) (n : Nat) (w : Nat → Value) : Prop := n < 2147483648 ∧ ∃ c : Cell, Arr Z h a c ty ∧ c.slots.size = n ∧ ∀ j, j < n → c.slots[j]? = some (w j)
section HeapKit
variable {p : Program} {l : Launch} {e : Env} {R : Room} {s : State} {m : MethodId} {args : Array Value} {below : List Frame} {meth : Method} {c : Code} {T : State} {locs : List Loc} {cells slots : Nat} {Z : State} {a0 : Array Value} {h h' : Heap} {nc ns : Nat} {Q Q' : Option Value → Heap → List Loc → Prop} {pc pc' : Nat} {Ls Ls' : Array Slot} {St : List Value} {own nm : String} {bytes : ByteArray} {maxL : Nat} {rt : Option FieldType} {tabs : List Jvm.Cond}
theorem Ax.lt {a : Addr} {ty : FieldType} {n : Nat} {w : Nat → Value} (F : Ax Z h a ty n w) : a < h.size := by obtain ⟨-, c, A, -⟩ := F; exact A.lt
theorem Ax.ext {a : Addr} {ty : FieldType} {n : Nat} {w : Nat → Value} (F : Ax Z h a ty n w) (E : Ext h h') : Ax Z h' a ty n w := by obtain ⟨h0, c, A, r⟩ := F; exact ⟨h0, c, A.ext E, r⟩
theorem Ax.other {a b : Addr} {ty : FieldType} {n sl : Nat} {v : Value} {w : Nat → Value} (F : Ax Z h b ty n w) (W : Wr h h' a sl v) (q : b ≠ a) : Ax Z h' b ty n w := by obtain ⟨h0, c, A, r⟩ := F; exact ⟨h0, c, A.other W q, r⟩
theorem Ax.keep {a : Addr} {ty : FieldType} {n : Nat} {w : Nat → Value} {ws : List Addr} (F : Ax Z h a ty n w) (K : Keep h h' ws) (q : a ∉ ws) : Ax Z h' a ty n w := by obtain ⟨h0, c, A, r⟩ := F; exact ⟨h0, c, ⟨K.2.1 a c A.1 q, A.2⟩, r⟩
theorem Ax.set {a : Addr} {ty : FieldType} {n k : Nat} {v : Value} {w : Nat → Value} (F : Ax Z h a ty n w) (W : Wr h h' a k v) : Ax Z h' a ty n (fun j => if j = k then v else w j) := by
  obtain ⟨h0, c, A, r1, r2⟩ := F
  refine ⟨h0, _, A.same W, by rw [sz_set]; exact r1, fun j hj => ?_⟩
  by_cases q : j = k
  · subst q; simp [Cell.setSlot, r1, hj]
  · simp only [Cell.setSlot, if_neg q]; rw [Array.getElem?_setIfInBounds_ne (Ne.symm q)]; exact r2 j hj
theorem Ax.eqw {a : Addr} {ty : FieldType} {n : Nat} {w w' : Nat → Value} (F : Ax Z h a ty n w) (q : ∀ j, j < n → w j = w' j) : Ax Z h a ty n w' := by
  obtain ⟨h0, c, A, r1, r2⟩ := F
  exact ⟨h0, c, A, r1, fun j hj => by rw [← q j hj]; exact r2 j hj⟩
theorem own_idx {j : Int32} {k n : Nat} (hk : j.toInt = (k : Int)) (hn : k < n) : ¬ (j < 0 ∨ n ≤ j.toNatClampNeg) ∧ j.toNatClampNeg = k := by
  have e0 : (0 : Int32).toInt = 0 := rfl
  have e1 : j.toNatClampNeg = j.toInt.toNat := rfl
  rw [Int32.lt_iff_toInt_lt, e0, e1, hk]; omega
theorem g_getF (X : Stand p l e R s m args below meth c T locs cells slots) (B : Bdy p s m meth c Z a0 own nm bytes maxL rt tabs) {i : Nat} {R0 O n d : String} {a : Addr} {v : Value} (w : (Jvm.Cond.fieldLink own i R0 n d).before a0 Z = true) (via : Via Z R0 O n d) (eT : T.heap = h) (F : Fld Z h a O n d v) (hd : decode bytes pc = .ok (.getfield i, 3)) (hp : pc + 3 = pc')
    (K : ∀ T' : State, Stand p l e R s m args below meth c T' locs cells slots → T'.heap = h → Go p e below s nc ns Q (T'.setTop (mkF m pc' Ls (v :: St)))) : Go p e below s nc ns Q (T.setTop (mkF m pc Ls (.ref a :: St))) := by
  subst hp
  obtain ⟨T', X', e', st⟩ := getF X B.x B.z B.o (host := "") (Or.inl w) via eT F (g := mkF m pc Ls (.ref a :: St)) rfl rfl (B.d hd)
  exact Go.step st (K T' X' e')
theorem g_putF (X : Stand p l e R s m args below meth c T locs cells slots) (B : Bdy p s m meth c Z a0 own nm bytes maxL rt tabs) {i kk : Nat} {R0 O n d C : String} {a : Addr} {v old : Value} {ty : FieldType} (w : (Jvm.Cond.fieldLink own i R0 n d).before a0 Z = true) (via : Via Z R0 O n d) (eT : T.heap = h) (F : Fld Z h a O n d old) (E : Exa Z h a C)
    (L : (Jvm.Cond.lays C O n d).before a0 Z = true ∨ ((Jvm.Cond.laysFinal C O n d).before a0 Z = true ∧ own = O ∧ nm = "<init>")) (wi : (Jvm.Cond.instantiable C kk).before a0 Z = true) (hty : parseFieldDescriptor d = some ty) (hn : narrow ty v = v) (hf : fits ty v = true)
    (hd : decode bytes pc = .ok (.putfield i, 3)) (hp : pc + 3 = pc')
    (K : ∀ (T' : State) (h' : Heap), Stand p l e R s m args below meth c T' (locs ++ [⟨a, Jvm.RoadKit.slotOf Z O n d⟩]) cells slots → T'.heap = h' → Wr h h' a (Jvm.RoadKit.slotOf Z O n d) v → Go p e below s nc ns Q (T'.setTop (mkF m pc' Ls St))) : Go p e below s nc ns Q (T.setTop (mkF m pc Ls (v :: .ref a :: St))) := by
  subst hp
  obtain ⟨T', h', X', e', W, st⟩ := putF X B.x B.z B.o (host := "") (Or.inl w) via eT F E (L.imp id fun q => ⟨q.1, q.2.1, B.n.trans q.2.2⟩) wi hty hn hf (g := mkF m pc Ls (v :: .ref a :: St)) rfl rfl (B.d hd)
  exact Go.step st (K T' h' X' e' W)
theorem g_getS (X : Stand p l e R s m args below meth c T locs cells slots) (B : Bdy p s m meth c Z a0 own nm bytes maxL rt tabs) {i : Nat} {R0 O n d : String} {v : Value} (w : (Jvm.Cond.fieldLink own i R0 n d).before a0 Z = true) (via : Via Z R0 O n d) (eT : T.heap = h) (F : Sta Z h O n d v) (hd : decode bytes pc = .ok (.getstatic i, 3)) (hp : pc + 3 = pc')
    (K : ∀ T' : State, Stand p l e R s m args below meth c T' locs cells slots → T'.heap = h → Go p e below s nc ns Q (T'.setTop (mkF m pc' Ls (v :: St)))) : Go p e below s nc ns Q (T.setTop (mkF m pc Ls St)) := by
  subst hp
  obtain ⟨T', X', e', st⟩ := getS X B.x B.z B.o (host := "") w via eT F (g := mkF m pc Ls St) rfl (B.d hd)
  exact Go.step st (K T' X' e')
theorem g_new (X : Stand p l e R s m args below meth c T locs cells slots) (B : Bdy p s m meth c Z a0 own nm bytes maxL rt tabs) {i n : Nat} {C : String} (w : (Jvm.Cond.classLink own i C).before a0 Z = true) (wi : (Jvm.Cond.instantiable C n).before a0 Z = true) (wz : (Jvm.Cond.initialized C).before a0 Z = true) (eT : T.heap = h) (hd : decode bytes pc = .ok (.new i, 3)) (hp : pc + 3 = pc') (hc : cells + 1 ≤ R.cells) (hl : slots + n ≤ R.slots)
    (K : ∀ (T' : State) (h' : Heap) (a : Addr), a = h.size → Stand p l e R s m args below meth c T' locs (cells + 1) (slots + n) → T'.heap = h' → Ext h h' → Exa Z h' a C → (∀ {O nm d : String} {ty : FieldType}, Laid Z a0 C O nm d → parseFieldDescriptor d = some ty → Fld Z h' a O nm d (defaultValue ty)) → Go p e below s nc ns Q (T'.setTop (mkF m pc' Ls (.ref a :: St)))) : Go p e below s nc ns Q (T.setTop (mkF m pc Ls St)) := by
  subst hp
  obtain ⟨T', h', X', e', E, A, D, -, st⟩ := newO X B.x B.z B.o w wi wz eT (g := mkF m pc Ls St) rfl (B.d hd) hc hl
  exact Go.step st (K T' h' _ rfl X' e' E A D)
theorem g_newA (X : Stand p l e R s m args below meth c T locs cells slots) (B : Bdy p s m meth c Z a0 own nm bytes maxL rt tabs) {aty : ArrayType} {z : Int32} (k cap : Nat) (w : (Jvm.Cond.arrayClass (newarray.typeOf aty)).before a0 Z = true) (eT : T.heap = h) (hz : z.toInt = (k : Int)) (hcap : k ≤ cap) (hb : cap * 8 ≤ 536870912) (hd : decode bytes pc = .ok (.newarray aty, 2)) (hp : pc + 2 = pc') (hc : cells + 1 ≤ R.cells) (hl : slots + cap ≤ R.slots)
    (K : ∀ (T' : State) (h' : Heap) (a : Addr), a = h.size → Stand p l e R s m args below meth c T' locs (cells + 1) (slots + cap) → T'.heap = h' → Ext h h' → Ax Z h' a (newarray.typeOf aty) k (fun _ => defaultValue (newarray.typeOf aty)) → Go p e below s nc ns Q (T'.setTop (mkF m pc' Ls (.ref a :: St)))) : Go p e below s nc ns Q (T.setTop (mkF m pc Ls (.int z :: St))) := by
  subst hp
  have e1 : z.toNatClampNeg = k := by show z.toInt.toNat = k; omega
  have e0 : (0 : Int32).toInt = 0 := rfl
  have hlt := z.toInt_lt
  obtain ⟨T', h', cA, X', e', E, A, st⟩ := newP X B.x B.z w eT (g := mkF m pc Ls (.int z :: St)) rfl (B.d hd) rfl (by rw [Int32.lt_iff_toInt_lt, e0]; omega) (cap := cap) (by omega) hb hc hl
  refine Go.step st (K T' h' _ rfl X' e' E ⟨by omega, _, A, (sz_new _ _ _).trans e1, fun j hj => ?_⟩)
  simp [newA, e1, hj]
theorem g_arrlen (X : Stand p l e R s m args below meth c T locs cells slots) (B : Bdy p s m meth c Z a0 own nm bytes maxL rt tabs) {a : Addr} {ty : FieldType} {n : Nat} {w : Nat → Value} (z : Int32) (eT : T.heap = h) (F : Ax Z h a ty n w) (hz : z.toInt = (n : Int)) (hd : decode bytes pc = .ok (.arraylength, 1)) (hp : pc + 1 = pc') (K : Go p e below s nc ns Q (T.setTop (mkF m pc' Ls (.int z :: St)))) : Go p e below s nc ns Q (T.setTop (mkF m pc Ls (.ref a :: St))) := by
  subst hp
  obtain ⟨h0, c, A, r1, -⟩ := F
  have ez : c.slots.size.toInt32 = z := by
    apply Int32.toInt_inj.mp; rw [hz, r1]; exact Int32.toInt_ofNat_small (by omega)
  refine Go.step (fun t q => X.arraylength B.x (by rw [eT]; exact A.1) (State.isArrayOf_alike B.z.alike A.2.1) (g := mkF m pc Ls (.ref a :: St)) rfl rfl (B.d hd) t (by rw [ez]; exact q)) K
theorem g_iaload (X : Stand p l e R s m args below meth c T locs cells slots) (B : Bdy p s m meth c Z a0 own nm bytes maxL rt tabs) {a : Addr} {n : Nat} {w : Nat → Value} {j : Int32} {v : Value} (k : Nat) (eT : T.heap = h) (F : Ax Z h a .int n w) (hk : j.toInt = (k : Int)) (hn : k < n) (hv : w k = v) (hd : decode bytes pc = .ok (.iaload, 1)) (hp : pc + 1 = pc') (K : Go p e below s nc ns Q (T.setTop (mkF m pc' Ls (v :: St)))) : Go p e below s nc ns Q (T.setTop (mkF m pc Ls (.int j :: .ref a :: St))) := by
  subst hp
  obtain ⟨h0, c, A, r1, r2⟩ := F
  obtain ⟨q1, q2⟩ := own_idx hk hn
  exact Go.step (fun t q => X.iaload B.x (v := v) (by rw [eT]; exact A.1) (State.isArrayOf_alike B.z.alike A.2.1) A.2.2 (by rw [r1]; exact q1) (by rw [q2, ← hv]; exact r2 k hn) (g := mkF m pc Ls (.int j :: .ref a :: St)) rfl rfl (B.d hd) t q) K
theorem g_laload (X : Stand p l e R s m args below meth c T locs cells slots) (B : Bdy p s m meth c Z a0 own nm bytes maxL rt tabs) {a : Addr} {n : Nat} {w : Nat → Value} {j : Int32} {v : Value} (k : Nat) (eT : T.heap = h) (F : Ax Z h a .long n w) (hk : j.toInt = (k : Int)) (hn : k < n) (hv : w k = v) (hd : decode bytes pc = .ok (.laload, 1)) (hp : pc + 1 = pc') (K : Go p e below s nc ns Q (T.setTop (mkF m pc' Ls (v :: St)))) : Go p e below s nc ns Q (T.setTop (mkF m pc Ls (.int j :: .ref a :: St))) := by
  subst hp
  obtain ⟨h0, c, A, r1, r2⟩ := F
  obtain ⟨q1, q2⟩ := own_idx hk hn
  exact Go.step (fun t q => X.laload B.x (v := v) (by rw [eT]; exact A.1) (State.isArrayOf_alike B.z.alike A.2.1) A.2.2 (by rw [r1]; exact q1) (by rw [q2, ← hv]; exact r2 k hn) (g := mkF m pc Ls (.int j :: .ref a :: St)) rfl rfl (B.d hd) t q) K
theorem g_baloadB (X : Stand p l e R s m args below meth c T locs cells slots) (B : Bdy p s m meth c Z a0 own nm bytes maxL rt tabs) {a : Addr} {n : Nat} {w : Nat → Value} {j : Int32} {v : Value} (k : Nat) (eT : T.heap = h) (F : Ax Z h a .byte n w) (hk : j.toInt = (k : Int)) (hn : k < n) (hv : w k = v) (hd : decode bytes pc = .ok (.baload, 1)) (hp : pc + 1 = pc') (K : Go p e below s nc ns Q (T.setTop (mkF m pc' Ls (v :: St)))) : Go p e below s nc ns Q (T.setTop (mkF m pc Ls (.int j :: .ref a :: St))) := by
  subst hp
  obtain ⟨h0, c, A, r1, r2⟩ := F
  obtain ⟨q1, q2⟩ := own_idx hk hn
  exact Go.step (fun t q => X.baloadBytes B.x (v := v) (by rw [eT]; exact A.1) (State.isArrayOf_alike B.z.alike A.2.1) A.2.2 (by rw [r1]; exact q1) (by rw [q2, ← hv]; exact r2 k hn) (g := mkF m pc Ls (.int j :: .ref a :: St)) rfl rfl (B.d hd) t q) K
theorem g_baloadZ (X : Stand p l e R s m args below meth c T locs cells slots) (B : Bdy p s m meth c Z a0 own nm bytes maxL rt tabs) {a : Addr} {n : Nat} {w : Nat → Value} {j : Int32} {v : Value} (k : Nat) (eT : T.heap = h) (F : Ax Z h a .boolean n w) (hk : j.toInt = (k : Int)) (hn : k < n) (hv : w k = v) (hd : decode bytes pc = .ok (.baload, 1)) (hp : pc + 1 = pc') (K : Go p e below s nc ns Q (T.setTop (mkF m pc' Ls (v :: St)))) : Go p e below s nc ns Q (T.setTop (mkF m pc Ls (.int j :: .ref a :: St))) := by
  subst hp
  obtain ⟨h0, c, A, r1, r2⟩ := F
  obtain ⟨q1, q2⟩ := own_idx hk hn
  exact Go.step (fun t q => X.baloadBooleans B.x (v := v) (by rw [eT]; exact A.1) (State.isArrayOf_alike B.z.alike A.2.1) A.2.2 (by rw [r1]; exact q1) (by rw [q2, ← hv]; exact r2 k hn) (g := mkF m pc Ls (.int j :: .ref a :: St)) rfl rfl (B.d hd) t q) K
theorem g_iastore (X : Stand p l e R s m args below meth c T locs cells slots) (B : Bdy p s m meth c Z a0 own nm bytes maxL rt tabs) {a : Addr} {n : Nat} {w : Nat → Value} {j x : Int32} (k : Nat) (eT : T.heap = h) (F : Ax Z h a .int n w) (hk : j.toInt = (k : Int)) (hn : k < n) (hd : decode bytes pc = .ok (.iastore, 1)) (hp : pc + 1 = pc')
    (K : ∀ (T' : State) (h' : Heap), Stand p l e R s m args below meth c T' (locs ++ [⟨a, k⟩]) cells slots → T'.heap = h' → Wr h h' a k (.int x) → Go p e below s nc ns Q (T'.setTop (mkF m pc' Ls St))) : Go p e below s nc ns Q (T.setTop (mkF m pc Ls (.int x :: .int j :: .ref a :: St))) := by
  subst hp
  obtain ⟨h0, c, A, r1, r2⟩ := F
  obtain ⟨q1, q2⟩ := own_idx hk hn
  obtain ⟨T', h', X', e', W, st⟩ := stI X B.x B.z eT A (j := j) (x := x) (by rw [r1]; exact q1) (g := mkF m pc Ls (.int x :: .int j :: .ref a :: St)) rfl rfl (B.d hd)
  rw [q2] at X' W
  exact Go.step st (K T' h' X' e' W)
theorem g_lastore (X : Stand p l e R s m args below meth c T locs cells slots) (B : Bdy p s m meth c Z a0 own nm bytes maxL rt tabs) {a : Addr} {n : Nat} {w : Nat → Value} {j : Int32} {x : Int64} (k : Nat) (eT : T.heap = h) (F : Ax Z h a .long n w) (hk : j.toInt = (k : Int)) (hn : k < n) (hd : decode bytes pc = .ok (.lastore, 1)) (hp : pc + 1 = pc')
    (K : ∀ (T' : State) (h' : Heap), Stand p l e R s m args below meth c T' (locs ++ [⟨a, k⟩]) cells slots → T'.heap = h' → Wr h h' a k (.long x) → Go p e below s nc ns Q (T'.setTop (mkF m pc' Ls St))) : Go p e below s nc ns Q (T.setTop (mkF m pc Ls (.long x :: .int j :: .ref a :: St))) := by
  subst hp
  obtain ⟨h0, c, A, r1, r2⟩ := F
  obtain ⟨q1, q2⟩ := own_idx hk hn
  obtain ⟨T', h', X', e', W, st⟩ := stJ X B.x B.z eT A (j := j) (x := x) (by rw [r1]; exact q1) (g := mkF m pc Ls (.long x :: .int j :: .ref a :: St)) rfl rfl (B.d hd)
  rw [q2] at X' W
  exact Go.step st (K T' h' X' e' W)
theorem g_bastoreB (X : Stand p l e R s m args below meth c T locs cells slots) (B : Bdy p s m meth c Z a0 own nm bytes maxL rt tabs) {a : Addr} {n : Nat} {w : Nat → Value} {j x : Int32} (k : Nat) (eT : T.heap = h) (F : Ax Z h a .byte n w) (hk : j.toInt = (k : Int)) (hn : k < n) (hd : decode bytes pc = .ok (.bastore, 1)) (hp : pc + 1 = pc')
    (K : ∀ (T' : State) (h' : Heap), Stand p l e R s m args below meth c T' (locs ++ [⟨a, k⟩]) cells slots → T'.heap = h' → Wr h h' a k (.int (nar .byte x)) → Go p e below s nc ns Q (T'.setTop (mkF m pc' Ls St))) : Go p e below s nc ns Q (T.setTop (mkF m pc Ls (.int x :: .int j :: .ref a :: St))) := by
  subst hp
  obtain ⟨h0, c, A, r1, r2⟩ := F
  obtain ⟨q1, q2⟩ := own_idx hk hn
  obtain ⟨T', h', X', e', W, st⟩ := stB X B.x B.z eT A (j := j) (x := x) (by rw [r1]; exact q1) (g := mkF m pc Ls (.int x :: .int j :: .ref a :: St)) rfl rfl (B.d hd)
  rw [q2] at X' W
  exact Go.step st (K T' h' X' e' W)
theorem g_bastoreZ (X : Stand p l e R s m args below meth c T locs cells slots) (B : Bdy p s m meth c Z a0 own nm bytes maxL rt tabs) {a : Addr} {n : Nat} {w : Nat → Value} {j x : Int32} (k : Nat) (eT : T.heap = h) (F : Ax Z h a .boolean n w) (hk : j.toInt = (k : Int)) (hn : k < n) (hd : decode bytes pc = .ok (.bastore, 1)) (hp : pc + 1 = pc')
    (K : ∀ (T' : State) (h' : Heap), Stand p l e R s m args below meth c T' (locs ++ [⟨a, k⟩]) cells slots → T'.heap = h' → Wr h h' a k (.int (nar .boolean x)) → Go p e below s nc ns Q (T'.setTop (mkF m pc' Ls St))) : Go p e below s nc ns Q (T.setTop (mkF m pc Ls (.int x :: .int j :: .ref a :: St))) := by
  subst hp
  obtain ⟨h0, c, A, r1, r2⟩ := F
  obtain ⟨q1, q2⟩ := own_idx hk hn
  obtain ⟨T', h', X', e', W, st⟩ := stZ X B.x B.z eT A (j := j) (x := x) (by rw [r1]; exact q1) (g := mkF m pc Ls (.int x :: .int j :: .ref a :: St)) rfl rfl (B.d hd)
  rw [q2] at X' W
  exact Go.step st (K T' h' X' e' W)
theorem g_castore (X : Stand p l e R s m args below meth c T locs cells slots) (B : Bdy p s m meth c Z a0 own nm bytes maxL rt tabs) {a : Addr} {n : Nat} {w : Nat → Value} {j x : Int32} (k : Nat) (eT : T.heap = h) (F : Ax Z h a .char n w) (hk : j.toInt = (k : Int)) (hn : k < n) (hd : decode bytes pc = .ok (.castore, 1)) (hp : pc + 1 = pc')
    (K : ∀ (T' : State) (h' : Heap), Stand p l e R s m args below meth c T' (locs ++ [⟨a, k⟩]) cells slots → T'.heap = h' → Wr h h' a k (.int (nar .char x)) → Go p e below s nc ns Q (T'.setTop (mkF m pc' Ls St))) : Go p e below s nc ns Q (T.setTop (mkF m pc Ls (.int x :: .int j :: .ref a :: St))) := by
  subst hp
  obtain ⟨h0, c, A, r1, r2⟩ := F
  obtain ⟨q1, q2⟩ := own_idx hk hn
  obtain ⟨T', h', X', e', W, st⟩ := stC X B.x B.z eT A (j := j) (x := x) (by rw [r1]; exact q1) (g := mkF m pc Ls (.int x :: .int j :: .ref a :: St)) rfl rfl (B.d hd)
  rw [q2] at X' W
  exact Go.step st (K T' h' X' e' W)
theorem g_sastore (X : Stand p l e R s m args below meth c T locs cells slots) (B : Bdy p s m meth c Z a0 own nm bytes maxL rt tabs) {a : Addr} {n : Nat} {w : Nat → Value} {j x : Int32} (k : Nat) (eT : T.heap = h) (F : Ax Z h a .short n w) (hk : j.toInt = (k : Int)) (hn : k < n) (hd : decode bytes pc = .ok (.sastore, 1)) (hp : pc + 1 = pc')
    (K : ∀ (T' : State) (h' : Heap), Stand p l e R s m args below meth c T' (locs ++ [⟨a, k⟩]) cells slots → T'.heap = h' → Wr h h' a k (.int (nar .short x)) → Go p e below s nc ns Q (T'.setTop (mkF m pc' Ls St))) : Go p e below s nc ns Q (T.setTop (mkF m pc Ls (.int x :: .int j :: .ref a :: St))) := by
  subst hp
  obtain ⟨h0, c, A, r1, r2⟩ := F
  obtain ⟨q1, q2⟩ := own_idx hk hn
  obtain ⟨T', h', X', e', W, st⟩ := stS X B.x B.z eT A (j := j) (x := x) (by rw [r1]; exact q1) (g := mkF m pc Ls (.int x :: .int j :: .ref a :: St)) rfl rfl (B.d hd)
  rw [q2] at X' W
  exact Go.step st (K T' h' X' e' W)
theorem g_initO (X : Stand p l e R s m args below meth c T locs cells slots) (B : Bdy p s m meth c Z a0 own nm bytes maxL rt tabs) {i : Nat} {a : Addr} (W : Nat) (w1 : (Jvm.Cond.methodLink own i Lib.objectInit).before a0 Z = true) (w2 : (Jvm.Cond.instanceMethod Lib.objectInit).before a0 Z = true) (w3 : (Jvm.Cond.code Lib.objectInit ⟨#[0xb1]⟩ 1 none).before a0 Z = true) (eT : T.heap = h) (hsz : Ls.size = maxL) (hd : decode bytes pc = .ok (.invokespecial i, 3)) (hp : pc + 3 = pc')
    (hf : 1 ≤ R.frames) (hW : (St.map fun v => v.category).sum ≤ W) (hl : W + 12 ≤ R.locals) (K : ∀ T' : State, Stand p l e R s m args below meth c T' locs cells slots → T'.heap = h → Go p e below s nc ns Q (T'.setTop (mkF m pc' Ls St))) : Go p e below s nc ns Q (T.setTop (mkF m pc Ls (.ref a :: St))) := by
  subst hp
  obtain ⟨T', X', e', st⟩ := initO X B.x B.z B.o w1 w2 w3 eT (g := mkF m pc Ls (.ref a :: St)) rfl (by rw [B.ml]; exact hsz) rfl (B.d hd) hf (W := W) (by show 2 * 0 + _ ≤ _; omega) hl
  exact Go.step st (K T' X' e')
theorem g_special (X : Stand p l e R s m args below meth c T locs cells slots) (B : Bdy p s m meth c Z a0 own nm bytes maxL rt tabs) {y : MethodName} {i : Nat} {yb : ByteArray} {ym : Nat} {rm : Room} {a : Addr} {argsL rest : List Value} {Qc : Option Value → Heap → List Loc → Prop} (eT : T.heap = h) (W : Nat) (hy1 : y.name = "<init>")
    (w1 : (Jvm.Cond.methodLink own i y).before a0 Z = true) (w2 : (Jvm.Cond.instanceMethod y).before a0 Z = true) (w3 : (Jvm.Cond.initialized y.cls).before a0 Z = true) (w4 : (Jvm.Cond.code y yb ym none).before a0 Z = true) (hy : y.cls ≠ "java/lang/invoke/MethodHandle" ∧ y.cls ≠ "java/lang/invoke/VarHandle")
    (M : Met l Z y yb ym none [] rm (.ref a :: argsL).toArray h Qc) (hf : rm.frames + 1 ≤ R.frames) (hl : W + (ym + 11) + rm.locals ≤ R.locals) (hc : cells + rm.cells ≤ R.cells) (hs : slots + rm.slots ≤ R.slots)
    (hsz : Ls.size = maxL) (hlen : ∀ sig, parseMethodDescriptor y.desc = some sig → argsL.length = sig.parameters.length) (hst : St = argsL.reverse ++ .ref a :: rest) (hW : (rest.map fun v => v.category).sum ≤ W) (hd : decode bytes pc = .ok (.invokespecial i, 3)) (hp : pc + 3 = pc')
    (K : ∀ (T' : State) (v : Option Value) (L : List Loc), Stand p l e R s m args below meth c T' (locs ++ L) (cells + rm.cells) (slots + rm.slots) → Qc v T'.heap L → Go p e below s nc ns Q (T'.setTop (mkF m pc' Ls (v.toList ++ rest)))) : Go p e below s nc ns Q (T.setTop (mkF m pc Ls St)) := by
  subst hp
  obtain ⟨v, _, ⟨T', L', k', n'⟩, -, X', ⟨Lc, hQ, l', y', z'⟩, st⟩ := X.specialBack B.x (y := y) hy1 B.o (mvT B.z w1) (mvT B.z w2) (mvT B.z w4) hy (backOf (W := W) M B.z w4 w3 hf hl) (g := mkF m pc Ls St) rfl (by rw [B.ml]; exact hsz) (Steps.refl _) (a := a) (argsL := argsL) (rest := rest) hlen hst (by show 2 * 0 + _ ≤ _; omega) (B.d hd) (fun _ _ => ⟨rfl, eT, hc, hs⟩)
  dsimp only [Pt.U, Pt.locs, Pt.cells, Pt.slots] at X' l' y' z' st hQ
  subst l' y' z'
  exact Go.step (fun t q => st.trans q) (K T' v Lc X' hQ)
theorem g_virtual (X : Stand p l e R s m args below meth c T locs cells slots) (B : Bdy p s m meth c Z a0 own nm bytes maxL rt tabs) {y : MethodName} {C : String} {i : Nat} {yb : ByteArray} {ym : Nat} {yr : Option FieldType} {rm : Room} {a : Addr} {argsL rest : List Value} {Qc : Option Value → Heap → List Loc → Prop} (eT : T.heap = h) (W : Nat) (E : Exa Z h a C)
    (w1 : (Jvm.Cond.methodLink own i y).before a0 Z = true) (wd : (Jvm.Cond.declares y).before a0 Z = true) (wsel : (Jvm.Cond.selects C y y).before a0 Z = true) (w2 : (Jvm.Cond.instanceMethod y).before a0 Z = true) (w3 : (Jvm.Cond.initialized y.cls).before a0 Z = true) (w4 : (Jvm.Cond.code y yb ym yr).before a0 Z = true) (hy : y.cls ≠ "java/lang/invoke/MethodHandle" ∧ y.cls ≠ "java/lang/invoke/VarHandle")
    (M : Met l Z y yb ym yr [] rm (.ref a :: argsL).toArray h Qc) (hf : rm.frames + 1 ≤ R.frames) (hl : W + (ym + 11) + rm.locals ≤ R.locals) (hc : cells + rm.cells ≤ R.cells) (hs : slots + rm.slots ≤ R.slots)
    (hsz : Ls.size = maxL) (hlen : ∀ sig, parseMethodDescriptor y.desc = some sig → argsL.length = sig.parameters.length) (hst : St = argsL.reverse ++ .ref a :: rest) (hW : (rest.map fun v => v.category).sum ≤ W) (hd : decode bytes pc = .ok (.invokevirtual i, 3)) (hp : pc + 3 = pc')
    (K : ∀ (T' : State) (v : Option Value) (L : List Loc), Stand p l e R s m args below meth c T' (locs ++ L) (cells + rm.cells) (slots + rm.slots) → Qc v T'.heap L → Go p e below s nc ns Q (T'.setTop (mkF m pc' Ls (v.toList ++ rest)))) : Go p e below s nc ns Q (T.setTop (mkF m pc Ls St)) := by
  subst hp
  obtain ⟨cq, kq, q1, q2, q3⟩ := isOf B.z eT E
  obtain ⟨v, _, ⟨T', L', k', n'⟩, -, X', ⟨Lc, hQ, l', y', z'⟩, st⟩ := X.virtualBack B.x (y := y) (z := y) B.o (mvT B.z w1) (mvT B.z wd) (notFace_of_selects (args := #[]) (mvT B.z wsel)) (mvT B.z wsel) (mvT B.z w2) hy (backOf (W := W) M B.z w4 w3 hf hl) q1 q3 (g := mkF m pc Ls St) rfl (by rw [B.ml]; exact hsz) (Steps.refl _) (argsL := argsL) (rest := rest) hlen hst (by show 2 * 0 + _ ≤ _; omega) (B.d hd) (fun _ _ => ⟨rfl, eT, hc, hs⟩)
  dsimp only [Pt.U, Pt.locs, Pt.cells, Pt.slots] at X' l' y' z' st hQ
  subst l' y' z'
  exact Go.step (fun t q => st.trans q) (K T' v Lc X' hQ)
theorem g_ifnullR (X : Stand p l e R s m args below meth c T locs cells slots) (B : Bdy p s m meth c Z a0 own nm bytes maxL rt tabs) {a : Addr} {o : Int} (hd : decode bytes pc = .ok (.ifnull o, 3)) (hp : pc + 3 = pc') (K : Go p e below s nc ns Q (T.setTop (mkF m pc' Ls St))) : Go p e below s nc ns Q (T.setTop (mkF m pc Ls (.ref a :: St))) := by
  subst hp; exact Go.step (fun t q => XS.ifnullNo X.here B.x (g := mkF m pc Ls (.ref a :: St)) rfl (B.d hd) rfl q) K
theorem g_ifnullN (X : Stand p l e R s m args below meth c T locs cells slots) (B : Bdy p s m meth c Z a0 own nm bytes maxL rt tabs) {o : Int} (hd : decode bytes pc = .ok (.ifnull o, 3)) (ho : 0 ≤ (pc : Int) + o) (hp : ((pc : Int) + o).toNat = pc') (K : Go p e below s nc ns Q (T.setTop (mkF m pc' Ls St))) : Go p e below s nc ns Q (T.setTop (mkF m pc Ls (.null :: St))) :=
  Go.step (fun t q => XS.ifnullYes X.here B.x (g := mkF m pc Ls (.null :: St)) rfl rfl (B.d hd) rfl ho hp q) K
theorem g_ifnonnullR (X : Stand p l e R s m args below meth c T locs cells slots) (B : Bdy p s m meth c Z a0 own nm bytes maxL rt tabs) {a : Addr} {o : Int} (hd : decode bytes pc = .ok (.ifnonnull o, 3)) (ho : 0 ≤ (pc : Int) + o) (hp : ((pc : Int) + o).toNat = pc') (K : Go p e below s nc ns Q (T.setTop (mkF m pc' Ls St))) : Go p e below s nc ns Q (T.setTop (mkF m pc Ls (.ref a :: St))) :=
  Go.step (fun t q => XS.ifnonnullYes X.here B.x (g := mkF m pc Ls (.ref a :: St)) rfl rfl (B.d hd) rfl ho hp q) K
theorem g_ifnonnullN (X : Stand p l e R s m args below meth c T locs cells slots) (B : Bdy p s m meth c Z a0 own nm bytes maxL rt tabs) {o : Int} (hd : decode bytes pc = .ok (.ifnonnull o, 3)) (hp : pc + 3 = pc') (K : Go p e below s nc ns Q (T.setTop (mkF m pc' Ls St))) : Go p e below s nc ns Q (T.setTop (mkF m pc Ls (.null :: St))) := by
  subst hp; exact Go.step (fun t q => XS.ifnonnullNo X.here B.x (g := mkF m pc Ls (.null :: St)) rfl (B.d hd) rfl q) K
theorem g_acmp_eq (X : Stand p l e R s m args below meth c T locs cells slots) (B : Bdy p s m meth c Z a0 own nm bytes maxL rt tabs) {a b : Addr} {o : Int} {pcT pcF : Nat} (hd : decode bytes pc = .ok (.if_acmp .eq o, 3)) (ho : 0 ≤ (pc : Int) + o) (hT : ((pc : Int) + o).toNat = pcT) (hF : pc + 3 = pcF) (K1 : a = b → Go p e below s nc ns Q (T.setTop (mkF m pcT Ls St))) (K2 : ¬ a = b → Go p e below s nc ns Q (T.setTop (mkF m pcF Ls St))) : Go p e below s nc ns Q (T.setTop (mkF m pc Ls (.ref b :: .ref a :: St))) := by
  by_cases q : a = b
  · exact Go.step (fun t k => XS.acmpYes X.here B.x (g := mkF m pc Ls (.ref b :: .ref a :: St)) rfl rfl (B.d hd) rfl (by simp [if_acmp.holds, q]) ho hT k) (K1 q)
  · subst hF; exact Go.step (fun t k => XS.acmpNo X.here B.x (g := mkF m pc Ls (.ref b :: .ref a :: St)) rfl (B.d hd) rfl (by simp [if_acmp.holds, q]) k) (K2 q)
theorem g_acmp_ne (X : Stand p l e R s m args below meth c T locs cells slots) (B : Bdy p s m meth c Z a0 own nm bytes maxL rt tabs) {a b : Addr} {o : Int} {pcT pcF : Nat} (hd : decode bytes pc = .ok (.if_acmp .ne o, 3)) (ho : 0 ≤ (pc : Int) + o) (hT : ((pc : Int) + o).toNat = pcT) (hF : pc + 3 = pcF) (K1 : a = b → Go p e below s nc ns Q (T.setTop (mkF m pcF Ls St))) (K2 : ¬ a = b → Go p e below s nc ns Q (T.setTop (mkF m pcT Ls St))) : Go p e below s nc ns Q (T.setTop (mkF m pc Ls (.ref b :: .ref a :: St))) := by
  by_cases q : a = b
  · subst hF; exact Go.step (fun t k => XS.acmpNo X.here B.x (g := mkF m pc Ls (.ref b :: .ref a :: St)) rfl (B.d hd) rfl (by simp [if_acmp.holds, q]) k) (K1 q)
  · exact Go.step (fun t k => XS.acmpYes X.here B.x (g := mkF m pc Ls (.ref b :: .ref a :: St)) rfl rfl (B.d hd) rfl (by simp [if_acmp.holds, q]) ho hT k) (K2 q)
theorem own_fuq {a : Addr} {C n d : String} {v w : Value} (F : Fld Z h a C n d v) (G : Fld Z h a C n d w) : v = w := by
  obtain ⟨c1, _, _, _, _, h1, h2, -, -, -, -, h3⟩ := F
  obtain ⟨c2, _, _, _, _, g1, g2, -, -, -, -, g3⟩ := G
  cases h1.symm.trans g1
  cases h2.symm.trans g2
  exact Option.some.inj (h3.symm.trans g3)
theorem own_fl {x : Addr} {t : Term} {C n d : String} {k : Int32} {as : Array Value} (ht : t.eval as s none [] s = some (.ref x)) (q : (Jvm.Cond.eq (.field t C n d) (.int k)).value as s none s [] = some true) : s.fieldOf? x C n d = some (.int k) := by
  obtain ⟨x', y', e1, e2, k1, k2⟩ := cmp_v (Or.inl q)
  have e3 : y' = .int k := (Option.some.inj ((Term.int_eval k).symm.trans e2)).symm
  subst e3
  obtain ⟨z, rfl⟩ := k2
  have e4 := gotT (Cond.eq_ints e1 e2) q
  subst e4
  rw [← fld_at (C := C) (n := n) (dd := d) ht]; exact e1
end HeapKit
theorem own_ints_nil (x : Int32) : ∀ j : Nat, ∃ v : Int32, (fun _ : Nat => Value.int x) j = .int v := fun _ => ⟨x, rfl⟩
theorem own_ints_set {w : Nat → Value} (H : ∀ j : Nat, ∃ v : Int32, w j = .int v) (k : Nat) (x : Int32) : ∀ j : Nat, ∃ v : Int32, (fun j => if j = k then Value.int x else w j) j = .int v := fun j => by
  by_cases q : j = k
  · exact ⟨x, by simp [q]⟩
  · obtain ⟨v, hv⟩ := H j; exact ⟨v, by simp [q, hv]⟩
section HeapKit2
variable {p : Program} {l : Launch} {e : Env} {R : Room} {s : State} {m : MethodId} {args : Array Value} {below : List Frame} {meth : Method} {c : Code} {T : State} {locs : List Loc} {cells slots : Nat} {Z : State} {a0 : Array Value} {h h' : Heap} {nc ns : Nat} {Q Q' : Option Value → Heap → List Loc → Prop} {pc pc' : Nat} {Ls Ls' : Array Slot} {St : List Value} {own nm : String} {bytes : ByteArray} {maxL : Nat} {rt : Option FieldType} {tabs : List Jvm.Cond}
theorem g_iaload_any (X : Stand p l e R s m args below meth c T locs cells slots) (B : Bdy p s m meth c Z a0 own nm bytes maxL rt tabs) {a : Addr} {n : Nat} {w : Nat → Value} {j : Int32} (k : Nat) (eT : T.heap = h) (F : Ax Z h a .int n w) (hk : j.toInt = (k : Int)) (hn : k < n) (hall : ∀ j : Nat, ∃ v : Int32, w j = .int v) (hd : decode bytes pc = .ok (.iaload, 1)) (hp : pc + 1 = pc') (K : ∀ v : Int32, Go p e below s nc ns Q (T.setTop (mkF m pc' Ls (.int v :: St)))) : Go p e below s nc ns Q (T.setTop (mkF m pc Ls (.int j :: .ref a :: St))) := by
  obtain ⟨v, hv⟩ := hall k
  exact g_iaload X B k eT F hk hn hv hd hp (K v)
end HeapKit2
section HeapKit3
variable {p : Program} {l : Launch} {e : Env} {R : Room} {s : State} {m : MethodId} {args : Array Value} {below : List Frame} {meth : Method} {c : Code} {T : State} {locs : List Loc} {cells slots : Nat} {Z : State} {a0 : Array Value} {h h' : Heap} {nc ns : Nat} {Q Q' : Option Value → Heap → List Loc → Prop} {pc pc' : Nat} {Ls Ls' : Array Slot} {St : List Value} {own nm : String} {bytes : ByteArray} {maxL : Nat} {rt : Option FieldType} {tabs : List Jvm.Cond}
theorem g_private (X : Stand p l e R s m args below meth c T locs cells slots) (B : Bdy p s m meth c Z a0 own nm bytes maxL rt tabs) {y : MethodName} {C : String} {i kk : Nat} {yb : ByteArray} {ym : Nat} {yr : Option FieldType} {rm : Room} {a : Addr} {argsL rest : List Value} {Qc : Option Value → Heap → List Loc → Prop} (eT : T.heap = h) (W : Nat) (E : Exa Z h a C)
    (w1 : (Jvm.Cond.methodLink own i y).before a0 Z = true) (wi : (Jvm.Cond.instantiable y.cls kk).before a0 Z = true) (wp : (Jvm.Cond.privateMethod y).before a0 Z = true) (w2 : (Jvm.Cond.instanceMethod y).before a0 Z = true) (w3 : (Jvm.Cond.initialized y.cls).before a0 Z = true) (w4 : (Jvm.Cond.code y yb ym yr).before a0 Z = true) (hy : y.cls ≠ "java/lang/invoke/MethodHandle" ∧ y.cls ≠ "java/lang/invoke/VarHandle")
    (M : Met l Z y yb ym yr [] rm (.ref a :: argsL).toArray h Qc) (hf : rm.frames + 1 ≤ R.frames) (hl : W + (ym + 11) + rm.locals ≤ R.locals) (hc : cells + rm.cells ≤ R.cells) (hs : slots + rm.slots ≤ R.slots)
    (hsz : Ls.size = maxL) (hlen : ∀ sig, parseMethodDescriptor y.desc = some sig → argsL.length = sig.parameters.length) (hst : St = argsL.reverse ++ .ref a :: rest) (hW : (rest.map fun v => v.category).sum ≤ W) (hd : decode bytes pc = .ok (.invokevirtual i, 3)) (hp : pc + 3 = pc')
    (K : ∀ (T' : State) (v : Option Value) (L : List Loc), Stand p l e R s m args below meth c T' (locs ++ L) (cells + rm.cells) (slots + rm.slots) → Qc v T'.heap L → Go p e below s nc ns Q (T'.setTop (mkF m pc' Ls (v.toList ++ rest)))) : Go p e below s nc ns Q (T.setTop (mkF m pc Ls St)) := by
  subst hp
  obtain ⟨cq, q1, q2⟩ := E.cell
  have wi' : (Jvm.Cond.instantiable y.cls kk).before args s = true := mvT B.z wi
  have w2' : (Jvm.Cond.instanceMethod y).before args s = true := mvT B.z w2
  obtain ⟨c2, k2, i1, i2, i3, i4, -⟩ := Cond.instantiable_spec wi'
  have i5 : k2.isInterface = false := by
    cases hq : k2.isInterface with
    | false => rfl
    | true => rw [hq] at i4; cases i4
  have hpv := Cond.privateMethod_at (mvP B.z wp (args := #[]))
  obtain ⟨v, _, ⟨T', L', k', n'⟩, -, X', ⟨Lc, hQ, l', y', z'⟩, st⟩ := X.privateBack B.x (y := y) B.o (mvT B.z w1) w2' (selects_self_of_private i1 i2 i5 hpv w2' hy) hpv (mvT B.z w4) hy (backOf (W := W) M B.z w4 w3 hf hl) (g := mkF m pc Ls St) rfl (by rw [B.ml]; exact hsz) (Steps.refl _) (a := a) (by rw [eT]; exact q1) q2 (argsL := argsL) (rest := rest) hlen hst (by show 2 * 0 + _ ≤ _; omega) (B.d hd) (fun _ _ => ⟨rfl, eT, hc, hs⟩)
  dsimp only [Pt.U, Pt.locs, Pt.cells, Pt.slots] at X' l' y' z' st hQ
  subst l' y' z'
  exact Go.step (fun t q => st.trans q) (K T' v Lc X' hQ)
theorem g_pop2L (X : Stand p l e R s m args below meth c T locs cells slots) (B : Bdy p s m meth c Z a0 own nm bytes maxL rt tabs) {x : Int64} (hd : decode bytes pc = .ok (.pop2, 1)) (hp : pc + 1 = pc') (K : Go p e below s nc ns Q (T.setTop (mkF m pc' Ls St))) : Go p e below s nc ns Q (T.setTop (mkF m pc Ls (.long x :: St))) := by
  subst hp
  have hd' := B.d hd
  have hx := B.x
  refine Go.step (fun t q => ?_) K
  jvm_step X.here [X.here.top, hx, hd', Value.category]
  exact q
theorem g_instY (X : Stand p l e R s m args below meth c T locs cells slots) (B : Bdy p s m meth c Z a0 own nm bytes maxL rt tabs) {i : Nat} {C : String} {a : Addr} (w : (Jvm.Cond.classLink own i C).before a0 Z = true) (eT : T.heap = h) (F : Ins Z h a C true) (hd : decode bytes pc = .ok (.instanceof i, 3)) (hp : pc + 3 = pc')
    (K : ∀ T' : State, Stand p l e R s m args below meth c T' locs cells slots → T'.heap = h → Go p e below s nc ns Q (T'.setTop (mkF m pc' Ls (.int (1 : Int32) :: St)))) : Go p e below s nc ns Q (T.setTop (mkF m pc Ls (.ref a :: St))) := by
  subst hp
  obtain ⟨T', X', e', st⟩ := instY X B.x B.z B.o w eT F (g := mkF m pc Ls (.ref a :: St)) rfl rfl (B.d hd)
  exact Go.step st (K T' X' e')
theorem g_instN (X : Stand p l e R s m args below meth c T locs cells slots) (B : Bdy p s m meth c Z a0 own nm bytes maxL rt tabs) {i : Nat} {K' C : String} {a : Addr} (w : (Jvm.Cond.classLink own i K').before a0 Z = true) (eT : T.heap = h) (E : Exa Z h a C) (F : ∃ c t, Z.vm.findClass C = some c ∧ Z.vm.findClass K' = some t ∧ Z.vm.assignable c t = false) (hd : decode bytes pc = .ok (.instanceof i, 3)) (hp : pc + 3 = pc')
    (K : ∀ T' : State, Stand p l e R s m args below meth c T' locs cells slots → T'.heap = h → Go p e below s nc ns Q (T'.setTop (mkF m pc' Ls (.int (0 : Int32) :: St)))) : Go p e below s nc ns Q (T.setTop (mkF m pc Ls (.ref a :: St))) := by
  subst hp
  obtain ⟨T', X', e', st⟩ := instNo X B.x B.z B.o w eT E F (g := mkF m pc Ls (.ref a :: St)) rfl rfl (B.d hd)
  exact Go.step st (K T' X' e')
theorem g_castY (X : Stand p l e R s m args below meth c T locs cells slots) (B : Bdy p s m meth c Z a0 own nm bytes maxL rt tabs) {i : Nat} {C : String} {a : Addr} (w : (Jvm.Cond.classLink own i C).before a0 Z = true) (eT : T.heap = h) (F : Ins Z h a C true) (hd : decode bytes pc = .ok (.checkcast i, 3)) (hp : pc + 3 = pc')
    (K : ∀ T' : State, Stand p l e R s m args below meth c T' locs cells slots → T'.heap = h → Go p e below s nc ns Q (T'.setTop (mkF m pc' Ls (.ref a :: St)))) : Go p e below s nc ns Q (T.setTop (mkF m pc Ls (.ref a :: St))) := by
  subst hp
  obtain ⟨T', X', e', st⟩ := castY X B.x B.z B.o w eT F (g := mkF m pc Ls (.ref a :: St)) rfl rfl (B.d hd)
  exact Go.step st (K T' X' e')
end HeapKit3
theorem own_pd0 : parseMethodDescriptor "(JJLjava/util/function/BiFunction;)J" = some ⟨[.long, .long, (.object "java/util/function/BiFunction")], some .long⟩ := by decide +kernel
theorem own_pd1 : parseMethodDescriptor "(J)V" = some ⟨[.long], none⟩ := by decide +kernel
theorem own_pd2 : parseMethodDescriptor "(J)I" = some ⟨[.long], some .int⟩ := by decide +kernel
theorem own_pd3 : parseMethodDescriptor "(JJ)J" = some ⟨[.long, .long], some .long⟩ := by decide +kernel
theorem own_pd4 : parseMethodDescriptor "(J)J" = some ⟨[.long], some .long⟩ := by decide +kernel
theorem own_pd5 : parseMethodDescriptor "()V" = some ⟨[], none⟩ := by decide +kernel
theorem own_pd6 : parseMethodDescriptor "([J)Z" = some ⟨[(.array .long)], some .boolean⟩ := by decide +kernel
theorem own_pd7 : parseMethodDescriptor "(JZJZJ)Z" = some ⟨[.long, .boolean, .long, .boolean, .long], some .boolean⟩ := by decide +kernel
theorem own_pd8 : parseMethodDescriptor "(IJJJ)J" = some ⟨[.int, .long, .long, .long], some .long⟩ := by decide +kernel
theorem own_pd9 : parseMethodDescriptor "(J)Z" = some ⟨[.long], some .boolean⟩ := by decide +kernel
theorem wc_d0 : decode prog_2_method_14_code 0 = .ok (.lload_n 0, 1) := by decide +kernel
theorem wc_d1 : decode prog_2_method_14_code 1 = .ok (.ldc2_w 84, 3) := by decide +kernel
theorem wc_d4 : decode prog_2_method_14_code 4 = .ok (.ladd, 1) := by decide +kernel
theorem wc_d5 : decode prog_2_method_14_code 5 = .ok (.lconst 1, 1) := by decide +kernel
theorem wc_d6 : decode prog_2_method_14_code 6 = .ok (.lsub, 1) := by decide +kernel
theorem wc_d7 : decode prog_2_method_14_code 7 = .ok (.ldc2_w 84, 3) := by decide +kernel
theorem wc_d10 : decode prog_2_method_14_code 10 = .ok (.ldiv, 1) := by decide +kernel
theorem wc_d11 : decode prog_2_method_14_code 11 = .ok (.l2i, 1) := by decide +kernel
theorem wc_d12 : decode prog_2_method_14_code 12 = .ok (.ireturn, 1) := by decide +kernel
def wc_f0 (j0 : Int64) : Int32 := ((((j0 + (64 : Int64)) - (1 : Int64)) / (64 : Int64)).toInt32)
theorem wc_b0 {p : Program} {l : Launch} {e : Env} {s : State} {m : MethodId} {args : Array Value} {below : List Frame} {meth : Method} {c : Code} {T : State} {Z : State} {a0 : Array Value} {h : Heap} {locs : List Loc} {cells slots : Nat} (X : Stand p l e (⟨0, 0, 0, 0⟩ : Room) s m args below meth c T locs cells slots) (hc : cells ≤ ((⟨0, 0, 0, 0⟩ : Room)).cells) (hs : slots ≤ ((⟨0, 0, 0, 0⟩ : Room)).slots) (B : Bdy p s m meth c Z a0 "com/example/vouch/vouch/BitArray" "wordCount" prog_2_method_14_code 2 (some .int) tables_1) (eT : T.heap = h) (j0 : Int64)  :
    Go p e below s cells slots (PQ (some (.int (wc_f0 j0))) h locs) (T.setTop (mkF m 0 #[.val (.long j0), .second] [])) := by
  refine g_lloadN X B wc_d0 (pc' := 1) rfl (v := j0) rfl ?_
  refine g_ldc2 X B (B.w 19 rfl) wc_d1 (pc' := 4) rfl ?_
  refine g_ladd X B wc_d4 (pc' := 5) rfl ?_
  refine g_lconst X B wc_d5 (pc' := 6) rfl (v := (1 : Int64)) (by decide) ?_
  refine g_lsub X B wc_d6 (pc' := 7) rfl ?_
  refine g_ldc2 X B (B.w 19 rfl) wc_d7 (pc' := 10) rfl ?_
  refine g_ldiv X B (by decide) wc_d10 (pc' := 11) rfl ?_
  refine g_l2i X B wc_d11 (pc' := 12) rfl ?_
  exact g_retI X B rfl wc_d12 (Nat.le_refl _) (Nat.le_refl _) ⟨congrArg (fun z => some (Value.int z)) (Eq.symm (by rw [wc_f0])), eT, rfl⟩
theorem own_pn_wc : plainFor (⟨"com/example/vouch/vouch/BitArray", "wordCount", "(J)I"⟩ : MethodName) = true := plainFor_of_name (by first | (simp [plainName, overriddenIn]; done) | decide +kernel)
theorem own_ef_wc (m : MethodId) (j0 : Int64) : entryFrame m #[(.long j0)] 2 = (mkF m 0 #[.val (.long j0), .second] []) := by first | (simp [entryFrame, mkF, argsToLocals, Value.category]; done) | rfl
theorem wc_met (l : Launch) (Z : State) (a0 : Array Value) (hw : ∀ d ∈ tables_1, d.before a0 Z = true) (ws : List Jvm.Cond) (h : Heap) (j0 : Int64)  :
    Met l Z (⟨"com/example/vouch/vouch/BitArray", "wordCount", "(J)I"⟩ : MethodName) prog_2_method_14_code 2 (some .int) ws (⟨0, 0, 0, 0⟩ : Room) #[(.long j0)] h (PQ (some (.int (wc_f0 j0))) h []) :=
  met_of own_pn_wc hw fun p e s m below meth c T X B eT => Go.top (own_ef_wc m j0) (wc_b0 X (Nat.zero_le _) (Nat.zero_le _) B eT j0)
theorem wi_d0 : decode prog_2_method_17_code 0 = .ok (.lload_n 0, 1) := by decide +kernel
theorem wi_d1 : decode prog_2_method_17_code 1 = .ok (.bipush 6, 2) := by decide +kernel
theorem wi_d3 : decode prog_2_method_17_code 3 = .ok (.lushr, 1) := by decide +kernel
theorem wi_d4 : decode prog_2_method_17_code 4 = .ok (.l2i, 1) := by decide +kernel
theorem wi_d5 : decode prog_2_method_17_code 5 = .ok (.ireturn, 1) := by decide +kernel
def wi_f0 (j0 : Int64) : Int32 := (((j0.toUInt64 >>> ((6 : Int32) &&& 63).toInt64.toUInt64).toInt64).toInt32)
theorem wi_b0 {p : Program} {l : Launch} {e : Env} {s : State} {m : MethodId} {args : Array Value} {below : List Frame} {meth : Method} {c : Code} {T : State} {Z : State} {a0 : Array Value} {h : Heap} {locs : List Loc} {cells slots : Nat} (X : Stand p l e (⟨0, 0, 0, 0⟩ : Room) s m args below meth c T locs cells slots) (hc : cells ≤ ((⟨0, 0, 0, 0⟩ : Room)).cells) (hs : slots ≤ ((⟨0, 0, 0, 0⟩ : Room)).slots) (B : Bdy p s m meth c Z a0 "com/example/vouch/vouch/BitArray" "wordIndex" prog_2_method_17_code 2 (some .int) tables_1) (eT : T.heap = h) (j0 : Int64)  :
    Go p e below s cells slots (PQ (some (.int (wi_f0 j0))) h locs) (T.setTop (mkF m 0 #[.val (.long j0), .second] [])) := by
  refine g_lloadN X B wi_d0 (pc' := 1) rfl (v := j0) rfl ?_
  refine g_bipush X B wi_d1 (pc' := 3) rfl (v := (6 : Int32)) (by decide) ?_
  refine g_lushr X B wi_d3 (pc' := 4) rfl (z := ((j0.toUInt64 >>> ((6 : Int32) &&& 63).toInt64.toUInt64).toInt64)) rfl ?_
  refine g_l2i X B wi_d4 (pc' := 5) rfl ?_
  exact g_retI X B rfl wi_d5 (Nat.le_refl _) (Nat.le_refl _) ⟨congrArg (fun z => some (Value.int z)) (Eq.symm (by rw [wi_f0])), eT, rfl⟩
theorem own_pn_wi : plainFor (⟨"com/example/vouch/vouch/BitArray", "wordIndex", "(J)I"⟩ : MethodName) = true := plainFor_of_name (by first | (simp [plainName, overriddenIn]; done) | decide +kernel)
theorem own_ef_wi (m : MethodId) (j0 : Int64) : entryFrame m #[(.long j0)] 2 = (mkF m 0 #[.val (.long j0), .second] []) := by first | (simp [entryFrame, mkF, argsToLocals, Value.category]; done) | rfl
theorem wi_met (l : Launch) (Z : State) (a0 : Array Value) (hw : ∀ d ∈ tables_1, d.before a0 Z = true) (ws : List Jvm.Cond) (h : Heap) (j0 : Int64)  :
    Met l Z (⟨"com/example/vouch/vouch/BitArray", "wordIndex", "(J)I"⟩ : MethodName) prog_2_method_17_code 2 (some .int) ws (⟨0, 0, 0, 0⟩ : Room) #[(.long j0)] h (PQ (some (.int (wi_f0 j0))) h []) :=
  met_of own_pn_wi hw fun p e s m below meth c T X B eT => Go.top (own_ef_wi m j0) (wi_b0 X (Nat.zero_le _) (Nat.zero_le _) B eT j0)
theorem bm_d0 : decode prog_2_method_18_code 0 = .ok (.lconst 1, 1) := by decide +kernel
theorem bm_d1 : decode prog_2_method_18_code 1 = .ok (.lload_n 0, 1) := by decide +kernel
theorem bm_d2 : decode prog_2_method_18_code 2 = .ok (.l2i, 1) := by decide +kernel
theorem bm_d3 : decode prog_2_method_18_code 3 = .ok (.lshl, 1) := by decide +kernel
theorem bm_d4 : decode prog_2_method_18_code 4 = .ok (.lreturn, 1) := by decide +kernel
def bm_f0 (j0 : Int64) : Int64 := (((1 : Int64) <<< ((j0.toInt32) &&& 63).toInt64))
theorem bm_b0 {p : Program} {l : Launch} {e : Env} {s : State} {m : MethodId} {args : Array Value} {below : List Frame} {meth : Method} {c : Code} {T : State} {Z : State} {a0 : Array Value} {h : Heap} {locs : List Loc} {cells slots : Nat} (X : Stand p l e (⟨0, 0, 0, 0⟩ : Room) s m args below meth c T locs cells slots) (hc : cells ≤ ((⟨0, 0, 0, 0⟩ : Room)).cells) (hs : slots ≤ ((⟨0, 0, 0, 0⟩ : Room)).slots) (B : Bdy p s m meth c Z a0 "com/example/vouch/vouch/BitArray" "bitMask" prog_2_method_18_code 2 (some .long) tables_1) (eT : T.heap = h) (j0 : Int64)  :
    Go p e below s cells slots (PQ (some (.long (bm_f0 j0))) h locs) (T.setTop (mkF m 0 #[.val (.long j0), .second] [])) := by
  refine g_lconst X B bm_d0 (pc' := 1) rfl (v := (1 : Int64)) (by decide) ?_
  refine g_lloadN X B bm_d1 (pc' := 2) rfl (v := j0) rfl ?_
  refine g_l2i X B bm_d2 (pc' := 3) rfl ?_
  refine g_lshl X B bm_d3 (pc' := 4) rfl (z := (((1 : Int64) <<< ((j0.toInt32) &&& 63).toInt64))) rfl ?_
  exact g_retL X B rfl bm_d4 (Nat.le_refl _) (Nat.le_refl _) ⟨congrArg (fun z => some (Value.long z)) (Eq.symm (by rw [bm_f0])), eT, rfl⟩
theorem own_pn_bm : plainFor (⟨"com/example/vouch/vouch/BitArray", "bitMask", "(J)J"⟩ : MethodName) = true := plainFor_of_name (by first | (simp [plainName, overriddenIn]; done) | decide +kernel)
theorem own_ef_bm (m : MethodId) (j0 : Int64) : entryFrame m #[(.long j0)] 2 = (mkF m 0 #[.val (.long j0), .second] []) := by first | (simp [entryFrame, mkF, argsToLocals, Value.category]; done) | rfl
theorem bm_met (l : Launch) (Z : State) (a0 : Array Value) (hw : ∀ d ∈ tables_1, d.before a0 Z = true) (ws : List Jvm.Cond) (h : Heap) (j0 : Int64)  :
    Met l Z (⟨"com/example/vouch/vouch/BitArray", "bitMask", "(J)J"⟩ : MethodName) prog_2_method_18_code 2 (some .long) ws (⟨0, 0, 0, 0⟩ : Room) #[(.long j0)] h (PQ (some (.long (bm_f0 j0))) h []) :=
  met_of own_pn_bm hw fun p e s m below meth c T X B eT => Go.top (own_ef_bm m j0) (bm_b0 X (Nat.zero_le _) (Nat.zero_le _) B eT j0)
theorem pk_d0 : decode method_3_code 0 = .ok (.iload_n 0, 1) := by decide +kernel
theorem pk_d1 : decode method_3_code 1 = .ok (.ifCond .ne 5, 3) := by decide +kernel
theorem pk_d4 : decode method_3_code 4 = .ok (.lload_n 1, 1) := by decide +kernel
theorem pk_d5 : decode method_3_code 5 = .ok (.lreturn, 1) := by decide +kernel
theorem pk_d6 : decode method_3_code 6 = .ok (.iload_n 0, 1) := by decide +kernel
theorem pk_d7 : decode method_3_code 7 = .ok (.iconst 1, 1) := by decide +kernel
theorem pk_d8 : decode method_3_code 8 = .ok (.if_icmp .ne 5, 3) := by decide +kernel
theorem pk_d11 : decode method_3_code 11 = .ok (.lload_n 3, 1) := by decide +kernel
theorem pk_d12 : decode method_3_code 12 = .ok (.lreturn, 1) := by decide +kernel
theorem pk_d13 : decode method_3_code 13 = .ok (.lload 5, 2) := by decide +kernel
theorem pk_d15 : decode method_3_code 15 = .ok (.lreturn, 1) := by decide +kernel
def pk_f0 (i0 : Int32) (j1 : Int64) (j3 : Int64) (j5 : Int64) : Int64 := (if i0 = (0 : Int32) then j1 else (if i0 = (1 : Int32) then j3 else j5))
theorem pk_b0 {p : Program} {l : Launch} {e : Env} {s : State} {m : MethodId} {args : Array Value} {below : List Frame} {meth : Method} {c : Code} {T : State} {Z : State} {a0 : Array Value} {h : Heap} {locs : List Loc} {cells slots : Nat} (X : Stand p l e (⟨0, 0, 0, 0⟩ : Room) s m args below meth c T locs cells slots) (hc : cells ≤ ((⟨0, 0, 0, 0⟩ : Room)).cells) (hs : slots ≤ ((⟨0, 0, 0, 0⟩ : Room)).slots) (B : Bdy p s m meth c Z a0 "com/example/vouch/vouch/BitArrayAllSetPinLaw" "pick" method_3_code 7 (some .long) tables_1) (eT : T.heap = h) (i0 : Int32) (j1 : Int64) (j3 : Int64) (j5 : Int64)  :
    Go p e below s cells slots (PQ (some (.long (pk_f0 i0 j1 j3 j5))) h locs) (T.setTop (mkF m 0 #[.val (.int i0), .val (.long j1), .second, .val (.long j3), .second, .val (.long j5), .second] [])) := by
  refine g_iloadN X B pk_d0 (pc' := 1) rfl (v := i0) rfl ?_
  refine g_if_ne X B pk_d1 (pcT := 6) (pcF := 4) (by decide) rfl rfl (fun c1_0 => ?_) (fun c1_0 => ?_)
  · refine g_lloadN X B pk_d4 (pc' := 5) rfl (v := j1) rfl ?_
    exact g_retL X B rfl pk_d5 (Nat.le_refl _) (Nat.le_refl _) ⟨congrArg (fun z => some (Value.long z)) (Eq.symm (by rw [pk_f0, if_pos c1_0])), eT, rfl⟩
  · refine g_iloadN X B pk_d6 (pc' := 7) rfl (v := i0) rfl ?_
    refine g_iconst X B pk_d7 (pc' := 8) rfl (v := (1 : Int32)) (by decide) ?_
    refine g_icmp_ne X B pk_d8 (pcT := 13) (pcF := 11) (by decide) rfl rfl (fun c8_1 => ?_) (fun c8_1 => ?_)
    · refine g_lloadN X B pk_d11 (pc' := 12) rfl (v := j3) rfl ?_
      exact g_retL X B rfl pk_d12 (Nat.le_refl _) (Nat.le_refl _) ⟨congrArg (fun z => some (Value.long z)) (Eq.symm (by rw [pk_f0, if_neg c1_0, if_pos c8_1])), eT, rfl⟩
    · refine g_lload X B pk_d13 (pc' := 15) rfl (v := j5) rfl ?_
      exact g_retL X B rfl pk_d15 (Nat.le_refl _) (Nat.le_refl _) ⟨congrArg (fun z => some (Value.long z)) (Eq.symm (by rw [pk_f0, if_neg c1_0, if_neg c8_1])), eT, rfl⟩
theorem own_pn_pk : plainFor (⟨"com/example/vouch/vouch/BitArrayAllSetPinLaw", "pick", "(IJJJ)J"⟩ : MethodName) = true := plainFor_of_name (by first | (simp [plainName, overriddenIn]; done) | decide +kernel)
theorem own_ef_pk (m : MethodId) (i0 : Int32) (j1 : Int64) (j3 : Int64) (j5 : Int64) : entryFrame m #[(.int i0), (.long j1), (.long j3), (.long j5)] 7 = (mkF m 0 #[.val (.int i0), .val (.long j1), .second, .val (.long j3), .second, .val (.long j5), .second] []) := by first | (simp [entryFrame, mkF, argsToLocals, Value.category]; done) | rfl
theorem pk_met (l : Launch) (Z : State) (a0 : Array Value) (hw : ∀ d ∈ tables_1, d.before a0 Z = true) (ws : List Jvm.Cond) (h : Heap) (i0 : Int32) (j1 : Int64) (j3 : Int64) (j5 : Int64)  :
    Met l Z (⟨"com/example/vouch/vouch/BitArrayAllSetPinLaw", "pick", "(IJJJ)J"⟩ : MethodName) method_3_code 7 (some .long) ws (⟨0, 0, 0, 0⟩ : Room) #[(.int i0), (.long j1), (.long j3), (.long j5)] h (PQ (some (.long (pk_f0 i0 j1 j3 j5))) h []) :=
  met_of own_pn_pk hw fun p e s m below meth c T X B eT => Go.top (own_ef_pk m i0 j1 j3 j5) (pk_b0 X (Nat.zero_le _) (Nat.zero_le _) B eT i0 j1 j3 j5)
theorem iss_d0 : decode method_4_code 0 = .ok (.iload_n 2, 1) := by decide +kernel
theorem iss_d1 : decode method_4_code 1 = .ok (.ifCond .eq 9, 3) := by decide +kernel
theorem iss_d4 : decode method_4_code 4 = .ok (.lload_n 0, 1) := by decide +kernel
theorem iss_d5 : decode method_4_code 5 = .ok (.lload_n 3, 1) := by decide +kernel
theorem iss_d6 : decode method_4_code 6 = .ok (.lcmp, 1) := by decide +kernel
theorem iss_d7 : decode method_4_code 7 = .ok (.ifCond .eq 15, 3) := by decide +kernel
theorem iss_d10 : decode method_4_code 10 = .ok (.iload 5, 2) := by decide +kernel
theorem iss_d12 : decode method_4_code 12 = .ok (.ifCond .eq 14, 3) := by decide +kernel
theorem iss_d15 : decode method_4_code 15 = .ok (.lload_n 0, 1) := by decide +kernel
theorem iss_d16 : decode method_4_code 16 = .ok (.lload 6, 2) := by decide +kernel
theorem iss_d18 : decode method_4_code 18 = .ok (.lcmp, 1) := by decide +kernel
theorem iss_d19 : decode method_4_code 19 = .ok (.ifCond .ne 7, 3) := by decide +kernel
theorem iss_d22 : decode method_4_code 22 = .ok (.iconst 1, 1) := by decide +kernel
theorem iss_d23 : decode method_4_code 23 = .ok (.goto 4, 3) := by decide +kernel
theorem iss_d26 : decode method_4_code 26 = .ok (.iconst 0, 1) := by decide +kernel
theorem iss_d27 : decode method_4_code 27 = .ok (.ireturn, 1) := by decide +kernel
def iss_f27 (t0 : Int32) : Int32 := (nar .boolean t0)
theorem iss_b27 {p : Program} {l : Launch} {e : Env} {s : State} {m : MethodId} {args : Array Value} {below : List Frame} {meth : Method} {c : Code} {T : State} {Z : State} {a0 : Array Value} {h : Heap} {locs : List Loc} {cells slots : Nat} (X : Stand p l e (⟨0, 0, 0, 0⟩ : Room) s m args below meth c T locs cells slots) (hc : cells ≤ ((⟨0, 0, 0, 0⟩ : Room)).cells) (hs : slots ≤ ((⟨0, 0, 0, 0⟩ : Room)).slots) (B : Bdy p s m meth c Z a0 "com/example/vouch/vouch/BitArrayAllSetPinLaw" "isSet" method_4_code 8 (some .boolean) tables_1) (eT : T.heap = h) (j0 : Int64) (i2 : Int32) (j3 : Int64) (i5 : Int32) (j6 : Int64) (t0 : Int32)  :
    Go p e below s cells slots (PQ (some (.int (iss_f27 t0))) h locs) (T.setTop (mkF m 27 #[.val (.long j0), .second, .val (.int i2), .val (.long j3), .second, .val (.int i5), .val (.long j6), .second] [(.int t0)])) := by
  exact g_retN X B (t := .boolean) rfl (by simp) iss_d27 (Nat.le_refl _) (Nat.le_refl _) ⟨congrArg (fun z => some (Value.int z)) (Eq.symm (by rw [iss_f27])), eT, rfl⟩
def iss_f26  : Int32 := (iss_f27 (0 : Int32))
theorem iss_b26 {p : Program} {l : Launch} {e : Env} {s : State} {m : MethodId} {args : Array Value} {below : List Frame} {meth : Method} {c : Code} {T : State} {Z : State} {a0 : Array Value} {h : Heap} {locs : List Loc} {cells slots : Nat} (X : Stand p l e (⟨0, 0, 0, 0⟩ : Room) s m args below meth c T locs cells slots) (hc : cells ≤ ((⟨0, 0, 0, 0⟩ : Room)).cells) (hs : slots ≤ ((⟨0, 0, 0, 0⟩ : Room)).slots) (B : Bdy p s m meth c Z a0 "com/example/vouch/vouch/BitArrayAllSetPinLaw" "isSet" method_4_code 8 (some .boolean) tables_1) (eT : T.heap = h) (j0 : Int64) (i2 : Int32) (j3 : Int64) (i5 : Int32) (j6 : Int64)  :
    Go p e below s cells slots (PQ (some (.int iss_f26)) h locs) (T.setTop (mkF m 26 #[.val (.long j0), .second, .val (.int i2), .val (.long j3), .second, .val (.int i5), .val (.long j6), .second] [])) := by
  refine g_iconst X B iss_d26 (pc' := 27) rfl (v := (0 : Int32)) (by decide) ?_
  exact Go.cw (congrArg (fun z => some (Value.int z)) (Eq.symm (by rw [iss_f26]))) (iss_b27 X hc hs B eT j0 i2 j3 i5 j6 (0 : Int32))
def iss_f22  : Int32 := (iss_f27 (1 : Int32))
theorem iss_b22 {p : Program} {l : Launch} {e : Env} {s : State} {m : MethodId} {args : Array Value} {below : List Frame} {meth : Method} {c : Code} {T : State} {Z : State} {a0 : Array Value} {h : Heap} {locs : List Loc} {cells slots : Nat} (X : Stand p l e (⟨0, 0, 0, 0⟩ : Room) s m args below meth c T locs cells slots) (hc : cells ≤ ((⟨0, 0, 0, 0⟩ : Room)).cells) (hs : slots ≤ ((⟨0, 0, 0, 0⟩ : Room)).slots) (B : Bdy p s m meth c Z a0 "com/example/vouch/vouch/BitArrayAllSetPinLaw" "isSet" method_4_code 8 (some .boolean) tables_1) (eT : T.heap = h) (j0 : Int64) (i2 : Int32) (j3 : Int64) (i5 : Int32) (j6 : Int64)  :
    Go p e below s cells slots (PQ (some (.int iss_f22)) h locs) (T.setTop (mkF m 22 #[.val (.long j0), .second, .val (.int i2), .val (.long j3), .second, .val (.int i5), .val (.long j6), .second] [])) := by
  refine g_iconst X B iss_d22 (pc' := 23) rfl (v := (1 : Int32)) (by decide) ?_
  refine g_goto X B iss_d23 (pc' := 27) (by decide) rfl ?_
  exact Go.cw (congrArg (fun z => some (Value.int z)) (Eq.symm (by rw [iss_f22]))) (iss_b27 X hc hs B eT j0 i2 j3 i5 j6 (1 : Int32))
def iss_f10 (j0 : Int64) (i5 : Int32) (j6 : Int64) : Int32 := (if i5 = (0 : Int32) then iss_f26 else (if j0 = j6 then iss_f22 else iss_f26))
theorem iss_b10 {p : Program} {l : Launch} {e : Env} {s : State} {m : MethodId} {args : Array Value} {below : List Frame} {meth : Method} {c : Code} {T : State} {Z : State} {a0 : Array Value} {h : Heap} {locs : List Loc} {cells slots : Nat} (X : Stand p l e (⟨0, 0, 0, 0⟩ : Room) s m args below meth c T locs cells slots) (hc : cells ≤ ((⟨0, 0, 0, 0⟩ : Room)).cells) (hs : slots ≤ ((⟨0, 0, 0, 0⟩ : Room)).slots) (B : Bdy p s m meth c Z a0 "com/example/vouch/vouch/BitArrayAllSetPinLaw" "isSet" method_4_code 8 (some .boolean) tables_1) (eT : T.heap = h) (j0 : Int64) (i2 : Int32) (j3 : Int64) (i5 : Int32) (j6 : Int64)  :
    Go p e below s cells slots (PQ (some (.int (iss_f10 j0 i5 j6))) h locs) (T.setTop (mkF m 10 #[.val (.long j0), .second, .val (.int i2), .val (.long j3), .second, .val (.int i5), .val (.long j6), .second] [])) := by
  refine g_iload X B iss_d10 (pc' := 12) rfl (v := i5) rfl ?_
  refine g_if_eq X B iss_d12 (pcT := 26) (pcF := 15) (by decide) rfl rfl (fun c12_0 => ?_) (fun c12_0 => ?_)
  · exact Go.cw (congrArg (fun z => some (Value.int z)) (Eq.symm (by rw [iss_f10, if_pos c12_0]))) (iss_b26 X hc hs B eT j0 i2 j3 i5 j6)
  · refine g_lloadN X B iss_d15 (pc' := 16) rfl (v := j0) rfl ?_
    refine g_lload X B iss_d16 (pc' := 18) rfl (v := j6) rfl ?_
    refine g_lcmp_ne X B iss_d18 iss_d19 (pcT := 26) (pcF := 22) (by decide) rfl rfl (fun c18_1 => ?_) (fun c18_1 => ?_)
    · exact Go.cw (congrArg (fun z => some (Value.int z)) (Eq.symm (by rw [iss_f10, if_neg c12_0, if_pos c18_1]))) (iss_b22 X hc hs B eT j0 i2 j3 i5 j6)
    · exact Go.cw (congrArg (fun z => some (Value.int z)) (Eq.symm (by rw [iss_f10, if_neg c12_0, if_neg c18_1]))) (iss_b26 X hc hs B eT j0 i2 j3 i5 j6)
def iss_f0 (j0 : Int64) (i2 : Int32) (j3 : Int64) (i5 : Int32) (j6 : Int64) : Int32 := (if i2 = (0 : Int32) then (iss_f10 j0 i5 j6) else (if j0 = j3 then iss_f22 else (iss_f10 j0 i5 j6)))
theorem iss_b0 {p : Program} {l : Launch} {e : Env} {s : State} {m : MethodId} {args : Array Value} {below : List Frame} {meth : Method} {c : Code} {T : State} {Z : State} {a0 : Array Value} {h : Heap} {locs : List Loc} {cells slots : Nat} (X : Stand p l e (⟨0, 0, 0, 0⟩ : Room) s m args below meth c T locs cells slots) (hc : cells ≤ ((⟨0, 0, 0, 0⟩ : Room)).cells) (hs : slots ≤ ((⟨0, 0, 0, 0⟩ : Room)).slots) (B : Bdy p s m meth c Z a0 "com/example/vouch/vouch/BitArrayAllSetPinLaw" "isSet" method_4_code 8 (some .boolean) tables_1) (eT : T.heap = h) (j0 : Int64) (i2 : Int32) (j3 : Int64) (i5 : Int32) (j6 : Int64)  :
    Go p e below s cells slots (PQ (some (.int (iss_f0 j0 i2 j3 i5 j6))) h locs) (T.setTop (mkF m 0 #[.val (.long j0), .second, .val (.int i2), .val (.long j3), .second, .val (.int i5), .val (.long j6), .second] [])) := by
  refine g_iloadN X B iss_d0 (pc' := 1) rfl (v := i2) rfl ?_
  refine g_if_eq X B iss_d1 (pcT := 10) (pcF := 4) (by decide) rfl rfl (fun c1_0 => ?_) (fun c1_0 => ?_)
  · exact Go.cw (congrArg (fun z => some (Value.int z)) (Eq.symm (by rw [iss_f0, if_pos c1_0]))) (iss_b10 X hc hs B eT j0 i2 j3 i5 j6)
  · refine g_lloadN X B iss_d4 (pc' := 5) rfl (v := j0) rfl ?_
    refine g_lloadN X B iss_d5 (pc' := 6) rfl (v := j3) rfl ?_
    refine g_lcmp_eq X B iss_d6 iss_d7 (pcT := 22) (pcF := 10) (by decide) rfl rfl (fun c6_1 => ?_) (fun c6_1 => ?_)
    · exact Go.cw (congrArg (fun z => some (Value.int z)) (Eq.symm (by rw [iss_f0, if_neg c1_0, if_pos c6_1]))) (iss_b22 X hc hs B eT j0 i2 j3 i5 j6)
    · exact Go.cw (congrArg (fun z => some (Value.int z)) (Eq.symm (by rw [iss_f0, if_neg c1_0, if_neg c6_1]))) (iss_b10 X hc hs B eT j0 i2 j3 i5 j6)
theorem own_pn_iss : plainFor (⟨"com/example/vouch/vouch/BitArrayAllSetPinLaw", "isSet", "(JZJZJ)Z"⟩ : MethodName) = true := plainFor_of_name (by first | (simp [plainName, overriddenIn]; done) | decide +kernel)
theorem own_ef_iss (m : MethodId) (j0 : Int64) (i2 : Int32) (j3 : Int64) (i5 : Int32) (j6 : Int64) : entryFrame m #[(.long j0), (.int i2), (.long j3), (.int i5), (.long j6)] 8 = (mkF m 0 #[.val (.long j0), .second, .val (.int i2), .val (.long j3), .second, .val (.int i5), .val (.long j6), .second] []) := by first | (simp [entryFrame, mkF, argsToLocals, Value.category]; done) | rfl
theorem iss_met (l : Launch) (Z : State) (a0 : Array Value) (hw : ∀ d ∈ tables_1, d.before a0 Z = true) (ws : List Jvm.Cond) (h : Heap) (j0 : Int64) (i2 : Int32) (j3 : Int64) (i5 : Int32) (j6 : Int64)  :
    Met l Z (⟨"com/example/vouch/vouch/BitArrayAllSetPinLaw", "isSet", "(JZJZJ)Z"⟩ : MethodName) method_4_code 8 (some .boolean) ws (⟨0, 0, 0, 0⟩ : Room) #[(.long j0), (.int i2), (.long j3), (.int i5), (.long j6)] h (PQ (some (.int (iss_f0 j0 i2 j3 i5 j6))) h []) :=
  met_of own_pn_iss hw fun p e s m below meth c T X B eT => Go.top (own_ef_iss m j0 i2 j3 i5 j6) (iss_b0 X (Nat.zero_le _) (Nat.zero_le _) B eT j0 i2 j3 i5 j6)
theorem cs_d0 : decode prog_2_method_13_code 0 = .ok (.lload_n 0, 1) := by decide +kernel
theorem cs_d1 : decode prog_2_method_13_code 1 = .ok (.lconst 1, 1) := by decide +kernel
theorem cs_d2 : decode prog_2_method_13_code 2 = .ok (.lcmp, 1) := by decide +kernel
theorem cs_d3 : decode prog_2_method_13_code 3 = .ok (.ifCond .lt 11, 3) := by decide +kernel
theorem cs_d6 : decode prog_2_method_13_code 6 = .ok (.lload_n 0, 1) := by decide +kernel
theorem cs_d7 : decode prog_2_method_13_code 7 = .ok (.ldc2_w 89, 3) := by decide +kernel
theorem cs_d10 : decode prog_2_method_13_code 10 = .ok (.lcmp, 1) := by decide +kernel
theorem cs_d11 : decode prog_2_method_13_code 11 = .ok (.ifCond .le 17, 3) := by decide +kernel
theorem cs_d28 : decode prog_2_method_13_code 28 = .ok (.return_, 1) := by decide +kernel
theorem own_pn_cs : plainFor (⟨"com/example/vouch/vouch/BitArray", "checkSize", "(J)V"⟩ : MethodName) = true := plainFor_of_name (by first | (simp [plainName, overriddenIn]; done) | decide +kernel)
theorem own_ef_cs (m : MethodId) (j0 : Int64) : entryFrame m #[(.long j0)] 2 = (mkF m 0 #[.val (.long j0), .second] []) := by first | (simp [entryFrame, mkF, argsToLocals, Value.category]; done) | rfl
set_option maxRecDepth 65536 in
set_option maxHeartbeats 40000000 in
theorem cs_go {p : Program} {l : Launch} {e : Env} {s : State} {m : MethodId} {args : Array Value} {below : List Frame} {meth : Method} {c : Code} {T : State} {Z : State} {a0 : Array Value} {h : Heap} (X : Stand p l e (⟨0, 0, 0, 0⟩ : Room) s m args below meth c T [] 0 0) (B : Bdy p s m meth c Z a0 "com/example/vouch/vouch/BitArray" "checkSize" prog_2_method_13_code 2 none tables_1) (eT : T.heap = h) (j0 : Int64)  (h1 : ¬ j0 < (1 : Int64)) (h2 : ¬ (137438952896 : Int64) < j0) :
    Go p e below s 0 0 (PQ none h []) (T.setTop (mkF m 0 #[.val (.long j0), .second] [])) := by
  refine g_lloadN X B cs_d0 (pc' := 1) rfl (v := j0) rfl ?_
  refine g_lconst X B cs_d1 (pc' := 2) rfl (v := (1 : Int64)) (by decide) ?_
  refine g_lcmp_lt X B cs_d2 cs_d3 (pcT := 14) (pcF := 6) (by decide) rfl rfl (fun c2_0 => ?_) (fun c2_0 => ?_)
  · exact absurd c2_0 h1
  · refine g_lloadN X B cs_d6 (pc' := 7) rfl (v := j0) rfl ?_
    refine g_ldc2 X B (B.w 13 rfl) cs_d7 (pc' := 10) rfl ?_
    refine g_lcmp_le X B cs_d10 cs_d11 (pcT := 28) (pcF := 14) (by decide) rfl rfl (fun c10_1 => ?_) (fun c10_1 => ?_)
    · exact absurd c10_1 h2
    · exact g_ret0 X B rfl cs_d28 (by decide) (by decide) ⟨rfl, eT, rfl⟩
theorem cs_met (l : Launch) (Z : State) (a0 : Array Value) (hw : ∀ d ∈ tables_1, d.before a0 Z = true) (ws : List Jvm.Cond) (h : Heap) (j0 : Int64)  (h1 : ¬ j0 < (1 : Int64)) (h2 : ¬ (137438952896 : Int64) < j0) :
    Met l Z (⟨"com/example/vouch/vouch/BitArray", "checkSize", "(J)V"⟩ : MethodName) prog_2_method_13_code 2 none ws (⟨0, 0, 0, 0⟩ : Room) #[(.long j0)] h (PQ none h []) :=
  met_of own_pn_cs hw fun p e s m below meth c T X B eT => Go.top (own_ef_cs m j0) (cs_go X B eT j0  h1 h2)
theorem pc_d0 : decode jdk_41_method_14_code 0 = .ok (.lload_n 0, 1) := by decide +kernel
theorem pc_d1 : decode jdk_41_method_14_code 1 = .ok (.lconst 0, 1) := by decide +kernel
theorem pc_d2 : decode jdk_41_method_14_code 2 = .ok (.lcmp, 1) := by decide +kernel
theorem pc_d3 : decode jdk_41_method_14_code 3 = .ok (.ifCond .lt 9, 3) := by decide +kernel
theorem pc_d6 : decode jdk_41_method_14_code 6 = .ok (.lload_n 0, 1) := by decide +kernel
theorem pc_d7 : decode jdk_41_method_14_code 7 = .ok (.lload_n 2, 1) := by decide +kernel
theorem pc_d8 : decode jdk_41_method_14_code 8 = .ok (.lcmp, 1) := by decide +kernel
theorem pc_d9 : decode jdk_41_method_14_code 9 = .ok (.ifCond .lt 11, 3) := by decide +kernel
theorem pc_d20 : decode jdk_41_method_14_code 20 = .ok (.lload_n 0, 1) := by decide +kernel
theorem pc_d21 : decode jdk_41_method_14_code 21 = .ok (.lreturn, 1) := by decide +kernel
theorem own_pn_pc : plainFor (⟨"jdk/internal/util/Preconditions", "checkIndex", "(JJLjava/util/function/BiFunction;)J"⟩ : MethodName) = true := plainFor_of_name (by first | (simp [plainName, overriddenIn]; done) | decide +kernel)
theorem own_ef_pc (m : MethodId) (j0 : Int64) (j2 : Int64) : entryFrame m #[(.long j0), (.long j2), .null] 5 = (mkF m 0 #[.val (.long j0), .second, .val (.long j2), .second, .val .null] []) := by first | (simp [entryFrame, mkF, argsToLocals, Value.category]; done) | rfl
set_option maxRecDepth 65536 in
set_option maxHeartbeats 40000000 in
theorem pc_go {p : Program} {l : Launch} {e : Env} {s : State} {m : MethodId} {args : Array Value} {below : List Frame} {meth : Method} {c : Code} {T : State} {Z : State} {a0 : Array Value} {h : Heap} (X : Stand p l e (⟨0, 0, 0, 0⟩ : Room) s m args below meth c T [] 0 0) (B : Bdy p s m meth c Z a0 "jdk/internal/util/Preconditions" "checkIndex" jdk_41_method_14_code 5 (some .long) tables_1) (eT : T.heap = h) (j0 : Int64) (j2 : Int64)  (h1 : ¬ j0 < (0 : Int64)) (h2 : j0 < j2) :
    Go p e below s 0 0 (PQ (some (.long j0)) h []) (T.setTop (mkF m 0 #[.val (.long j0), .second, .val (.long j2), .second, .val .null] [])) := by
  refine g_lloadN X B pc_d0 (pc' := 1) rfl (v := j0) rfl ?_
  refine g_lconst X B pc_d1 (pc' := 2) rfl (v := (0 : Int64)) (by decide) ?_
  refine g_lcmp_lt X B pc_d2 pc_d3 (pcT := 12) (pcF := 6) (by decide) rfl rfl (fun c2_0 => ?_) (fun c2_0 => ?_)
  · exact absurd c2_0 h1
  · refine g_lloadN X B pc_d6 (pc' := 7) rfl (v := j0) rfl ?_
    refine g_lloadN X B pc_d7 (pc' := 8) rfl (v := j2) rfl ?_
    refine g_lcmp_lt X B pc_d8 pc_d9 (pcT := 20) (pcF := 12) (by decide) rfl rfl (fun c8_1 => ?_) (fun c8_1 => ?_)
    · refine g_lloadN X B pc_d20 (pc' := 21) rfl (v := j0) rfl ?_
      exact g_retL X B rfl pc_d21 (by decide) (by decide) ⟨rfl, eT, rfl⟩
    · exact absurd h2 c8_1
theorem pc_met (l : Launch) (Z : State) (a0 : Array Value) (hw : ∀ d ∈ tables_1, d.before a0 Z = true) (ws : List Jvm.Cond) (h : Heap) (j0 : Int64) (j2 : Int64)  (h1 : ¬ j0 < (0 : Int64)) (h2 : j0 < j2) :
    Met l Z (⟨"jdk/internal/util/Preconditions", "checkIndex", "(JJLjava/util/function/BiFunction;)J"⟩ : MethodName) jdk_41_method_14_code 5 (some .long) ws (⟨0, 0, 0, 0⟩ : Room) #[(.long j0), (.long j2), .null] h (PQ (some (.long j0)) h []) :=
  met_of own_pn_pc hw fun p e s m below meth c T X B eT => Go.top (own_ef_pc m j0 j2) (pc_go X B eT j0 j2  h1 h2)
theorem oc_d0 : decode jdk_31_method_20_code 0 = .ok (.lload_n 0, 1) := by decide +kernel
theorem oc_d1 : decode jdk_31_method_20_code 1 = .ok (.lload_n 2, 1) := by decide +kernel
theorem oc_d2 : decode jdk_31_method_20_code 2 = .ok (.aconst_null, 1) := by decide +kernel
theorem oc_d3 : decode jdk_31_method_20_code 3 = .ok (.invokestatic 118, 3) := by decide +kernel
theorem oc_d6 : decode jdk_31_method_20_code 6 = .ok (.lreturn, 1) := by decide +kernel
theorem own_pn_oc : plainFor (⟨"java/util/Objects", "checkIndex", "(JJ)J"⟩ : MethodName) = true := plainFor_of_name (by first | (simp [plainName, overriddenIn]; done) | decide +kernel)
theorem own_ef_oc (m : MethodId) (j0 : Int64) (j2 : Int64) : entryFrame m #[(.long j0), (.long j2)] 4 = (mkF m 0 #[.val (.long j0), .second, .val (.long j2), .second] []) := by first | (simp [entryFrame, mkF, argsToLocals, Value.category]; done) | rfl
set_option maxRecDepth 65536 in
set_option maxHeartbeats 40000000 in
theorem oc_go {p : Program} {l : Launch} {e : Env} {s : State} {m : MethodId} {args : Array Value} {below : List Frame} {meth : Method} {c : Code} {T : State} {Z : State} {a0 : Array Value} {h : Heap} (X : Stand p l e (⟨1, 0, 0, 16⟩ : Room) s m args below meth c T [] 0 0) (B : Bdy p s m meth c Z a0 "java/util/Objects" "checkIndex" jdk_31_method_20_code 4 (some .long) tables_1) (eT : T.heap = h) (j0 : Int64) (j2 : Int64)  (h1 : ¬ j0 < (0 : Int64)) (h2 : j0 < j2) :
    Go p e below s 0 0 (PQ (some (.long j0)) h []) (T.setTop (mkF m 0 #[.val (.long j0), .second, .val (.long j2), .second] [])) := by
  refine g_lloadN X B oc_d0 (pc' := 1) rfl (v := j0) rfl ?_
  refine g_lloadN X B oc_d1 (pc' := 2) rfl (v := j2) rfl ?_
  refine g_null X B oc_d2 (pc' := 3) rfl ?_
  refine g_callP X B eT 0 (y := (⟨"jdk/internal/util/Preconditions", "checkIndex", "(JJLjava/util/function/BiFunction;)J"⟩ : MethodName)) (argsL := [(.long j0), (.long j2), .null]) (rest := []) (w := (.long j0)) (B.w 33 rfl) (B.w 34 rfl) (B.w 35 rfl) (B.w 36 rfl) (by decide) (pc_met l Z a0 B.2.2.1 [] h j0 j2 h1 h2) (by decide) (by decide) (by decide) (by decide) rfl (lenOf own_pd0 rfl) rfl (Nat.le_of_eq rfl) oc_d3 (pc' := 6) rfl (fun T1 X1 e1 => ?_)
  exact g_retL X1 B rfl oc_d6 (by decide) (by decide) ⟨rfl, e1, rfl⟩
theorem oc_met (l : Launch) (Z : State) (a0 : Array Value) (hw : ∀ d ∈ tables_1, d.before a0 Z = true) (ws : List Jvm.Cond) (h : Heap) (j0 : Int64) (j2 : Int64)  (h1 : ¬ j0 < (0 : Int64)) (h2 : j0 < j2) :
    Met l Z (⟨"java/util/Objects", "checkIndex", "(JJ)J"⟩ : MethodName) jdk_31_method_20_code 4 (some .long) ws (⟨1, 0, 0, 16⟩ : Room) #[(.long j0), (.long j2)] h (PQ (some (.long j0)) h []) :=
  met_of own_pn_oc hw fun p e s m below meth c T X B eT => Go.top (own_ef_oc m j0 j2) (oc_go X B eT j0 j2  h1 h2)
theorem ini_d0 : decode prog_2_method_1_code 0 = .ok (.aload_n 0, 1) := by decide +kernel
theorem ini_d1 : decode prog_2_method_1_code 1 = .ok (.invokespecial 5, 3) := by decide +kernel
theorem ini_d4 : decode prog_2_method_1_code 4 = .ok (.lload_n 1, 1) := by decide +kernel
theorem ini_d5 : decode prog_2_method_1_code 5 = .ok (.invokestatic 11, 3) := by decide +kernel
theorem ini_d8 : decode prog_2_method_1_code 8 = .ok (.aload_n 0, 1) := by decide +kernel
theorem ini_d9 : decode prog_2_method_1_code 9 = .ok (.lload_n 1, 1) := by decide +kernel
theorem ini_d10 : decode prog_2_method_1_code 10 = .ok (.putfield 17, 3) := by decide +kernel
theorem ini_d13 : decode prog_2_method_1_code 13 = .ok (.aload_n 0, 1) := by decide +kernel
theorem ini_d14 : decode prog_2_method_1_code 14 = .ok (.lload_n 1, 1) := by decide +kernel
theorem ini_d15 : decode prog_2_method_1_code 15 = .ok (.invokestatic 21, 3) := by decide +kernel
theorem ini_d18 : decode prog_2_method_1_code 18 = .ok (.newarray .long, 2) := by decide +kernel
theorem ini_d20 : decode prog_2_method_1_code 20 = .ok (.putfield 25, 3) := by decide +kernel
theorem ini_d23 : decode prog_2_method_1_code 23 = .ok (.return_, 1) := by decide +kernel
theorem own_pn_ini : plainFor (⟨"com/example/vouch/vouch/BitArray", "<init>", "(J)V"⟩ : MethodName) = true := plainFor_of_name (by first | (simp [plainName, overriddenIn]; done) | decide +kernel)
theorem own_ef_ini (m : MethodId) (o0 : Addr) (j1 : Int64) : entryFrame m #[(.ref o0), (.long j1)] 3 = (mkF m 0 #[.val (.ref o0), .val (.long j1), .second] []) := by first | (simp [entryFrame, mkF, argsToLocals, Value.category]; done) | rfl
set_option maxRecDepth 65536 in
set_option maxHeartbeats 40000000 in
theorem ini_go {p : Program} {l : Launch} {e : Env} {s : State} {m : MethodId} {args : Array Value} {below : List Frame} {meth : Method} {c : Code} {T : State} {Z : State} {a0 : Array Value} {h : Heap} (X : Stand p l e (⟨1, 1, 16, 32⟩ : Room) s m args below meth c T [] 0 0) (B : Bdy p s m meth c Z a0 "com/example/vouch/vouch/BitArray" "<init>" prog_2_method_1_code 3 none tables_1) (eT : T.heap = h) (o0 : Addr) (j1 : Int64) (nw : Nat) (n0 : Nat) (Zs : n0 ≤ h.size) (h1 : ¬ j1 < (1 : Int64)) (h2 : ¬ (137438952896 : Int64) < j1) (hnw : (wc_f0 j1).toInt = (nw : Int)) (hn16 : nw ≤ 16) (hE : Exa Z h o0 "com/example/vouch/vouch/BitArray") (f1 : Fld Z h o0 "com/example/vouch/vouch/BitArray" "size" "J" (.long (0 : Int64))) (f2 : Fld Z h o0 "com/example/vouch/vouch/BitArray" "words" "[J" .null) (f3 : Fld Z h o0 "com/example/vouch/vouch/BitArray" "cardinality" "J" (.long (0 : Int64))) (g0 : n0 ≤ o0) :
    Go p e below s 1 16 (fun v h2 L => ∃ a, v = none ∧ Fr n0 L ∧ Keep h h2 [o0] ∧ Fld Z h2 o0 "com/example/vouch/vouch/BitArray" "size" "J" (.long j1) ∧ Fld Z h2 o0 "com/example/vouch/vouch/BitArray" "words" "[J" (.ref a) ∧ Fld Z h2 o0 "com/example/vouch/vouch/BitArray" "cardinality" "J" (.long (0 : Int64)) ∧ Ax Z h2 a .long nw (fun _ => .long (0 : Int64)) ∧ o0 ≠ a ∧ n0 ≤ a) (T.setTop (mkF m 0 #[.val (.ref o0), .val (.long j1), .second] [])) := by
  have N := Fr.nil n0
  have K := Keep.refl h [o0]
  refine g_aloadN X B ini_d0 (pc' := 1) rfl (v := (.ref o0)) rfl rfl ?_
  refine g_initO X B 0 (B.w 7 rfl) (B.w 8 rfl) (B.w 9 rfl) eT rfl ini_d1 (pc' := 4) rfl (by decide) (Nat.le_of_eq rfl) (by decide) (fun T1 X1 e1 => ?_)
  refine g_lloadN X1 B ini_d4 (pc' := 5) rfl (v := j1) rfl ?_
  refine g_callS X1 B e1 0 (y := (⟨"com/example/vouch/vouch/BitArray", "checkSize", "(J)V"⟩ : MethodName)) (argsL := [(.long j1)]) (rest := []) (B.w 10 rfl) (B.w 11 rfl) (B.w 3 rfl) (B.w 12 rfl) (by decide) (cs_met l Z a0 B.2.2.1 [] h j1 h1 h2) (by decide) (by decide) (by decide) (by decide) rfl (lenOf own_pd1 rfl) rfl (Nat.le_of_eq rfl) ini_d5 (pc' := 8) rfl (fun T2 v2 L2 X2 Q2 => ?_)
  obtain ⟨rfl, hh2, rfl⟩ := Q2
  rw [List.append_nil] at X2
  show Go p e below s _ _ _ (T2.setTop (mkF m 8 #[.val (.ref o0), .val (.long j1), .second] []))
  refine g_aloadN X2 B ini_d8 (pc' := 9) rfl (v := (.ref o0)) rfl rfl ?_
  refine g_lloadN X2 B ini_d9 (pc' := 10) rfl (v := j1) rfl ?_
  refine g_putF X2 B (B.w 14 rfl) Via.refl hh2 f1 hE (Or.inr ⟨B.w 15 rfl, rfl, rfl⟩) (B.w 2 rfl) (ty := .long) (by decide) rfl rfl ini_d10 (pc' := 13) rfl (fun T3 h3 X3 e3 W3 => ?_)
  have N3 := Fr.snoc X3 N g0
  have E_o0_3 := hE.wr W3
  have F_o0_size_3 := f1.same W3
  have F_o0_words_3 := f2.other W3 (Or.inr (slot_ne (Or.inr (B.w 22 rfl)) (Or.inr (B.w 15 rfl)) (by decide) (t := (.array .long)) (t' := .long) (by decide) (by decide)))
  have F_o0_cardinality_3 := f3.other W3 (Or.inr (slot_ne (Or.inl (B.w 48 rfl)) (Or.inr (B.w 15 rfl)) (by decide) (t := .long) (t' := .long) (by decide) (by decide)))
  have Zs_3 := Nat.le_trans Zs (Keep.of_wr W3).1
  have K_3 := K.wr W3 (Or.inl (List.mem_of_getElem? (i := 0) rfl))
  refine g_aloadN X3 B ini_d13 (pc' := 14) rfl (v := (.ref o0)) rfl rfl ?_
  refine g_lloadN X3 B ini_d14 (pc' := 15) rfl (v := j1) rfl ?_
  refine g_callP X3 B e3 1 (y := (⟨"com/example/vouch/vouch/BitArray", "wordCount", "(J)I"⟩ : MethodName)) (argsL := [(.long j1)]) (rest := [(.ref o0)]) (w := (.int (wc_f0 j1))) (B.w 16 rfl) (B.w 17 rfl) (B.w 3 rfl) (B.w 18 rfl) (by decide) (wc_met l Z a0 B.2.2.1 [] h3 j1) (by decide) (by decide) (by decide) (by decide) rfl (lenOf own_pd2 rfl) rfl (Nat.le_of_eq rfl) ini_d15 (pc' := 18) rfl (fun T4 X4 e4 => ?_)
  refine g_newA X4 B (aty := .long) nw 16 (B.w 20 rfl) e4 hnw hn16 (by decide) ini_d18 (pc' := 20) rfl (by decide) (by decide) (fun T5 h5 o5 q5 X5 e5 E5 A5 => ?_)
  have ne_o0_o5 : o0 ≠ o5 := fun q => absurd (E_o0_3.lt) (by rw [q, q5]; exact Nat.lt_irrefl _)
  have G_o5 : n0 ≤ o5 := by rw [q5]; exact Zs_3
  have H_o5 : h.size ≤ o5 := by rw [q5]; exact K_3.1
  have E_o0_5 := E_o0_3.ext E5
  have F_o0_size_5 := F_o0_size_3.ext E5
  have F_o0_words_5 := F_o0_words_3.ext E5
  have F_o0_cardinality_5 := F_o0_cardinality_3.ext E5
  have Zs_5 := Nat.le_trans Zs_3 E5.1
  have K_5 := K_3.ext E5
  have A_o5 : Ax Z h5 o5 .long nw (fun _ => (.long (0 : Int64))) := A5
  refine g_putF X5 B (B.w 21 rfl) Via.refl e5 F_o0_words_5 E_o0_5 (Or.inr ⟨B.w 22 rfl, rfl, rfl⟩) (B.w 2 rfl) (ty := (.array .long)) (by decide) rfl rfl ini_d20 (pc' := 23) rfl (fun T6 h6 X6 e6 W6 => ?_)
  have N6 := Fr.snoc X6 N3 g0
  have E_o0_6 := E_o0_5.wr W6
  have F_o0_size_6 := F_o0_size_5.other W6 (Or.inr (slot_ne (Or.inr (B.w 15 rfl)) (Or.inr (B.w 22 rfl)) (by decide) (t := .long) (t' := (.array .long)) (by decide) (by decide)))
  have F_o0_words_6 := F_o0_words_5.same W6
  have F_o0_cardinality_6 := F_o0_cardinality_5.other W6 (Or.inr (slot_ne (Or.inl (B.w 48 rfl)) (Or.inr (B.w 22 rfl)) (by decide) (t := .long) (t' := (.array .long)) (by decide) (by decide)))
  have A_o5_6 := A_o5.other W6 (Ne.symm ne_o0_o5)
  have Zs_6 := Nat.le_trans Zs_5 (Keep.of_wr W6).1
  have K_6 := K_5.wr W6 (Or.inl (List.mem_of_getElem? (i := 0) rfl))
  exact g_ret0 X6 B rfl ini_d23 (by decide) (by decide) (by rw [e6]; exact ⟨o5, rfl, N6, K_6, F_o0_size_6, F_o0_words_6, F_o0_cardinality_6, A_o5_6, ne_o0_o5, G_o5⟩)
theorem ini_met (l : Launch) (Z : State) (a0 : Array Value) (hw : ∀ d ∈ tables_1, d.before a0 Z = true) (ws : List Jvm.Cond) (h : Heap) (o0 : Addr) (j1 : Int64) (nw : Nat) (n0 : Nat) (Zs : n0 ≤ h.size) (h1 : ¬ j1 < (1 : Int64)) (h2 : ¬ (137438952896 : Int64) < j1) (hnw : (wc_f0 j1).toInt = (nw : Int)) (hn16 : nw ≤ 16) (hE : Exa Z h o0 "com/example/vouch/vouch/BitArray") (f1 : Fld Z h o0 "com/example/vouch/vouch/BitArray" "size" "J" (.long (0 : Int64))) (f2 : Fld Z h o0 "com/example/vouch/vouch/BitArray" "words" "[J" .null) (f3 : Fld Z h o0 "com/example/vouch/vouch/BitArray" "cardinality" "J" (.long (0 : Int64))) (g0 : n0 ≤ o0) :
    Met l Z (⟨"com/example/vouch/vouch/BitArray", "<init>", "(J)V"⟩ : MethodName) prog_2_method_1_code 3 none ws (⟨1, 1, 16, 32⟩ : Room) #[(.ref o0), (.long j1)] h (fun v h2 L => ∃ a, v = none ∧ Fr n0 L ∧ Keep h h2 [o0] ∧ Fld Z h2 o0 "com/example/vouch/vouch/BitArray" "size" "J" (.long j1) ∧ Fld Z h2 o0 "com/example/vouch/vouch/BitArray" "words" "[J" (.ref a) ∧ Fld Z h2 o0 "com/example/vouch/vouch/BitArray" "cardinality" "J" (.long (0 : Int64)) ∧ Ax Z h2 a .long nw (fun _ => .long (0 : Int64)) ∧ o0 ≠ a ∧ n0 ≤ a) :=
  met_of own_pn_ini hw fun p e s m below meth c T X B eT => Go.top (own_ef_ini m o0 j1) (ini_go X B eT o0 j1 nw n0 Zs h1 h2 hnw hn16 hE f1 f2 f3 g0)
theorem cg_d0 : decode prog_2_method_16_code 0 = .ok (.aload_n 0, 1) := by decide +kernel
theorem cg_d1 : decode prog_2_method_16_code 1 = .ok (.getfield 44, 3) := by decide +kernel
theorem cg_d4 : decode prog_2_method_16_code 4 = .ok (.ldc2_w 33, 3) := by decide +kernel
theorem cg_d7 : decode prog_2_method_16_code 7 = .ok (.lcmp, 1) := by decide +kernel
theorem cg_d8 : decode prog_2_method_16_code 8 = .ok (.ifCond .eq 10, 3) := by decide +kernel
theorem cg_d11 : decode prog_2_method_16_code 11 = .ok (.aload_n 0, 1) := by decide +kernel
theorem cg_d12 : decode prog_2_method_16_code 12 = .ok (.ldc2_w 33, 3) := by decide +kernel
theorem cg_d15 : decode prog_2_method_16_code 15 = .ok (.putfield 44, 3) := by decide +kernel
theorem cg_d18 : decode prog_2_method_16_code 18 = .ok (.return_, 1) := by decide +kernel
theorem own_pn_cg : plainFor (⟨"com/example/vouch/vouch/BitArray", "changed", "()V"⟩ : MethodName) = true := plainFor_of_name (by first | (simp [plainName, overriddenIn]; done) | decide +kernel)
theorem own_ef_cg (m : MethodId) (o0 : Addr) : entryFrame m #[(.ref o0)] 1 = (mkF m 0 #[.val (.ref o0)] []) := by first | (simp [entryFrame, mkF, argsToLocals, Value.category]; done) | rfl
set_option maxRecDepth 65536 in
set_option maxHeartbeats 40000000 in
theorem cg_go {p : Program} {l : Launch} {e : Env} {s : State} {m : MethodId} {args : Array Value} {below : List Frame} {meth : Method} {c : Code} {T : State} {Z : State} {a0 : Array Value} {h : Heap} (X : Stand p l e (⟨0, 0, 0, 0⟩ : Room) s m args below meth c T [] 0 0) (B : Bdy p s m meth c Z a0 "com/example/vouch/vouch/BitArray" "changed" prog_2_method_16_code 1 none tables_1) (eT : T.heap = h) (o0 : Addr) (sz : Int64) (wa : Addr) (cd : Int64) (n0 : Nat) (Zs : n0 ≤ h.size) (hE : Exa Z h o0 "com/example/vouch/vouch/BitArray") (Fs : Fld Z h o0 "com/example/vouch/vouch/BitArray" "size" "J" (.long sz)) (Fw : Fld Z h o0 "com/example/vouch/vouch/BitArray" "words" "[J" (.ref wa)) (Fk : Fld Z h o0 "com/example/vouch/vouch/BitArray" "cardinality" "J" (.long cd)) (g0 : n0 ≤ o0) :
    Go p e below s 0 0 (fun v h2 L => ∃ c2, v = none ∧ Fr n0 L ∧ Keep h h2 [o0] ∧ Fld Z h2 o0 "com/example/vouch/vouch/BitArray" "size" "J" (.long sz) ∧ Fld Z h2 o0 "com/example/vouch/vouch/BitArray" "words" "[J" (.ref wa) ∧ Fld Z h2 o0 "com/example/vouch/vouch/BitArray" "cardinality" "J" (.long c2)) (T.setTop (mkF m 0 #[.val (.ref o0)] [])) := by
  have N := Fr.nil n0
  have K := Keep.refl h [o0]
  refine g_aloadN X B cg_d0 (pc' := 1) rfl (v := (.ref o0)) rfl rfl ?_
  refine g_getF X B (B.w 47 rfl) Via.refl eT Fk cg_d1 (pc' := 4) rfl (fun T1 X1 e1 => ?_)
  refine g_ldc2 X1 B (B.w 49 rfl) cg_d4 (pc' := 7) rfl ?_
  refine g_lcmp_eq X1 B cg_d7 cg_d8 (pcT := 18) (pcF := 11) (by decide) rfl rfl (fun c7_0 => ?_) (fun c7_0 => ?_)
  · exact g_ret0 X1 B rfl cg_d18 (by decide) (by decide) (by rw [e1]; exact ⟨_, rfl, N, K, Fs, Fw, Fk⟩)
  · refine g_aloadN X1 B cg_d11 (pc' := 12) rfl (v := (.ref o0)) rfl rfl ?_
    refine g_ldc2 X1 B (B.w 49 rfl) cg_d12 (pc' := 15) rfl ?_
    refine g_putF X1 B (B.w 47 rfl) Via.refl e1 Fk hE (Or.inl (B.w 48 rfl)) (B.w 2 rfl) (ty := .long) (by decide) rfl rfl cg_d15 (pc' := 18) rfl (fun T2 h2 X2 e2 W2 => ?_)
    have N2 := Fr.snoc X2 N g0
    have E_o0_2 := hE.wr W2
    have F_o0_size_2 := Fs.other W2 (Or.inr (slot_ne (Or.inr (B.w 15 rfl)) (Or.inl (B.w 48 rfl)) (by decide) (t := .long) (t' := .long) (by decide) (by decide)))
    have F_o0_words_2 := Fw.other W2 (Or.inr (slot_ne (Or.inr (B.w 22 rfl)) (Or.inl (B.w 48 rfl)) (by decide) (t := (.array .long)) (t' := .long) (by decide) (by decide)))
    have F_o0_cardinality_2 := Fk.same W2
    have Zs_2 := Nat.le_trans Zs (Keep.of_wr W2).1
    have K_2 := K.wr W2 (Or.inl (List.mem_of_getElem? (i := 0) rfl))
    exact g_ret0 X2 B rfl cg_d18 (by decide) (by decide) (by rw [e2]; exact ⟨_, rfl, N2, K_2, F_o0_size_2, F_o0_words_2, F_o0_cardinality_2⟩)
theorem cg_met (l : Launch) (Z : State) (a0 : Array Value) (hw : ∀ d ∈ tables_1, d.before a0 Z = true) (ws : List Jvm.Cond) (h : Heap) (o0 : Addr) (sz : Int64) (wa : Addr) (cd : Int64) (n0 : Nat) (Zs : n0 ≤ h.size) (hE : Exa Z h o0 "com/example/vouch/vouch/BitArray") (Fs : Fld Z h o0 "com/example/vouch/vouch/BitArray" "size" "J" (.long sz)) (Fw : Fld Z h o0 "com/example/vouch/vouch/BitArray" "words" "[J" (.ref wa)) (Fk : Fld Z h o0 "com/example/vouch/vouch/BitArray" "cardinality" "J" (.long cd)) (g0 : n0 ≤ o0) :
    Met l Z (⟨"com/example/vouch/vouch/BitArray", "changed", "()V"⟩ : MethodName) prog_2_method_16_code 1 none ws (⟨0, 0, 0, 0⟩ : Room) #[(.ref o0)] h (fun v h2 L => ∃ c2, v = none ∧ Fr n0 L ∧ Keep h h2 [o0] ∧ Fld Z h2 o0 "com/example/vouch/vouch/BitArray" "size" "J" (.long sz) ∧ Fld Z h2 o0 "com/example/vouch/vouch/BitArray" "words" "[J" (.ref wa) ∧ Fld Z h2 o0 "com/example/vouch/vouch/BitArray" "cardinality" "J" (.long c2)) :=
  met_of own_pn_cg hw fun p e s m below meth c T X B eT => Go.top (own_ef_cg m o0) (cg_go X B eT o0 sz wa cd n0 Zs hE Fs Fw Fk g0)
def own_upd (f : Nat → Int64) (k : Nat) (v : Int64) : Nat → Int64 := fun j => if j = k then f k ||| v else f j
theorem own_same {f : Nat → Int64} {kp : Nat} {v : Int64} {n : Nat} (q : f kp ||| v = f kp) : ∀ j, j < n → (fun j => Value.long (f j)) j = (fun j => Value.long (own_upd f kp v j)) j := fun j _ => by
  show Value.long (f j) = Value.long (own_upd f kp v j)
  by_cases z : j = kp
  · subst z; rw [own_upd, if_pos rfl, q]
  · rw [own_upd, if_neg z]
theorem own_diff (f : Nat → Int64) (kp : Nat) (v : Int64) {n : Nat} : ∀ j, j < n → (fun j => if j = kp then Value.long (f kp ||| v) else (fun j => Value.long (f j)) j) j = (fun j => Value.long (own_upd f kp v j)) j := fun j _ => by
  show (if j = kp then Value.long (f kp ||| v) else Value.long (f j)) = Value.long (own_upd f kp v j)
  by_cases z : j = kp
  · rw [own_upd, if_pos z, if_pos z]
  · rw [own_upd, if_neg z, if_neg z]
theorem se_d0 : decode prog_2_method_6_code 0 = .ok (.lload_n 1, 1) := by decide +kernel
theorem se_d1 : decode prog_2_method_6_code 1 = .ok (.aload_n 0, 1) := by decide +kernel
theorem se_d2 : decode prog_2_method_6_code 2 = .ok (.getfield 17, 3) := by decide +kernel
theorem se_d5 : decode prog_2_method_6_code 5 = .ok (.invokestatic 67, 3) := by decide +kernel
theorem se_d8 : decode prog_2_method_6_code 8 = .ok (.pop2, 1) := by decide +kernel
theorem se_d9 : decode prog_2_method_6_code 9 = .ok (.lload_n 1, 1) := by decide +kernel
theorem se_d10 : decode prog_2_method_6_code 10 = .ok (.invokestatic 73, 3) := by decide +kernel
theorem se_d13 : decode prog_2_method_6_code 13 = .ok (.istore_n 3, 1) := by decide +kernel
theorem se_d14 : decode prog_2_method_6_code 14 = .ok (.aload_n 0, 1) := by decide +kernel
theorem se_d15 : decode prog_2_method_6_code 15 = .ok (.getfield 25, 3) := by decide +kernel
theorem se_d18 : decode prog_2_method_6_code 18 = .ok (.iload_n 3, 1) := by decide +kernel
theorem se_d19 : decode prog_2_method_6_code 19 = .ok (.laload, 1) := by decide +kernel
theorem se_d20 : decode prog_2_method_6_code 20 = .ok (.lstore 4, 2) := by decide +kernel
theorem se_d22 : decode prog_2_method_6_code 22 = .ok (.lload 4, 2) := by decide +kernel
theorem se_d24 : decode prog_2_method_6_code 24 = .ok (.lload_n 1, 1) := by decide +kernel
theorem se_d25 : decode prog_2_method_6_code 25 = .ok (.invokestatic 76, 3) := by decide +kernel
theorem se_d28 : decode prog_2_method_6_code 28 = .ok (.lor, 1) := by decide +kernel
theorem se_d29 : decode prog_2_method_6_code 29 = .ok (.lstore 6, 2) := by decide +kernel
theorem se_d31 : decode prog_2_method_6_code 31 = .ok (.lload 6, 2) := by decide +kernel
theorem se_d33 : decode prog_2_method_6_code 33 = .ok (.lload 4, 2) := by decide +kernel
theorem se_d35 : decode prog_2_method_6_code 35 = .ok (.lcmp, 1) := by decide +kernel
theorem se_d36 : decode prog_2_method_6_code 36 = .ok (.ifCond .eq 7, 3) := by decide +kernel
theorem se_d39 : decode prog_2_method_6_code 39 = .ok (.iconst 1, 1) := by decide +kernel
theorem se_d40 : decode prog_2_method_6_code 40 = .ok (.goto 4, 3) := by decide +kernel
theorem se_d43 : decode prog_2_method_6_code 43 = .ok (.iconst 0, 1) := by decide +kernel
theorem se_d44 : decode prog_2_method_6_code 44 = .ok (.istore 8, 2) := by decide +kernel
theorem se_d46 : decode prog_2_method_6_code 46 = .ok (.iload 8, 2) := by decide +kernel
theorem se_d48 : decode prog_2_method_6_code 48 = .ok (.ifCond .eq 15, 3) := by decide +kernel
theorem se_d51 : decode prog_2_method_6_code 51 = .ok (.aload_n 0, 1) := by decide +kernel
theorem se_d52 : decode prog_2_method_6_code 52 = .ok (.getfield 25, 3) := by decide +kernel
theorem se_d55 : decode prog_2_method_6_code 55 = .ok (.iload_n 3, 1) := by decide +kernel
theorem se_d56 : decode prog_2_method_6_code 56 = .ok (.lload 6, 2) := by decide +kernel
theorem se_d58 : decode prog_2_method_6_code 58 = .ok (.lastore, 1) := by decide +kernel
theorem se_d59 : decode prog_2_method_6_code 59 = .ok (.aload_n 0, 1) := by decide +kernel
theorem se_d60 : decode prog_2_method_6_code 60 = .ok (.invokevirtual 79, 3) := by decide +kernel
theorem se_d63 : decode prog_2_method_6_code 63 = .ok (.iload 8, 2) := by decide +kernel
theorem se_d65 : decode prog_2_method_6_code 65 = .ok (.ireturn, 1) := by decide +kernel
theorem own_pn_se : plainFor (⟨"com/example/vouch/vouch/BitArray", "set", "(J)Z"⟩ : MethodName) = true := plainFor_of_name (by first | (simp [plainName, overriddenIn]; done) | decide +kernel)
theorem own_ef_se (m : MethodId) (o0 : Addr) (j1 : Int64) : entryFrame m #[(.ref o0), (.long j1)] 9 = (mkF m 0 #[.val (.ref o0), .val (.long j1), .second, .unset, .unset, .unset, .unset, .unset, .unset] []) := by first | (simp [entryFrame, mkF, argsToLocals, Value.category]; done) | rfl
set_option maxRecDepth 65536 in
set_option maxHeartbeats 40000000 in
theorem se_go {p : Program} {l : Launch} {e : Env} {s : State} {m : MethodId} {args : Array Value} {below : List Frame} {meth : Method} {c : Code} {T : State} {Z : State} {a0 : Array Value} {h : Heap} (X : Stand p l e (⟨2, 0, 0, 64⟩ : Room) s m args below meth c T [] 0 0) (B : Bdy p s m meth c Z a0 "com/example/vouch/vouch/BitArray" "set" prog_2_method_6_code 9 (some .boolean) tables_1) (eT : T.heap = h) (o0 : Addr) (j1 : Int64) (sz : Int64) (wa : Addr) (cd : Int64) (nw : Nat) (f : Nat → Int64) (kp : Nat) (n0 : Nat) (Zs : n0 ≤ h.size) (hE : Exa Z h o0 "com/example/vouch/vouch/BitArray") (Fs : Fld Z h o0 "com/example/vouch/vouch/BitArray" "size" "J" (.long sz)) (Fw : Fld Z h o0 "com/example/vouch/vouch/BitArray" "words" "[J" (.ref wa)) (Fk : Fld Z h o0 "com/example/vouch/vouch/BitArray" "cardinality" "J" (.long cd)) (g0 : n0 ≤ o0) (Aw : Ax Z h wa .long nw (fun j => .long (f j))) (now : o0 ≠ wa) (gw : n0 ≤ wa) (h1 : ¬ j1 < (0 : Int64)) (h2 : j1 < sz) (hkp : (wi_f0 j1).toInt = (kp : Int)) (hkn : kp < nw) :
    Go p e below s 0 0 (fun v h2 L => ∃ b c2, v = some (.int b) ∧ Fr n0 L ∧ Keep h h2 [o0, wa] ∧ Fld Z h2 o0 "com/example/vouch/vouch/BitArray" "size" "J" (.long sz) ∧ Fld Z h2 o0 "com/example/vouch/vouch/BitArray" "words" "[J" (.ref wa) ∧ Fld Z h2 o0 "com/example/vouch/vouch/BitArray" "cardinality" "J" (.long c2) ∧ Ax Z h2 wa .long nw (fun j => .long (own_upd f kp (bm_f0 j1) j))) (T.setTop (mkF m 0 #[.val (.ref o0), .val (.long j1), .second, .unset, .unset, .unset, .unset, .unset, .unset] [])) := by
  have N := Fr.nil n0
  have K := Keep.refl h [o0, wa]
  refine g_lloadN X B se_d0 (pc' := 1) rfl (v := j1) rfl ?_
  refine g_aloadN X B se_d1 (pc' := 2) rfl (v := (.ref o0)) rfl rfl ?_
  refine g_getF X B (B.w 14 rfl) Via.refl eT Fs se_d2 (pc' := 5) rfl (fun T1 X1 e1 => ?_)
  refine g_callP X1 B e1 0 (y := (⟨"java/util/Objects", "checkIndex", "(JJ)J"⟩ : MethodName)) (argsL := [(.long j1), (.long sz)]) (rest := []) (w := (.long j1)) (B.w 29 rfl) (B.w 30 rfl) (B.w 31 rfl) (B.w 32 rfl) (by decide) (oc_met l Z a0 B.2.2.1 [] h j1 sz h1 h2) (by decide) (by decide) (by decide) (by decide) rfl (lenOf own_pd3 rfl) rfl (Nat.le_of_eq rfl) se_d5 (pc' := 8) rfl (fun T2 X2 e2 => ?_)
  refine g_pop2L X2 B se_d8 (pc' := 9) rfl ?_
  refine g_lloadN X2 B se_d9 (pc' := 10) rfl (v := j1) rfl ?_
  refine g_callP X2 B e2 0 (y := (⟨"com/example/vouch/vouch/BitArray", "wordIndex", "(J)I"⟩ : MethodName)) (argsL := [(.long j1)]) (rest := []) (w := (.int (wi_f0 j1))) (B.w 37 rfl) (B.w 38 rfl) (B.w 3 rfl) (B.w 39 rfl) (by decide) (wi_met l Z a0 B.2.2.1 [] h j1) (by decide) (by decide) (by decide) (by decide) rfl (lenOf own_pd2 rfl) rfl (Nat.le_of_eq rfl) se_d10 (pc' := 13) rfl (fun T3 X3 e3 => ?_)
  refine g_istoreN X3 B se_d13 (pc' := 14) rfl (Ls' := #[.val (.ref o0), .val (.long j1), .second, .val (.int (wi_f0 j1)), .unset, .unset, .unset, .unset, .unset]) rfl ?_
  refine g_aloadN X3 B se_d14 (pc' := 15) rfl (v := (.ref o0)) rfl rfl ?_
  refine g_getF X3 B (B.w 21 rfl) Via.refl e3 Fw se_d15 (pc' := 18) rfl (fun T4 X4 e4 => ?_)
  refine g_iloadN X4 B se_d18 (pc' := 19) rfl (v := (wi_f0 j1)) rfl ?_
  refine g_laload X4 B kp e4 Aw hkp hkn (v := (.long (f kp))) rfl se_d19 (pc' := 20) rfl ?_
  refine g_lstore X4 B se_d20 (pc' := 22) rfl (Ls' := #[.val (.ref o0), .val (.long j1), .second, .val (.int (wi_f0 j1)), .val (.long (f kp)), .second, .unset, .unset, .unset]) rfl ?_
  refine g_lload X4 B se_d22 (pc' := 24) rfl (v := (f kp)) rfl ?_
  refine g_lloadN X4 B se_d24 (pc' := 25) rfl (v := j1) rfl ?_
  refine g_callP X4 B e4 2 (y := (⟨"com/example/vouch/vouch/BitArray", "bitMask", "(J)J"⟩ : MethodName)) (argsL := [(.long j1)]) (rest := [(.long (f kp))]) (w := (.long (bm_f0 j1))) (B.w 40 rfl) (B.w 41 rfl) (B.w 3 rfl) (B.w 42 rfl) (by decide) (bm_met l Z a0 B.2.2.1 [] h j1) (by decide) (by decide) (by decide) (by decide) rfl (lenOf own_pd4 rfl) rfl (Nat.le_of_eq rfl) se_d25 (pc' := 28) rfl (fun T5 X5 e5 => ?_)
  refine g_lor X5 B se_d28 (pc' := 29) rfl ?_
  refine g_lstore X5 B se_d29 (pc' := 31) rfl (Ls' := #[.val (.ref o0), .val (.long j1), .second, .val (.int (wi_f0 j1)), .val (.long (f kp)), .second, .val (.long ((f kp) ||| (bm_f0 j1))), .second, .unset]) rfl ?_
  refine g_lload X5 B se_d31 (pc' := 33) rfl (v := ((f kp) ||| (bm_f0 j1))) rfl ?_
  refine g_lload X5 B se_d33 (pc' := 35) rfl (v := (f kp)) rfl ?_
  refine g_lcmp_eq X5 B se_d35 se_d36 (pcT := 43) (pcF := 39) (by decide) rfl rfl (fun c35_0 => ?_) (fun c35_0 => ?_)
  · refine g_iconst X5 B se_d43 (pc' := 44) rfl (v := (0 : Int32)) (by decide) ?_
    refine g_istore X5 B se_d44 (pc' := 46) rfl (Ls' := #[.val (.ref o0), .val (.long j1), .second, .val (.int (wi_f0 j1)), .val (.long (f kp)), .second, .val (.long ((f kp) ||| (bm_f0 j1))), .second, .val (.int (0 : Int32))]) rfl ?_
    refine g_iload X5 B se_d46 (pc' := 48) rfl (v := (0 : Int32)) rfl ?_
    refine g_if_eq X5 B se_d48 (pcT := 63) (pcF := 51) (by decide) rfl rfl (fun c48_1 => ?_) (fun c48_1 => ?_)
    · refine g_iload X5 B se_d63 (pc' := 65) rfl (v := (0 : Int32)) rfl ?_
      exact g_retN X5 B (t := .boolean) rfl (by simp) se_d65 (by decide) (by decide) (by rw [e5]; exact ⟨_, _, rfl, N, K, Fs, Fw, Fk, (Aw.eqw (own_same c35_0))⟩)
    · exact absurd (by decide) c48_1
  · refine g_iconst X5 B se_d39 (pc' := 40) rfl (v := (1 : Int32)) (by decide) ?_
    refine g_goto X5 B se_d40 (pc' := 44) (by decide) rfl ?_
    refine g_istore X5 B se_d44 (pc' := 46) rfl (Ls' := #[.val (.ref o0), .val (.long j1), .second, .val (.int (wi_f0 j1)), .val (.long (f kp)), .second, .val (.long ((f kp) ||| (bm_f0 j1))), .second, .val (.int (1 : Int32))]) rfl ?_
    refine g_iload X5 B se_d46 (pc' := 48) rfl (v := (1 : Int32)) rfl ?_
    refine g_if_eq X5 B se_d48 (pcT := 63) (pcF := 51) (by decide) rfl rfl (fun c48_1 => ?_) (fun c48_1 => ?_)
    · exact absurd c48_1 (by decide)
    · refine g_aloadN X5 B se_d51 (pc' := 52) rfl (v := (.ref o0)) rfl rfl ?_
      refine g_getF X5 B (B.w 21 rfl) Via.refl e5 Fw se_d52 (pc' := 55) rfl (fun T6 X6 e6 => ?_)
      refine g_iloadN X6 B se_d55 (pc' := 56) rfl (v := (wi_f0 j1)) rfl ?_
      refine g_lload X6 B se_d56 (pc' := 58) rfl (v := ((f kp) ||| (bm_f0 j1))) rfl ?_
      refine g_lastore X6 B kp e6 Aw hkp hkn se_d58 (pc' := 59) rfl (fun T7 h7 X7 e7 W7 => ?_)
      have N7 := Fr.snoc X7 N gw
      have E_o0_7 := hE.wr W7
      have F_o0_size_7 := Fs.other W7 (Or.inl now)
      have F_o0_words_7 := Fw.other W7 (Or.inl now)
      have F_o0_cardinality_7 := Fk.other W7 (Or.inl now)
      have A_wa_7 := Aw.set W7
      have Zs_7 := Nat.le_trans Zs (Keep.of_wr W7).1
      have K_7 := K.wr W7 (Or.inl (List.mem_of_getElem? (i := 1) rfl))
      refine g_aloadN X7 B se_d59 (pc' := 60) rfl (v := (.ref o0)) rfl rfl ?_
      refine g_private X7 B e7 0 E_o0_7 (y := (⟨"com/example/vouch/vouch/BitArray", "changed", "()V"⟩ : MethodName)) (argsL := []) (rest := []) (a := o0) (B.w 43 rfl) (B.w 2 rfl) (B.w 45 rfl) (B.w 44 rfl) (B.w 3 rfl) (B.w 46 rfl) (by decide) (cg_met l Z a0 B.2.2.1 [] h7 o0 sz wa cd n0 Zs_7 E_o0_7 F_o0_size_7 F_o0_words_7 F_o0_cardinality_7 g0) (by decide) (by decide) (by decide) (by decide) rfl (lenOf own_pd5 rfl) rfl (Nat.le_of_eq rfl) se_d60 (pc' := 63) rfl (fun T8 v8 L8 X8 Q8 => ?_)
      obtain ⟨c8, rfl, Nq8, Kq8, Fs8, Fw8, Fk8⟩ := Q8
      have N8 := Fr.app N7 Nq8
      have E_o0_8 := E_o0_7.keep Kq8
      have A_wa_8 := A_wa_7.keep Kq8 (by simp only [List.mem_cons, List.not_mem_nil, or_false, not_or]; exact (Ne.symm now))
      have Zs_8 := Nat.le_trans Zs_7 Kq8.1
      have K_8 := K_7.trans Kq8 (by intro x hx; simp only [List.mem_cons, List.not_mem_nil, or_false] at hx; subst hx; exact Or.inl (List.mem_of_getElem? (i := 0) rfl))
      show Go p e below s _ _ _ (T8.setTop (mkF m 63 #[.val (.ref o0), .val (.long j1), .second, .val (.int (wi_f0 j1)), .val (.long (f kp)), .second, .val (.long ((f kp) ||| (bm_f0 j1))), .second, .val (.int (1 : Int32))] []))
      refine g_iload X8 B se_d63 (pc' := 65) rfl (v := (1 : Int32)) rfl ?_
      exact g_retN X8 B (t := .boolean) rfl (by simp) se_d65 (by decide) (by decide) ⟨_, _, rfl, N8, K_8, Fs8, Fw8, Fk8, (A_wa_8.eqw (own_diff f kp _))⟩
theorem se_met (l : Launch) (Z : State) (a0 : Array Value) (hw : ∀ d ∈ tables_1, d.before a0 Z = true) (ws : List Jvm.Cond) (h : Heap) (o0 : Addr) (j1 : Int64) (sz : Int64) (wa : Addr) (cd : Int64) (nw : Nat) (f : Nat → Int64) (kp : Nat) (n0 : Nat) (Zs : n0 ≤ h.size) (hE : Exa Z h o0 "com/example/vouch/vouch/BitArray") (Fs : Fld Z h o0 "com/example/vouch/vouch/BitArray" "size" "J" (.long sz)) (Fw : Fld Z h o0 "com/example/vouch/vouch/BitArray" "words" "[J" (.ref wa)) (Fk : Fld Z h o0 "com/example/vouch/vouch/BitArray" "cardinality" "J" (.long cd)) (g0 : n0 ≤ o0) (Aw : Ax Z h wa .long nw (fun j => .long (f j))) (now : o0 ≠ wa) (gw : n0 ≤ wa) (h1 : ¬ j1 < (0 : Int64)) (h2 : j1 < sz) (hkp : (wi_f0 j1).toInt = (kp : Int)) (hkn : kp < nw) :
    Met l Z (⟨"com/example/vouch/vouch/BitArray", "set", "(J)Z"⟩ : MethodName) prog_2_method_6_code 9 (some .boolean) ws (⟨2, 0, 0, 64⟩ : Room) #[(.ref o0), (.long j1)] h (fun v h2 L => ∃ b c2, v = some (.int b) ∧ Fr n0 L ∧ Keep h h2 [o0, wa] ∧ Fld Z h2 o0 "com/example/vouch/vouch/BitArray" "size" "J" (.long sz) ∧ Fld Z h2 o0 "com/example/vouch/vouch/BitArray" "words" "[J" (.ref wa) ∧ Fld Z h2 o0 "com/example/vouch/vouch/BitArray" "cardinality" "J" (.long c2) ∧ Ax Z h2 wa .long nw (fun j => .long (own_upd f kp (bm_f0 j1) j))) :=
  met_of own_pn_se hw fun p e s m below meth c T X B eT => Go.top (own_ef_se m o0 j1) (se_go X B eT o0 j1 sz wa cd nw f kp n0 Zs hE Fs Fw Fk g0 Aw now gw h1 h2 hkp hkn)
def own_bit (f : Nat → Int64) (q : Nat) : Bool := (f (q / 64)).toBitVec.getLsbD (q % 64)
theorem own_sh (p : Int64) (k : Nat) (hp : p.toInt = (k : Int)) : ((p.toInt32 &&& (63 : Int32)).toInt64).toBitVec.toNat = k % 64 := by
  have e1 := c_l2i p
  have e2 := c_mask p.toInt32 63 6 (by decide) (by decide)
  have e3 := c_i2l (p.toInt32 &&& 63)
  have e4 : ((p.toInt32 &&& (63 : Int32)).toInt64).toInt = ((k % 64 : Nat) : Int) := by omega
  have e5 : ((p.toInt32 &&& (63 : Int32)).toInt64).toBitVec.toInt = ((k % 64 : Nat) : Int) := e4
  rw [BitVec.toInt_eq_toNat_cond] at e5
  have := ((p.toInt32 &&& (63 : Int32)).toInt64).toBitVec.isLt
  split at e5 <;> omega
theorem own_smod : ∀ i : Fin 64, ((BitVec.ofNat 64 i.val).smod 64).toNat = i.val := by decide
theorem own_bm (p : Int64) (k : Nat) (hp : p.toInt = (k : Int)) (i : Nat) (hi : i < 64) : (bm_f0 p).toBitVec.getLsbD i = decide (i = k % 64) := by
  have hs := own_sh p k hp
  unfold bm_f0
  rw [Int64.toBitVec_shiftLeft]
  have e : ((p.toInt32 &&& (63 : Int32)).toInt64.toBitVec.smod 64).toNat = k % 64 := by
    have h2 : (p.toInt32 &&& (63 : Int32)).toInt64.toBitVec = BitVec.ofNat 64 (k % 64) := by
      apply BitVec.eq_of_toNat_eq; rw [hs, BitVec.toNat_ofNat]; omega
    rw [h2]; exact own_smod ⟨k % 64, by omega⟩
  rw [BitVec.shiftLeft_eq', BitVec.getLsbD_shiftLeft, e]
  have o : (1 : Int64).toBitVec = 1#64 := rfl
  rw [o, BitVec.getLsbD_one]
  by_cases q : i = k % 64
  · subst q; simp [hi]
  · by_cases q2 : i < k % 64
    · simp [q, q2]
    · have q3 : ¬ i - k % 64 = 0 := by omega
      simp [q, q3]
theorem own_setbit (f : Nat → Int64) (p : Int64) (k : Nat) (hp : p.toInt = (k : Int)) (q : Nat) : own_bit (own_upd f (k / 64) (bm_f0 p)) q = (own_bit f q || decide (q = k)) := by
  unfold own_bit own_upd
  by_cases z : q / 64 = k / 64
  · rw [if_pos z, Int64.toBitVec_or, BitVec.getLsbD_or, own_bm p k hp _ (by omega), z]
    congr 1
    apply decide_eq_decide.mpr
    omega
  · rw [if_neg z]
    have : ¬ q = k := fun e => z (by rw [e])
    simp [this]
theorem own_zero (q : Nat) : own_bit (fun _ => (0 : Int64)) q = false := by
  unfold own_bit
  have o : (0 : Int64).toBitVec = 0#64 := rfl
  rw [o, BitVec.getLsbD_zero]
theorem own_low (x p : Int64) (k : Nat) (hp : p.toInt = (k : Int)) : ((x.toUInt64 >>> (p.toInt32 &&& (63 : Int32)).toInt64.toUInt64).toInt64).toBitVec.getLsbD 0 = x.toBitVec.getLsbD (k % 64) := by
  have hs := own_sh p k hp
  show ((x.toUInt64 >>> (p.toInt32 &&& (63 : Int32)).toInt64.toUInt64).toBitVec).getLsbD 0 = _
  rw [UInt64.toBitVec_shiftRight, BitVec.ushiftRight_eq', BitVec.getLsbD_ushiftRight]
  have e : (((p.toInt32 &&& (63 : Int32)).toInt64.toUInt64).toBitVec % 64).toNat = k % 64 := by
    show (((p.toInt32 &&& (63 : Int32)).toInt64).toBitVec % 64).toNat = k % 64
    rw [BitVec.toNat_umod, hs]
    show k % 64 % 64 = k % 64
    omega
  rw [e, Nat.add_zero]; rfl
theorem own_and (b : Bool) (a : Int64) : ((bif b then (1 : Int64) else 0) &&& a) = (bif (b && a.toBitVec.getLsbD 0) then (1 : Int64) else 0) := by
  apply Int64.toBitVec_inj.mp
  apply BitVec.eq_of_getLsbD_eq
  intro i hi
  rw [Int64.toBitVec_and, BitVec.getLsbD_and]
  have o : (1 : Int64).toBitVec = 1#64 := rfl
  have z : (0 : Int64).toBitVec = 0#64 := rfl
  cases b with
  | false => simp [z]
  | true =>
    cases h : a.toBitVec.getLsbD 0 with
    | false =>
      simp only [cond_true, Bool.true_and, cond_false, o, z, BitVec.getLsbD_one, BitVec.getLsbD_zero]
      by_cases q : i = 0
      · subst q; rw [h]; simp
      · simp [q]
    | true =>
      simp only [cond_true, Bool.and_self, o, BitVec.getLsbD_one]
      by_cases q : i = 0
      · subst q; rw [h]; simp
      · simp [q]
theorem own_wi (p : Int64) (k : Nat) (hp : p.toInt = (k : Int)) (hk : k < 2147483648) : (wi_f0 p).toInt = ((k / 64 : Nat) : Int) := by
  unfold wi_f0
  have e1 := c_lushr p 6 6 (by decide) (by decide)
  have e2 := c_l2i ((p.toUInt64 >>> ((6 : Int32) &&& 63).toInt64.toUInt64).toInt64)
  generalize ((p.toUInt64 >>> ((6 : Int32) &&& 63).toInt64.toUInt64).toInt64) = y at *
  have r1 := y.toInt32.toInt_lt; have r2 := y.toInt32.le_toInt
  omega

def own_all (f : Nat → Int64) (gk : Nat → Nat) : Nat → Nat → Bool
  | _, 0 => true
  | i, d + 1 => own_bit f (gk i) && own_all f gk (i + 1) d
theorem own_all3 (f : Nat → Int64) (gk : Nat → Nat) (n : Nat) (hn : n ≤ 3) : own_all f gk 0 n = ((decide (n < 1) || own_bit f (gk 0)) && ((decide (n < 2) || own_bit f (gk 1)) && (decide (n < 3) || own_bit f (gk 2)))) := by
  have q : n = 0 ∨ n = 1 ∨ n = 2 ∨ n = 3 := by omega
  rcases q with rfl | rfl | rfl | rfl <;> simp [own_all]
theorem own_stp (b : Bool) (f : Nat → Int64) (p : Int64) (k : Nat) (hp : p.toInt = (k : Int)) : ((bif b then (1 : Int64) else 0) &&& (((f (k / 64)).toUInt64 >>> ((p.toInt32) &&& 63).toInt64.toUInt64).toInt64)) = (bif (b && own_bit f k) then (1 : Int64) else 0) := by
  rw [own_and, own_low _ p k hp]; rfl
theorem own_inc {i : Int32} {k n : Nat} (hi : i.toInt = (k : Int)) (hk : k < n) (hn : n < 2147483648) : (i + (1 : Int32)).toInt = ((k + 1 : Nat) : Int) := by
  have q := c_iadd i 1; have q1 : (1 : Int32).toInt = 1 := (by decide); have r1 := (i + 1).toInt_lt; have r2 := (i + 1).le_toInt
  omega
theorem own_fin0 {b : Bool} (q : (bif b then (1 : Int64) else 0) = 0) : nar .boolean (0 : Int32) = (bif b && true then (1 : Int32) else 0) := by
  cases b with
  | false => decide
  | true => exact absurd q (by decide)
theorem own_fin1 {b : Bool} (q : ¬ (bif b then (1 : Int64) else 0) = 0) : nar .boolean (1 : Int32) = (bif b && true then (1 : Int32) else 0) := by
  cases b with
  | true => decide
  | false => exact absurd rfl q
theorem al_d0 : decode prog_2_method_9_code 0 = .ok (.lconst 1, 1) := by decide +kernel
theorem al_d1 : decode prog_2_method_9_code 1 = .ok (.lstore_n 2, 1) := by decide +kernel
theorem al_d2 : decode prog_2_method_9_code 2 = .ok (.aload_n 1, 1) := by decide +kernel
theorem al_d3 : decode prog_2_method_9_code 3 = .ok (.astore 4, 2) := by decide +kernel
theorem al_d5 : decode prog_2_method_9_code 5 = .ok (.aload 4, 2) := by decide +kernel
theorem al_d7 : decode prog_2_method_9_code 7 = .ok (.arraylength, 1) := by decide +kernel
theorem al_d8 : decode prog_2_method_9_code 8 = .ok (.istore 5, 2) := by decide +kernel
theorem al_d10 : decode prog_2_method_9_code 10 = .ok (.iconst 0, 1) := by decide +kernel
theorem al_d11 : decode prog_2_method_9_code 11 = .ok (.istore 6, 2) := by decide +kernel
theorem al_d13 : decode prog_2_method_9_code 13 = .ok (.iload 6, 2) := by decide +kernel
theorem al_d15 : decode prog_2_method_9_code 15 = .ok (.iload 5, 2) := by decide +kernel
theorem al_d17 : decode prog_2_method_9_code 17 = .ok (.if_icmp .ge 33, 3) := by decide +kernel
theorem al_d20 : decode prog_2_method_9_code 20 = .ok (.aload 4, 2) := by decide +kernel
theorem al_d22 : decode prog_2_method_9_code 22 = .ok (.iload 6, 2) := by decide +kernel
theorem al_d24 : decode prog_2_method_9_code 24 = .ok (.laload, 1) := by decide +kernel
theorem al_d25 : decode prog_2_method_9_code 25 = .ok (.lstore 7, 2) := by decide +kernel
theorem al_d27 : decode prog_2_method_9_code 27 = .ok (.lload_n 2, 1) := by decide +kernel
theorem al_d28 : decode prog_2_method_9_code 28 = .ok (.aload_n 0, 1) := by decide +kernel
theorem al_d29 : decode prog_2_method_9_code 29 = .ok (.getfield 25, 3) := by decide +kernel
theorem al_d32 : decode prog_2_method_9_code 32 = .ok (.lload 7, 2) := by decide +kernel
theorem al_d34 : decode prog_2_method_9_code 34 = .ok (.invokestatic 73, 3) := by decide +kernel
theorem al_d37 : decode prog_2_method_9_code 37 = .ok (.laload, 1) := by decide +kernel
theorem al_d38 : decode prog_2_method_9_code 38 = .ok (.lload 7, 2) := by decide +kernel
theorem al_d40 : decode prog_2_method_9_code 40 = .ok (.l2i, 1) := by decide +kernel
theorem al_d41 : decode prog_2_method_9_code 41 = .ok (.lushr, 1) := by decide +kernel
theorem al_d42 : decode prog_2_method_9_code 42 = .ok (.land, 1) := by decide +kernel
theorem al_d43 : decode prog_2_method_9_code 43 = .ok (.lstore_n 2, 1) := by decide +kernel
theorem al_d44 : decode prog_2_method_9_code 44 = .ok (.iinc 6 1, 3) := by decide +kernel
theorem al_d47 : decode prog_2_method_9_code 47 = .ok (.goto (-34), 3) := by decide +kernel
theorem al_d50 : decode prog_2_method_9_code 50 = .ok (.lload_n 2, 1) := by decide +kernel
theorem al_d51 : decode prog_2_method_9_code 51 = .ok (.lconst 0, 1) := by decide +kernel
theorem al_d52 : decode prog_2_method_9_code 52 = .ok (.lcmp, 1) := by decide +kernel
theorem al_d53 : decode prog_2_method_9_code 53 = .ok (.ifCond .eq 7, 3) := by decide +kernel
theorem al_d56 : decode prog_2_method_9_code 56 = .ok (.iconst 1, 1) := by decide +kernel
theorem al_d57 : decode prog_2_method_9_code 57 = .ok (.goto 4, 3) := by decide +kernel
theorem al_d60 : decode prog_2_method_9_code 60 = .ok (.iconst 0, 1) := by decide +kernel
theorem al_d61 : decode prog_2_method_9_code 61 = .ok (.ireturn, 1) := by decide +kernel
set_option maxRecDepth 65536 in
set_option maxHeartbeats 40000000 in
theorem al_loopJ {p : Program} {l : Launch} {e : Env} {s : State} {m : MethodId} {args : Array Value} {below : List Frame} {meth : Method} {c : Code} {Z : State} {a0 : Array Value} {h : Heap} (B : Bdy p s m meth c Z a0 "com/example/vouch/vouch/BitArray" "allSet" prog_2_method_9_code 9 (some .boolean) tables_1) (o0 o1 : Addr) (wa : Addr) (nw : Nat) (n : Nat) (f : Nat → Int64) (g : Nat → Int64) (gk : Nat → Nat) (Fw : Fld Z h o0 "com/example/vouch/vouch/BitArray" "words" "[J" (.ref wa)) (Aw : Ax Z h wa .long nw (fun j => .long (f j))) (Ap : Ax Z h o1 .long n (fun j => .long (g j))) (hg : ∀ j, j < n → (g j).toInt = (gk j : Int) ∧ (wi_f0 (g j)).toInt = ((gk j / 64 : Nat) : Int) ∧ gk j / 64 < nw) (d : Nat) : ∀ (i : Nat) {T : State} (X : Stand p l e (⟨1, 0, 0, 32⟩ : Room) s m args below meth c T [] 0 0) (eT : T.heap = h) (b : Bool) (i5 i6 : Int32) (j7 : Int64) , i + d = n → i5.toInt = (n : Int) → i6.toInt = (i : Int) →
    Go p e below s 0 0 (PQ (some (.int (bif b && own_all f gk i d then (1 : Int32) else 0))) h []) (T.setTop (mkF m 13 #[.val (.ref o0), .val (.ref o1), .val (.long (bif b then (1 : Int64) else 0)), .second, .val (.ref o1), .val (.int i5), .val (.int i6), .val (.long j7), .second] [])) := by
  induction d with
  | zero =>
    intro i T X eT b i5 i6 j7 hd hi5 hi6
    refine g_iload X B al_d13 (pc' := 15) rfl (v := i6) rfl ?_
    refine g_iload X B al_d15 (pc' := 17) rfl (v := i5) rfl ?_
    refine g_icmp_ge X B al_d17 (pcT := 50) (pcF := 20) (by decide) rfl rfl (fun c17_0 => ?_) (fun c17_0 => ?_)
    · exfalso; rw [Int32.lt_iff_toInt_lt, hi5, hi6] at c17_0; omega
    · refine g_lloadN X B al_d50 (pc' := 51) rfl (v := (bif b then (1 : Int64) else 0)) rfl ?_
      refine g_lconst X B al_d51 (pc' := 52) rfl (v := (0 : Int64)) (by decide) ?_
      refine g_lcmp_eq X B al_d52 al_d53 (pcT := 60) (pcF := 56) (by decide) rfl rfl (fun c52_1 => ?_) (fun c52_1 => ?_)
      · refine g_iconst X B al_d60 (pc' := 61) rfl (v := (0 : Int32)) (by decide) ?_
        exact g_retN X B (t := .boolean) rfl (by simp) al_d61 (by decide) (by decide) ⟨congrArg (fun z => some (Value.int z)) (own_fin0 c52_1), eT, rfl⟩
      · refine g_iconst X B al_d56 (pc' := 57) rfl (v := (1 : Int32)) (by decide) ?_
        refine g_goto X B al_d57 (pc' := 61) (by decide) rfl ?_
        exact g_retN X B (t := .boolean) rfl (by simp) al_d61 (by decide) (by decide) ⟨congrArg (fun z => some (Value.int z)) (own_fin1 c52_1), eT, rfl⟩
  | succ d ih =>
    intro i T X eT b i5 i6 j7 hd hi5 hi6
    refine g_iload X B al_d13 (pc' := 15) rfl (v := i6) rfl ?_
    refine g_iload X B al_d15 (pc' := 17) rfl (v := i5) rfl ?_
    refine g_icmp_ge X B al_d17 (pcT := 50) (pcF := 20) (by decide) rfl rfl (fun c17_0 => ?_) (fun c17_0 => ?_)
    · refine g_aload X B al_d20 (pc' := 22) rfl (v := (.ref o1)) rfl rfl ?_
      refine g_iload X B al_d22 (pc' := 24) rfl (v := i6) rfl ?_
      refine g_laload X B i eT Ap hi6 (by omega) (v := (.long (g i))) rfl al_d24 (pc' := 25) rfl ?_
      refine g_lstore X B al_d25 (pc' := 27) rfl (Ls' := #[.val (.ref o0), .val (.ref o1), .val (.long (bif b then (1 : Int64) else 0)), .second, .val (.ref o1), .val (.int i5), .val (.int i6), .val (.long (g i)), .second]) rfl ?_
      refine g_lloadN X B al_d27 (pc' := 28) rfl (v := (bif b then (1 : Int64) else 0)) rfl ?_
      refine g_aloadN X B al_d28 (pc' := 29) rfl (v := (.ref o0)) rfl rfl ?_
      refine g_getF X B (B.w 21 rfl) Via.refl eT Fw al_d29 (pc' := 32) rfl (fun T1 X1 e1 => ?_)
      refine g_lload X1 B al_d32 (pc' := 34) rfl (v := (g i)) rfl ?_
      refine g_callP X1 B e1 3 (y := (⟨"com/example/vouch/vouch/BitArray", "wordIndex", "(J)I"⟩ : MethodName)) (argsL := [(.long (g i))]) (rest := [(.ref wa), (.long (bif b then (1 : Int64) else 0))]) (w := (.int (wi_f0 (g i)))) (B.w 37 rfl) (B.w 38 rfl) (B.w 3 rfl) (B.w 39 rfl) (by decide) (wi_met l Z a0 B.2.2.1 [] h (g i)) (by decide) (by decide) (by decide) (by decide) rfl (lenOf own_pd2 rfl) rfl (Nat.le_of_eq rfl) al_d34 (pc' := 37) rfl (fun T2 X2 e2 => ?_)
      refine g_laload X2 B (gk i / 64) e2 Aw (hg i (by omega)).2.1 (hg i (by omega)).2.2 (v := (.long (f (gk i / 64)))) rfl al_d37 (pc' := 38) rfl ?_
      refine g_lload X2 B al_d38 (pc' := 40) rfl (v := (g i)) rfl ?_
      refine g_l2i X2 B al_d40 (pc' := 41) rfl ?_
      refine g_lushr X2 B al_d41 (pc' := 42) rfl (z := (((f (gk i / 64)).toUInt64 >>> (((g i).toInt32) &&& 63).toInt64.toUInt64).toInt64)) rfl ?_
      refine g_land X2 B al_d42 (pc' := 43) rfl ?_
      refine g_lstoreN X2 B al_d43 (pc' := 44) rfl (Ls' := #[.val (.ref o0), .val (.ref o1), .val (.long ((bif b then (1 : Int64) else 0) &&& (((f (gk i / 64)).toUInt64 >>> (((g i).toInt32) &&& 63).toInt64.toUInt64).toInt64))), .second, .val (.ref o1), .val (.int i5), .val (.int i6), .val (.long (g i)), .second]) rfl ?_
      rw [own_stp b f (g i) (gk i) (hg i (by omega)).1]
      refine g_iinc X2 B al_d44 (pc' := 47) rfl (v := i6) rfl (Ls' := #[.val (.ref o0), .val (.ref o1), .val (.long (bif (b && own_bit f (gk i)) then (1 : Int64) else 0)), .second, .val (.ref o1), .val (.int i5), .val (.int (i6 + (1 : Int32))), .val (.long (g i)), .second]) rfl ?_
      refine g_goto X2 B al_d47 (pc' := 13) (by decide) rfl ?_
      refine Go.cw (congrArg (fun z => some (Value.int (bif z then (1 : Int32) else 0))) (Bool.and_assoc b (own_bit f (gk i)) (own_all f gk (i + 1) d))) (ih (i + 1) X2 e2 (b && own_bit f (gk i)) i5 ((i6 + (1 : Int32))) (g i) (by omega) hi5 (own_inc hi6 (n := n) (by omega) Ap.1))
    · exfalso; rw [Int32.lt_iff_toInt_lt, hi5, hi6] at c17_0; omega
set_option maxRecDepth 65536 in
set_option maxHeartbeats 40000000 in
theorem al_loopU {p : Program} {l : Launch} {e : Env} {s : State} {m : MethodId} {args : Array Value} {below : List Frame} {meth : Method} {c : Code} {Z : State} {a0 : Array Value} {h : Heap} (B : Bdy p s m meth c Z a0 "com/example/vouch/vouch/BitArray" "allSet" prog_2_method_9_code 9 (some .boolean) tables_1) (o0 o1 : Addr) (wa : Addr) (nw : Nat) (n : Nat) (f : Nat → Int64) (g : Nat → Int64) (gk : Nat → Nat) (Fw : Fld Z h o0 "com/example/vouch/vouch/BitArray" "words" "[J" (.ref wa)) (Aw : Ax Z h wa .long nw (fun j => .long (f j))) (Ap : Ax Z h o1 .long n (fun j => .long (g j))) (hg : ∀ j, j < n → (g j).toInt = (gk j : Int) ∧ (wi_f0 (g j)).toInt = ((gk j / 64 : Nat) : Int) ∧ gk j / 64 < nw) (d : Nat) : ∀ (i : Nat) {T : State} (X : Stand p l e (⟨1, 0, 0, 32⟩ : Room) s m args below meth c T [] 0 0) (eT : T.heap = h) (b : Bool) (i5 i6 : Int32) , i + d = n → i5.toInt = (n : Int) → i6.toInt = (i : Int) →
    Go p e below s 0 0 (PQ (some (.int (bif b && own_all f gk i d then (1 : Int32) else 0))) h []) (T.setTop (mkF m 13 #[.val (.ref o0), .val (.ref o1), .val (.long (bif b then (1 : Int64) else 0)), .second, .val (.ref o1), .val (.int i5), .val (.int i6), .unset, .unset] [])) := by
  cases d with
  | zero =>
    intro i T X eT b i5 i6 hd hi5 hi6
    refine g_iload X B al_d13 (pc' := 15) rfl (v := i6) rfl ?_
    refine g_iload X B al_d15 (pc' := 17) rfl (v := i5) rfl ?_
    refine g_icmp_ge X B al_d17 (pcT := 50) (pcF := 20) (by decide) rfl rfl (fun c17_0 => ?_) (fun c17_0 => ?_)
    · exfalso; rw [Int32.lt_iff_toInt_lt, hi5, hi6] at c17_0; omega
    · refine g_lloadN X B al_d50 (pc' := 51) rfl (v := (bif b then (1 : Int64) else 0)) rfl ?_
      refine g_lconst X B al_d51 (pc' := 52) rfl (v := (0 : Int64)) (by decide) ?_
      refine g_lcmp_eq X B al_d52 al_d53 (pcT := 60) (pcF := 56) (by decide) rfl rfl (fun c52_1 => ?_) (fun c52_1 => ?_)
      · refine g_iconst X B al_d60 (pc' := 61) rfl (v := (0 : Int32)) (by decide) ?_
        exact g_retN X B (t := .boolean) rfl (by simp) al_d61 (by decide) (by decide) ⟨congrArg (fun z => some (Value.int z)) (own_fin0 c52_1), eT, rfl⟩
      · refine g_iconst X B al_d56 (pc' := 57) rfl (v := (1 : Int32)) (by decide) ?_
        refine g_goto X B al_d57 (pc' := 61) (by decide) rfl ?_
        exact g_retN X B (t := .boolean) rfl (by simp) al_d61 (by decide) (by decide) ⟨congrArg (fun z => some (Value.int z)) (own_fin1 c52_1), eT, rfl⟩
  | succ d =>
    intro i T X eT b i5 i6 hd hi5 hi6
    refine g_iload X B al_d13 (pc' := 15) rfl (v := i6) rfl ?_
    refine g_iload X B al_d15 (pc' := 17) rfl (v := i5) rfl ?_
    refine g_icmp_ge X B al_d17 (pcT := 50) (pcF := 20) (by decide) rfl rfl (fun c17_0 => ?_) (fun c17_0 => ?_)
    · refine g_aload X B al_d20 (pc' := 22) rfl (v := (.ref o1)) rfl rfl ?_
      refine g_iload X B al_d22 (pc' := 24) rfl (v := i6) rfl ?_
      refine g_laload X B i eT Ap hi6 (by omega) (v := (.long (g i))) rfl al_d24 (pc' := 25) rfl ?_
      refine g_lstore X B al_d25 (pc' := 27) rfl (Ls' := #[.val (.ref o0), .val (.ref o1), .val (.long (bif b then (1 : Int64) else 0)), .second, .val (.ref o1), .val (.int i5), .val (.int i6), .val (.long (g i)), .second]) rfl ?_
      refine g_lloadN X B al_d27 (pc' := 28) rfl (v := (bif b then (1 : Int64) else 0)) rfl ?_
      refine g_aloadN X B al_d28 (pc' := 29) rfl (v := (.ref o0)) rfl rfl ?_
      refine g_getF X B (B.w 21 rfl) Via.refl eT Fw al_d29 (pc' := 32) rfl (fun T3 X3 e3 => ?_)
      refine g_lload X3 B al_d32 (pc' := 34) rfl (v := (g i)) rfl ?_
      refine g_callP X3 B e3 3 (y := (⟨"com/example/vouch/vouch/BitArray", "wordIndex", "(J)I"⟩ : MethodName)) (argsL := [(.long (g i))]) (rest := [(.ref wa), (.long (bif b then (1 : Int64) else 0))]) (w := (.int (wi_f0 (g i)))) (B.w 37 rfl) (B.w 38 rfl) (B.w 3 rfl) (B.w 39 rfl) (by decide) (wi_met l Z a0 B.2.2.1 [] h (g i)) (by decide) (by decide) (by decide) (by decide) rfl (lenOf own_pd2 rfl) rfl (Nat.le_of_eq rfl) al_d34 (pc' := 37) rfl (fun T4 X4 e4 => ?_)
      refine g_laload X4 B (gk i / 64) e4 Aw (hg i (by omega)).2.1 (hg i (by omega)).2.2 (v := (.long (f (gk i / 64)))) rfl al_d37 (pc' := 38) rfl ?_
      refine g_lload X4 B al_d38 (pc' := 40) rfl (v := (g i)) rfl ?_
      refine g_l2i X4 B al_d40 (pc' := 41) rfl ?_
      refine g_lushr X4 B al_d41 (pc' := 42) rfl (z := (((f (gk i / 64)).toUInt64 >>> (((g i).toInt32) &&& 63).toInt64.toUInt64).toInt64)) rfl ?_
      refine g_land X4 B al_d42 (pc' := 43) rfl ?_
      refine g_lstoreN X4 B al_d43 (pc' := 44) rfl (Ls' := #[.val (.ref o0), .val (.ref o1), .val (.long ((bif b then (1 : Int64) else 0) &&& (((f (gk i / 64)).toUInt64 >>> (((g i).toInt32) &&& 63).toInt64.toUInt64).toInt64))), .second, .val (.ref o1), .val (.int i5), .val (.int i6), .val (.long (g i)), .second]) rfl ?_
      rw [own_stp b f (g i) (gk i) (hg i (by omega)).1]
      refine g_iinc X4 B al_d44 (pc' := 47) rfl (v := i6) rfl (Ls' := #[.val (.ref o0), .val (.ref o1), .val (.long (bif (b && own_bit f (gk i)) then (1 : Int64) else 0)), .second, .val (.ref o1), .val (.int i5), .val (.int (i6 + (1 : Int32))), .val (.long (g i)), .second]) rfl ?_
      refine g_goto X4 B al_d47 (pc' := 13) (by decide) rfl ?_
      refine Go.cw (congrArg (fun z => some (Value.int (bif z then (1 : Int32) else 0))) (Bool.and_assoc b (own_bit f (gk i)) (own_all f gk (i + 1) d))) (al_loopJ B o0 o1 wa nw n f g gk Fw Aw Ap hg d (i + 1) X4 e4 (b && own_bit f (gk i)) i5 ((i6 + (1 : Int32))) (g i) (by omega) hi5 (own_inc hi6 (n := n) (by omega) Ap.1))
    · exfalso; rw [Int32.lt_iff_toInt_lt, hi5, hi6] at c17_0; omega
theorem own_pn_al : plainFor (⟨"com/example/vouch/vouch/BitArray", "allSet", "([J)Z"⟩ : MethodName) = true := plainFor_of_name (by first | (simp [plainName, overriddenIn]; done) | decide +kernel)
theorem own_ef_al (m : MethodId) (o0 : Addr) (o1 : Addr) : entryFrame m #[(.ref o0), (.ref o1)] 9 = (mkF m 0 #[.val (.ref o0), .val (.ref o1), .unset, .unset, .unset, .unset, .unset, .unset, .unset] []) := by first | (simp [entryFrame, mkF, argsToLocals, Value.category]; done) | rfl
set_option maxRecDepth 65536 in
set_option maxHeartbeats 40000000 in
theorem al_go {p : Program} {l : Launch} {e : Env} {s : State} {m : MethodId} {args : Array Value} {below : List Frame} {meth : Method} {c : Code} {T : State} {Z : State} {a0 : Array Value} {h : Heap} (X : Stand p l e (⟨1, 0, 0, 32⟩ : Room) s m args below meth c T [] 0 0) (B : Bdy p s m meth c Z a0 "com/example/vouch/vouch/BitArray" "allSet" prog_2_method_9_code 9 (some .boolean) tables_1) (eT : T.heap = h) (o0 : Addr) (o1 : Addr) (wa : Addr) (nw : Nat) (n : Nat) (f : Nat → Int64) (g : Nat → Int64) (gk : Nat → Nat) (z5 : Int32) (Fw : Fld Z h o0 "com/example/vouch/vouch/BitArray" "words" "[J" (.ref wa)) (Aw : Ax Z h wa .long nw (fun j => .long (f j))) (Ap : Ax Z h o1 .long n (fun j => .long (g j))) (hg : ∀ j, j < n → (g j).toInt = (gk j : Int) ∧ (wi_f0 (g j)).toInt = ((gk j / 64 : Nat) : Int) ∧ gk j / 64 < nw) (hz5 : z5.toInt = (n : Int)) :
    Go p e below s 0 0 (PQ (some (.int (bif true && own_all f gk 0 n then (1 : Int32) else 0))) h []) (T.setTop (mkF m 0 #[.val (.ref o0), .val (.ref o1), .unset, .unset, .unset, .unset, .unset, .unset, .unset] [])) := by
  refine g_lconst X B al_d0 (pc' := 1) rfl (v := (1 : Int64)) (by decide) ?_
  refine g_lstoreN X B al_d1 (pc' := 2) rfl (Ls' := #[.val (.ref o0), .val (.ref o1), .val (.long (1 : Int64)), .second, .unset, .unset, .unset, .unset, .unset]) rfl ?_
  refine g_aloadN X B al_d2 (pc' := 3) rfl (v := (.ref o1)) rfl rfl ?_
  refine g_astore X B al_d3 (pc' := 5) rfl rfl (Ls' := #[.val (.ref o0), .val (.ref o1), .val (.long (1 : Int64)), .second, .val (.ref o1), .unset, .unset, .unset, .unset]) rfl ?_
  refine g_aload X B al_d5 (pc' := 7) rfl (v := (.ref o1)) rfl rfl ?_
  refine g_arrlen X B z5 eT Ap hz5 al_d7 (pc' := 8) rfl ?_
  refine g_istore X B al_d8 (pc' := 10) rfl (Ls' := #[.val (.ref o0), .val (.ref o1), .val (.long (1 : Int64)), .second, .val (.ref o1), .val (.int z5), .unset, .unset, .unset]) rfl ?_
  refine g_iconst X B al_d10 (pc' := 11) rfl (v := (0 : Int32)) (by decide) ?_
  refine g_istore X B al_d11 (pc' := 13) rfl (Ls' := #[.val (.ref o0), .val (.ref o1), .val (.long (1 : Int64)), .second, .val (.ref o1), .val (.int z5), .val (.int (0 : Int32)), .unset, .unset]) rfl ?_
  exact al_loopU B o0 o1 wa nw n f g gk Fw Aw Ap hg n 0 X eT true _ _ (by omega) hz5 (by decide)
theorem al_met (l : Launch) (Z : State) (a0 : Array Value) (hw : ∀ d ∈ tables_1, d.before a0 Z = true) (ws : List Jvm.Cond) (h : Heap) (o0 : Addr) (o1 : Addr) (wa : Addr) (nw : Nat) (n : Nat) (f : Nat → Int64) (g : Nat → Int64) (gk : Nat → Nat) (z5 : Int32) (Fw : Fld Z h o0 "com/example/vouch/vouch/BitArray" "words" "[J" (.ref wa)) (Aw : Ax Z h wa .long nw (fun j => .long (f j))) (Ap : Ax Z h o1 .long n (fun j => .long (g j))) (hg : ∀ j, j < n → (g j).toInt = (gk j : Int) ∧ (wi_f0 (g j)).toInt = ((gk j / 64 : Nat) : Int) ∧ gk j / 64 < nw) (hz5 : z5.toInt = (n : Int)) :
    Met l Z (⟨"com/example/vouch/vouch/BitArray", "allSet", "([J)Z"⟩ : MethodName) prog_2_method_9_code 9 (some .boolean) ws (⟨1, 0, 0, 32⟩ : Room) #[(.ref o0), (.ref o1)] h (PQ (some (.int (bif true && own_all f gk 0 n then (1 : Int32) else 0))) h []) :=
  met_of own_pn_al hw fun p e s m below meth c T X B eT => Go.top (own_ef_al m o0 o1) (al_go X B eT o0 o1 wa nw n f g gk z5 Fw Aw Ap hg hz5)
theorem own_k0 : (0 : Int32).toInt = 0 := by decide
theorem own_k1 : (1 : Int32).toInt = 1 := by decide
theorem own_k2 : (2 : Int32).toInt = 2 := by decide
theorem own_k3 : (3 : Int32).toInt = 3 := by decide
theorem own_l0 : (0 : Int64).toInt = 0 := by decide
theorem own_l1 : (1 : Int64).toInt = 1 := by decide
theorem own_l1023 : (1023 : Int64).toInt = 1023 := by decide
def own_rg (z v : Int64) : Prop := 0 ≤ v.toInt ∧ v.toInt < z.toInt
theorem own_rem (x z : Int64) (hx : 0 ≤ x.toInt) (hz : 1 ≤ z.toInt) : own_rg z (x % z) := by
  have e := (c_lrem x z z.toInt rfl).1 hx
  rw [lrem_mod] at e
  have d1 := Int.emod_nonneg x.toInt (show z.toInt ≠ 0 by omega)
  have d2 := Int.emod_lt_of_pos x.toInt (show 0 < z.toInt by omega)
  unfold own_rg; omega
theorem own_msk (x : Int64) : 0 ≤ (x &&& (9223372036854775807 : Int64)).toInt := by
  have e1 := c_maskL x 9223372036854775807 63 (by decide) (by decide); omega
theorem own_u20 (x : Int64) : 0 ≤ ((x.toUInt64 >>> ((20 : Int32) &&& 63).toInt64.toUInt64).toInt64).toInt := by
  have e1 := c_lushr x 20 20 (by decide) (by decide); omega
theorem own_zs (x : Int64) : 1 ≤ ((1 : Int64) + (x &&& (1023 : Int64))).toInt ∧ ((1 : Int64) + (x &&& (1023 : Int64))).toInt ≤ 1024 := by
  have e1 := c_maskL x 1023 10 (by decide) (by decide)
  have e2 := c_ladd 1 (x &&& 1023); have k := own_l1
  have r1 := (1 + (x &&& 1023)).toInt_lt; have r2 := (1 + (x &&& 1023)).le_toInt
  omega
theorem own_z0 {z : Int64} (h : 1 ≤ z.toInt) : z ≠ 0 := fun q => by rw [q, own_l0] at h; omega
theorem own_wc (z : Int64) (h1 : 1 ≤ z.toInt) (h2 : z.toInt ≤ 1024) : ∃ nw : Nat, (wc_f0 z).toInt = (nw : Int) ∧ nw ≤ 16 ∧ ∀ k : Nat, (k : Int) < z.toInt → k / 64 < nw := by
  have l64 : (64 : Int64).toInt = 64 := by decide
  have e1 := c_ladd z 64; have e2 := c_lsub (z + 64) 1
  rw [l64] at e1; rw [own_l1] at e2
  have r1 := (z + 64).toInt_lt; have r2 := (z + 64).le_toInt
  have r3 := (z + 64 - 1).toInt_lt; have r4 := (z + 64 - 1).le_toInt
  have e3 := (c_ldiv (z + 64 - 1) 64 64 l64 (by decide)).1 (by omega)
  have e4 := c_l2i ((z + 64 - 1) / 64)
  have r5 := ((z + 64 - 1) / 64).toInt32.toInt_lt; have r6 := ((z + 64 - 1) / 64).toInt32.le_toInt
  refine ⟨(wc_f0 z).toInt.toNat, ?_, ?_, ?_⟩ <;> unfold wc_f0
  · omega
  · omega
  · intro k hk; omega
theorem own_pk {z : Int64} {i : Int32} {a b c : Int64} (ha : own_rg z a) (hb : own_rg z b) (hc : own_rg z c) : own_rg z (pk_f0 i a b c) := by
  unfold pk_f0
  repeat' split
  all_goals assumption
theorem own_nat {z v : Int64} (h : own_rg z v) : ∃ k : Nat, v.toInt = (k : Int) ∧ (k : Int) < z.toInt := ⟨v.toInt.toNat, by have := h.1; omega, by have := h.1; have := h.2; omega⟩
theorem own_lt {z v : Int64} (h : own_rg z v) : ¬ v < (0 : Int64) ∧ v < z := by
  rw [Int64.lt_iff_toInt_lt, Int64.lt_iff_toInt_lt, own_l0]; have := h.1; have := h.2; omega
theorem own_iss (p pa pb : Int64) (a b : Int32) (k ka kb : Nat) (hp : p.toInt = (k : Int)) (ha : pa.toInt = (ka : Int)) (hb : pb.toInt = (kb : Int)) : iss_f0 p a pa b pb = 0 ↔ ((!decide (a = 0) && decide (k = ka)) || (!decide (b = 0) && decide (k = kb))) = false := by
  have n1 : nar .boolean (1 : Int32) = 1 := by decide
  have n0 : nar .boolean (0 : Int32) = 0 := by decide
  have x1 : p = pa ↔ k = ka := by rw [← Int64.toInt_inj]; omega
  have x2 : p = pb ↔ k = kb := by rw [← Int64.toInt_inj]; omega
  simp only [iss_f0, iss_f10, iss_f22, iss_f26, iss_f27, n0, n1, x1, x2]
  by_cases q1 : a = 0 <;> by_cases q2 : b = 0 <;> by_cases q3 : k = ka <;> by_cases q4 : k = kb <;> simp [q1, q2, q3, q4]
theorem own_and3b (x : Int32) : 0 ≤ (x &&& (3 : Int32)).toInt ∧ (x &&& (3 : Int32)).toInt ≤ 3 := by
  have e1 := c_mask x 3 2 (by decide) (by decide); omega
def own_g3 (a b c : Int64) (j : Nat) : Int64 := if j = 0 then a else if j = 1 then b else c
def own_h3 (a b c : Nat) (j : Nat) : Nat := if j = 0 then a else if j = 1 then b else c
theorem own_hg {z a b c : Int64} {x y w nw n : Nat} (hn : ∀ k : Nat, (k : Int) < z.toInt → k / 64 < nw) (hz : z.toInt ≤ 1024) (ha : a.toInt = (x : Int)) (hb : b.toInt = (y : Int)) (hc : c.toInt = (w : Int)) (ga : (x : Int) < z.toInt) (gb : (y : Int) < z.toInt) (gc : (w : Int) < z.toInt) : ∀ j, j < n → (own_g3 a b c j).toInt = (own_h3 x y w j : Int) ∧ (wi_f0 (own_g3 a b c j)).toInt = ((own_h3 x y w j / 64 : Nat) : Int) ∧ own_h3 x y w j / 64 < nw := by
  intro j _
  unfold own_g3 own_h3
  split
  · exact ⟨ha, own_wi a x ha (by omega), hn x ga⟩
  · split
    · exact ⟨hb, own_wi b y hb (by omega), hn y gb⟩
    · exact ⟨hc, own_wi c w hc (by omega), hn w gc⟩
set_option maxRecDepth 65536 in
set_option maxHeartbeats 40000000 in
theorem law_s300 {p : Program} {l : Launch} {e : Env} {s : State} {m : MethodId} {args : Array Value} {below : List Frame} {meth : Method} {c : Code} {T : State} {Z : State} {a0 : Array Value} {h : Heap} {locs : List Loc} (X : Stand p l e room_1 s m args below meth c T locs 3 22) (B : Bdy p s m meth c Z a0 "com/example/vouch/vouch/BitArrayAllSetPinLaw" "law" code 35 (some .boolean) tables_1) (eT : T.heap = h) (n0 : Nat) (Zs : n0 ≤ h.size) (N : Fr n0 locs) (j0 : Int64) (j2 : Int64) (j4 : Int64) (j6 : Int64) (j8 : Int64) (i10 : Int32) (j11 : Int64) (o13 : Addr) (j14 : Int64) (j16 : Int64) (i18 : Int32) (i19 : Int32) (i20 : Int32) (j21 : Int64) (j23 : Int64) (j25 : Int64) (j27 : Int64) (j29 : Int64) (j31 : Int64) (o33 : Addr) (t0 : Int32) (wa : Addr) (cd : Int64) (nw : Nat) (f : Nat → Int64) (ka : Nat) (kb : Nat) (n : Nat) (g : Nat → Int64) (gk : Nat → Nat) (hE : Exa Z h o13 "com/example/vouch/vouch/BitArray") (hS : Fld Z h o13 "com/example/vouch/vouch/BitArray" "size" "J" (.long j11)) (hw : Fld Z h o13 "com/example/vouch/vouch/BitArray" "words" "[J" (.ref wa)) (hC : Fld Z h o13 "com/example/vouch/vouch/BitArray" "cardinality" "J" (.long cd)) (hA : Ax Z h wa .long nw (fun j => .long (f j))) (now : o13 ≠ wa) (g13 : n0 ≤ o13) (gw : n0 ≤ wa) (hz1 : 1 ≤ j11.toInt) (hz2 : j11.toInt ≤ 1024) (hnw : ∀ k : Nat, (k : Int) < j11.toInt → k / 64 < nw) (hra : own_rg j11 j14) (hrb : own_rg j11 j16) (hka : j14.toInt = (ka : Int)) (hkb : j16.toInt = (kb : Int)) (hi20 : i20.toInt = (n : Int)) (hP : Ax Z h o33 .long n (fun j => .long (g j))) (hg : ∀ j, j < n → (g j).toInt = (gk j : Int) ∧ (wi_f0 (g j)).toInt = ((gk j / 64 : Nat) : Int) ∧ gk j / 64 < nw) (ht : t0 = (bif own_all f gk 0 n then (1 : Int32) else 0)) :
    Go p e below s room_1.cells room_1.slots (fun v _ L => v = some (.int 1) ∧ Fr n0 L) (T.setTop (mkF m 300 #[.val (.long j0), .second, .val (.long j2), .second, .val (.long j4), .second, .val (.long j6), .second, .val (.long j8), .second, .val (.int i10), .val (.long j11), .second, .val (.ref o13), .val (.long j14), .second, .val (.long j16), .second, .val (.int i18), .val (.int i19), .val (.int i20), .val (.long j21), .second, .val (.long j23), .second, .val (.long j25), .second, .val (.long j27), .second, .val (.long j29), .second, .val (.long j31), .second, .val (.ref o33), .unset] [(.int t0)])) := by
  refine g_istore X B at_300 (pc' := 302) rfl (Ls' := #[.val (.long j0), .second, .val (.long j2), .second, .val (.long j4), .second, .val (.long j6), .second, .val (.long j8), .second, .val (.int i10), .val (.long j11), .second, .val (.ref o13), .val (.long j14), .second, .val (.long j16), .second, .val (.int i18), .val (.int i19), .val (.int i20), .val (.long j21), .second, .val (.long j23), .second, .val (.long j25), .second, .val (.long j27), .second, .val (.long j29), .second, .val (.long j31), .second, .val (.ref o33), .val (.int t0)]) rfl ?_
  refine g_aload X B at_302 (pc' := 304) rfl (v := (.ref o13)) rfl rfl ?_
  refine g_aload X B at_304 (pc' := 306) rfl (v := (.ref o33)) rfl rfl ?_
  refine g_virtual X B eT 0 hE (y := (⟨"com/example/vouch/vouch/BitArray", "allSet", "([J)Z"⟩ : MethodName)) (argsL := [(.ref o33)]) (rest := []) (a := o13) (B.w 54 rfl) (B.w 55 rfl) (B.w 57 rfl) (B.w 56 rfl) (B.w 3 rfl) (B.w 58 rfl) (by decide) (al_met l Z a0 B.2.2.1 [] h o13 o33 wa nw n f g gk i20 hw hA hP hg hi20) (by decide) (by decide) (by decide) (by decide) rfl (lenOf own_pd6 rfl) rfl (Nat.le_of_eq rfl) at_306 (pc' := 309) rfl (fun T1 v1 L1 X1 Q1 => ?_)
  obtain ⟨rfl, hh1, rfl⟩ := Q1
  rw [List.append_nil] at X1
  show Go p e below s _ _ _ (T1.setTop (mkF m 309 #[.val (.long j0), .second, .val (.long j2), .second, .val (.long j4), .second, .val (.long j6), .second, .val (.long j8), .second, .val (.int i10), .val (.long j11), .second, .val (.ref o13), .val (.long j14), .second, .val (.long j16), .second, .val (.int i18), .val (.int i19), .val (.int i20), .val (.long j21), .second, .val (.long j23), .second, .val (.long j25), .second, .val (.long j27), .second, .val (.long j29), .second, .val (.long j31), .second, .val (.ref o33), .val (.int t0)] [(.int (bif true && own_all f gk 0 n then (1 : Int32) else 0))]))
  refine g_iload X1 B at_309 (pc' := 311) rfl (v := t0) rfl ?_
  refine g_icmp_ne X1 B at_311 (pcT := 318) (pcF := 314) (by decide) rfl rfl (fun c311_0 => ?_) (fun c311_0 => ?_)
  · refine g_iconst X1 B at_314 (pc' := 315) rfl (v := (1 : Int32)) (by decide) ?_
    refine g_goto X1 B at_315 (pc' := 319) (by decide) rfl ?_
    exact g_retN X1 B (t := .boolean) rfl (by simp) at_319 (by decide) (by decide) ⟨congrArg (fun z => some (Value.int z)) (by decide : nar .boolean (1 : Int32) = 1), N⟩
  · exact absurd (by rw [ht]; rfl) c311_0
set_option maxRecDepth 65536 in
set_option maxHeartbeats 40000000 in
theorem law_s229 {p : Program} {l : Launch} {e : Env} {s : State} {m : MethodId} {args : Array Value} {below : List Frame} {meth : Method} {c : Code} {T : State} {Z : State} {a0 : Array Value} {h : Heap} {locs : List Loc} (X : Stand p l e room_1 s m args below meth c T locs 3 22) (B : Bdy p s m meth c Z a0 "com/example/vouch/vouch/BitArrayAllSetPinLaw" "law" code 35 (some .boolean) tables_1) (eT : T.heap = h) (n0 : Nat) (Zs : n0 ≤ h.size) (N : Fr n0 locs) (j0 : Int64) (j2 : Int64) (j4 : Int64) (j6 : Int64) (j8 : Int64) (i10 : Int32) (j11 : Int64) (o13 : Addr) (j14 : Int64) (j16 : Int64) (i18 : Int32) (i19 : Int32) (i20 : Int32) (j21 : Int64) (j23 : Int64) (j25 : Int64) (j27 : Int64) (j29 : Int64) (j31 : Int64) (o33 : Addr) (wa : Addr) (cd : Int64) (nw : Nat) (f : Nat → Int64) (ka : Nat) (kb : Nat) (n : Nat) (k0 : Nat) (k1 : Nat) (k2 : Nat) (hE : Exa Z h o13 "com/example/vouch/vouch/BitArray") (hS : Fld Z h o13 "com/example/vouch/vouch/BitArray" "size" "J" (.long j11)) (hw : Fld Z h o13 "com/example/vouch/vouch/BitArray" "words" "[J" (.ref wa)) (hC : Fld Z h o13 "com/example/vouch/vouch/BitArray" "cardinality" "J" (.long cd)) (hA : Ax Z h wa .long nw (fun j => .long (f j))) (now : o13 ≠ wa) (g13 : n0 ≤ o13) (gw : n0 ≤ wa) (hz1 : 1 ≤ j11.toInt) (hz2 : j11.toInt ≤ 1024) (hnw : ∀ k : Nat, (k : Int) < j11.toInt → k / 64 < nw) (hra : own_rg j11 j14) (hrb : own_rg j11 j16) (hka : j14.toInt = (ka : Int)) (hkb : j16.toInt = (kb : Int)) (hi20 : i20.toInt = (n : Int)) (hn3 : n ≤ 3) (hP : Ax Z h o33 .long n (fun j => .long (own_g3 j27 j29 j31 j))) (hg : ∀ j, j < n → (own_g3 j27 j29 j31 j).toInt = (own_h3 k0 k1 k2 j : Int) ∧ (wi_f0 (own_g3 j27 j29 j31 j)).toInt = ((own_h3 k0 k1 k2 j / 64 : Nat) : Int) ∧ own_h3 k0 k1 k2 j / 64 < nw) (hk0 : j27.toInt = (k0 : Int)) (hk1 : j29.toInt = (k1 : Int)) (hk2 : j31.toInt = (k2 : Int)) (hB : ∀ q, own_bit f q = ((!decide (i18 = 0) && decide (q = ka)) || (!decide (i19 = 0) && decide (q = kb)))) :
    Go p e below s room_1.cells room_1.slots (fun v _ L => v = some (.int 1) ∧ Fr n0 L) (T.setTop (mkF m 229 #[.val (.long j0), .second, .val (.long j2), .second, .val (.long j4), .second, .val (.long j6), .second, .val (.long j8), .second, .val (.int i10), .val (.long j11), .second, .val (.ref o13), .val (.long j14), .second, .val (.long j16), .second, .val (.int i18), .val (.int i19), .val (.int i20), .val (.long j21), .second, .val (.long j23), .second, .val (.long j25), .second, .val (.long j27), .second, .val (.long j29), .second, .val (.long j31), .second, .val (.ref o33), .unset] [])) := by
  refine g_iload X B at_229 (pc' := 231) rfl (v := i20) rfl ?_
  refine g_iconst X B at_231 (pc' := 232) rfl (v := (1 : Int32)) (by decide) ?_
  refine g_icmp_lt X B at_232 (pcT := 251) (pcF := 235) (by decide) rfl rfl (fun c232_0 => ?_) (fun c232_0 => ?_)
  · refine g_iload X B at_251 (pc' := 253) rfl (v := i20) rfl ?_
    refine g_iconst X B at_253 (pc' := 254) rfl (v := (2 : Int32)) (by decide) ?_
    refine g_icmp_lt X B at_254 (pcT := 273) (pcF := 257) (by decide) rfl rfl (fun c254_1 => ?_) (fun c254_1 => ?_)
    · refine g_iload X B at_273 (pc' := 275) rfl (v := i20) rfl ?_
      refine g_iconst X B at_275 (pc' := 276) rfl (v := (3 : Int32)) (by decide) ?_
      refine g_icmp_lt X B at_276 (pcT := 295) (pcF := 279) (by decide) rfl rfl (fun c276_2 => ?_) (fun c276_2 => ?_)
      · refine g_iconst X B at_295 (pc' := 296) rfl (v := (1 : Int32)) (by decide) ?_
        refine g_goto X B at_296 (pc' := 300) (by decide) rfl ?_
        have d1 : n < 1 := by rw [Int32.lt_iff_toInt_lt, own_k1] at c232_0; omega
        have d2 : n < 2 := by rw [Int32.lt_iff_toInt_lt, own_k2] at c254_1; omega
        have d3 : n < 3 := by rw [Int32.lt_iff_toInt_lt, own_k3] at c276_2; omega
        exact law_s300 X B eT n0 Zs N (j0) (j2) (j4) (j6) (j8) (i10) (j11) (o13) (j14) (j16) (i18) (i19) (i20) (j21) (j23) (j25) (j27) (j29) (j31) (o33) ((1 : Int32)) wa cd nw f ka kb n (own_g3 j27 j29 j31) (own_h3 k0 k1 k2) hE hS hw hC hA now g13 gw hz1 hz2 hnw hra hrb hka hkb hi20 hP hg (by rw [own_all3 _ _ _ hn3]; simp [own_h3, d1, d2, d3])
      · refine g_lload X B at_279 (pc' := 281) rfl (v := j31) rfl ?_
        refine g_iload X B at_281 (pc' := 283) rfl (v := i18) rfl ?_
        refine g_lload X B at_283 (pc' := 285) rfl (v := j14) rfl ?_
        refine g_iload X B at_285 (pc' := 287) rfl (v := i19) rfl ?_
        refine g_lload X B at_287 (pc' := 289) rfl (v := j16) rfl ?_
        refine g_callP X B eT 0 (y := (⟨"com/example/vouch/vouch/BitArrayAllSetPinLaw", "isSet", "(JZJZJ)Z"⟩ : MethodName)) (argsL := [(.long j31), (.int i18), (.long j14), (.int i19), (.long j16)]) (rest := []) (w := (.int (iss_f0 j31 i18 j14 i19 j16))) (B.w 59 rfl) (B.w 60 rfl) (B.w 52 rfl) (B.w 61 rfl) (by decide) (iss_met l Z a0 B.2.2.1 [] h j31 i18 j14 i19 j16) (by decide) (by decide) (by decide) (by decide) rfl (lenOf own_pd7 rfl) rfl (Nat.le_of_eq rfl) at_289 (pc' := 292) rfl (fun T2 X2 e2 => ?_)
        refine g_if_eq X2 B at_292 (pcT := 299) (pcF := 295) (by decide) rfl rfl (fun c292_3 => ?_) (fun c292_3 => ?_)
        · refine g_iconst X2 B at_299 (pc' := 300) rfl (v := (0 : Int32)) (by decide) ?_
          have d1 : n < 1 := by rw [Int32.lt_iff_toInt_lt, own_k1] at c232_0; omega
          have d2 : n < 2 := by rw [Int32.lt_iff_toInt_lt, own_k2] at c254_1; omega
          have d3 : ¬ n < 3 := by rw [Int32.lt_iff_toInt_lt, own_k3] at c276_2; omega
          have eb2 : own_bit f k2 = false := by rw [hB]; exact (own_iss j31 j14 j16 i18 i19 k2 ka kb hk2 hka hkb).mp c292_3
          exact law_s300 X2 B e2 n0 Zs N (j0) (j2) (j4) (j6) (j8) (i10) (j11) (o13) (j14) (j16) (i18) (i19) (i20) (j21) (j23) (j25) (j27) (j29) (j31) (o33) ((0 : Int32)) wa cd nw f ka kb n (own_g3 j27 j29 j31) (own_h3 k0 k1 k2) hE hS hw hC hA now g13 gw hz1 hz2 hnw hra hrb hka hkb hi20 hP hg (by rw [own_all3 _ _ _ hn3]; simp [own_h3, d1, d2, d3, eb2])
        · refine g_iconst X2 B at_295 (pc' := 296) rfl (v := (1 : Int32)) (by decide) ?_
          refine g_goto X2 B at_296 (pc' := 300) (by decide) rfl ?_
          have d1 : n < 1 := by rw [Int32.lt_iff_toInt_lt, own_k1] at c232_0; omega
          have d2 : n < 2 := by rw [Int32.lt_iff_toInt_lt, own_k2] at c254_1; omega
          have d3 : ¬ n < 3 := by rw [Int32.lt_iff_toInt_lt, own_k3] at c276_2; omega
          have eb2 : own_bit f k2 = true := by rw [hB]; exact Bool.of_not_eq_false (fun z => c292_3 ((own_iss j31 j14 j16 i18 i19 k2 ka kb hk2 hka hkb).mpr z))
          exact law_s300 X2 B e2 n0 Zs N (j0) (j2) (j4) (j6) (j8) (i10) (j11) (o13) (j14) (j16) (i18) (i19) (i20) (j21) (j23) (j25) (j27) (j29) (j31) (o33) ((1 : Int32)) wa cd nw f ka kb n (own_g3 j27 j29 j31) (own_h3 k0 k1 k2) hE hS hw hC hA now g13 gw hz1 hz2 hnw hra hrb hka hkb hi20 hP hg (by rw [own_all3 _ _ _ hn3]; simp [own_h3, d1, d2, d3, eb2])
    · refine g_lload X B at_257 (pc' := 259) rfl (v := j29) rfl ?_
      refine g_iload X B at_259 (pc' := 261) rfl (v := i18) rfl ?_
      refine g_lload X B at_261 (pc' := 263) rfl (v := j14) rfl ?_
      refine g_iload X B at_263 (pc' := 265) rfl (v := i19) rfl ?_
      refine g_lload X B at_265 (pc' := 267) rfl (v := j16) rfl ?_
      refine g_callP X B eT 0 (y := (⟨"com/example/vouch/vouch/BitArrayAllSetPinLaw", "isSet", "(JZJZJ)Z"⟩ : MethodName)) (argsL := [(.long j29), (.int i18), (.long j14), (.int i19), (.long j16)]) (rest := []) (w := (.int (iss_f0 j29 i18 j14 i19 j16))) (B.w 59 rfl) (B.w 60 rfl) (B.w 52 rfl) (B.w 61 rfl) (by decide) (iss_met l Z a0 B.2.2.1 [] h j29 i18 j14 i19 j16) (by decide) (by decide) (by decide) (by decide) rfl (lenOf own_pd7 rfl) rfl (Nat.le_of_eq rfl) at_267 (pc' := 270) rfl (fun T3 X3 e3 => ?_)
      refine g_if_eq X3 B at_270 (pcT := 299) (pcF := 273) (by decide) rfl rfl (fun c270_2 => ?_) (fun c270_2 => ?_)
      · refine g_iconst X3 B at_299 (pc' := 300) rfl (v := (0 : Int32)) (by decide) ?_
        have d1 : n < 1 := by rw [Int32.lt_iff_toInt_lt, own_k1] at c232_0; omega
        have d2 : ¬ n < 2 := by rw [Int32.lt_iff_toInt_lt, own_k2] at c254_1; omega
        have eb1 : own_bit f k1 = false := by rw [hB]; exact (own_iss j29 j14 j16 i18 i19 k1 ka kb hk1 hka hkb).mp c270_2
        exact law_s300 X3 B e3 n0 Zs N (j0) (j2) (j4) (j6) (j8) (i10) (j11) (o13) (j14) (j16) (i18) (i19) (i20) (j21) (j23) (j25) (j27) (j29) (j31) (o33) ((0 : Int32)) wa cd nw f ka kb n (own_g3 j27 j29 j31) (own_h3 k0 k1 k2) hE hS hw hC hA now g13 gw hz1 hz2 hnw hra hrb hka hkb hi20 hP hg (by rw [own_all3 _ _ _ hn3]; simp [own_h3, d1, d2, eb1])
      · refine g_iload X3 B at_273 (pc' := 275) rfl (v := i20) rfl ?_
        refine g_iconst X3 B at_275 (pc' := 276) rfl (v := (3 : Int32)) (by decide) ?_
        refine g_icmp_lt X3 B at_276 (pcT := 295) (pcF := 279) (by decide) rfl rfl (fun c276_3 => ?_) (fun c276_3 => ?_)
        · refine g_iconst X3 B at_295 (pc' := 296) rfl (v := (1 : Int32)) (by decide) ?_
          refine g_goto X3 B at_296 (pc' := 300) (by decide) rfl ?_
          have d1 : n < 1 := by rw [Int32.lt_iff_toInt_lt, own_k1] at c232_0; omega
          have d2 : ¬ n < 2 := by rw [Int32.lt_iff_toInt_lt, own_k2] at c254_1; omega
          have d3 : n < 3 := by rw [Int32.lt_iff_toInt_lt, own_k3] at c276_3; omega
          have eb1 : own_bit f k1 = true := by rw [hB]; exact Bool.of_not_eq_false (fun z => c270_2 ((own_iss j29 j14 j16 i18 i19 k1 ka kb hk1 hka hkb).mpr z))
          exact law_s300 X3 B e3 n0 Zs N (j0) (j2) (j4) (j6) (j8) (i10) (j11) (o13) (j14) (j16) (i18) (i19) (i20) (j21) (j23) (j25) (j27) (j29) (j31) (o33) ((1 : Int32)) wa cd nw f ka kb n (own_g3 j27 j29 j31) (own_h3 k0 k1 k2) hE hS hw hC hA now g13 gw hz1 hz2 hnw hra hrb hka hkb hi20 hP hg (by rw [own_all3 _ _ _ hn3]; simp [own_h3, d1, d2, d3, eb1])
        · refine g_lload X3 B at_279 (pc' := 281) rfl (v := j31) rfl ?_
          refine g_iload X3 B at_281 (pc' := 283) rfl (v := i18) rfl ?_
          refine g_lload X3 B at_283 (pc' := 285) rfl (v := j14) rfl ?_
          refine g_iload X3 B at_285 (pc' := 287) rfl (v := i19) rfl ?_
          refine g_lload X3 B at_287 (pc' := 289) rfl (v := j16) rfl ?_
          refine g_callP X3 B e3 0 (y := (⟨"com/example/vouch/vouch/BitArrayAllSetPinLaw", "isSet", "(JZJZJ)Z"⟩ : MethodName)) (argsL := [(.long j31), (.int i18), (.long j14), (.int i19), (.long j16)]) (rest := []) (w := (.int (iss_f0 j31 i18 j14 i19 j16))) (B.w 59 rfl) (B.w 60 rfl) (B.w 52 rfl) (B.w 61 rfl) (by decide) (iss_met l Z a0 B.2.2.1 [] h j31 i18 j14 i19 j16) (by decide) (by decide) (by decide) (by decide) rfl (lenOf own_pd7 rfl) rfl (Nat.le_of_eq rfl) at_289 (pc' := 292) rfl (fun T4 X4 e4 => ?_)
          refine g_if_eq X4 B at_292 (pcT := 299) (pcF := 295) (by decide) rfl rfl (fun c292_4 => ?_) (fun c292_4 => ?_)
          · refine g_iconst X4 B at_299 (pc' := 300) rfl (v := (0 : Int32)) (by decide) ?_
            have d1 : n < 1 := by rw [Int32.lt_iff_toInt_lt, own_k1] at c232_0; omega
            have d2 : ¬ n < 2 := by rw [Int32.lt_iff_toInt_lt, own_k2] at c254_1; omega
            have d3 : ¬ n < 3 := by rw [Int32.lt_iff_toInt_lt, own_k3] at c276_3; omega
            have eb1 : own_bit f k1 = true := by rw [hB]; exact Bool.of_not_eq_false (fun z => c270_2 ((own_iss j29 j14 j16 i18 i19 k1 ka kb hk1 hka hkb).mpr z))
            have eb2 : own_bit f k2 = false := by rw [hB]; exact (own_iss j31 j14 j16 i18 i19 k2 ka kb hk2 hka hkb).mp c292_4
            exact law_s300 X4 B e4 n0 Zs N (j0) (j2) (j4) (j6) (j8) (i10) (j11) (o13) (j14) (j16) (i18) (i19) (i20) (j21) (j23) (j25) (j27) (j29) (j31) (o33) ((0 : Int32)) wa cd nw f ka kb n (own_g3 j27 j29 j31) (own_h3 k0 k1 k2) hE hS hw hC hA now g13 gw hz1 hz2 hnw hra hrb hka hkb hi20 hP hg (by rw [own_all3 _ _ _ hn3]; simp [own_h3, d1, d2, d3, eb1, eb2])
          · refine g_iconst X4 B at_295 (pc' := 296) rfl (v := (1 : Int32)) (by decide) ?_
            refine g_goto X4 B at_296 (pc' := 300) (by decide) rfl ?_
            have d1 : n < 1 := by rw [Int32.lt_iff_toInt_lt, own_k1] at c232_0; omega
            have d2 : ¬ n < 2 := by rw [Int32.lt_iff_toInt_lt, own_k2] at c254_1; omega
            have d3 : ¬ n < 3 := by rw [Int32.lt_iff_toInt_lt, own_k3] at c276_3; omega
            have eb1 : own_bit f k1 = true := by rw [hB]; exact Bool.of_not_eq_false (fun z => c270_2 ((own_iss j29 j14 j16 i18 i19 k1 ka kb hk1 hka hkb).mpr z))
            have eb2 : own_bit f k2 = true := by rw [hB]; exact Bool.of_not_eq_false (fun z => c292_4 ((own_iss j31 j14 j16 i18 i19 k2 ka kb hk2 hka hkb).mpr z))
            exact law_s300 X4 B e4 n0 Zs N (j0) (j2) (j4) (j6) (j8) (i10) (j11) (o13) (j14) (j16) (i18) (i19) (i20) (j21) (j23) (j25) (j27) (j29) (j31) (o33) ((1 : Int32)) wa cd nw f ka kb n (own_g3 j27 j29 j31) (own_h3 k0 k1 k2) hE hS hw hC hA now g13 gw hz1 hz2 hnw hra hrb hka hkb hi20 hP hg (by rw [own_all3 _ _ _ hn3]; simp [own_h3, d1, d2, d3, eb1, eb2])
  · refine g_lload X B at_235 (pc' := 237) rfl (v := j27) rfl ?_
    refine g_iload X B at_237 (pc' := 239) rfl (v := i18) rfl ?_
    refine g_lload X B at_239 (pc' := 241) rfl (v := j14) rfl ?_
    refine g_iload X B at_241 (pc' := 243) rfl (v := i19) rfl ?_
    refine g_lload X B at_243 (pc' := 245) rfl (v := j16) rfl ?_
    refine g_callP X B eT 0 (y := (⟨"com/example/vouch/vouch/BitArrayAllSetPinLaw", "isSet", "(JZJZJ)Z"⟩ : MethodName)) (argsL := [(.long j27), (.int i18), (.long j14), (.int i19), (.long j16)]) (rest := []) (w := (.int (iss_f0 j27 i18 j14 i19 j16))) (B.w 59 rfl) (B.w 60 rfl) (B.w 52 rfl) (B.w 61 rfl) (by decide) (iss_met l Z a0 B.2.2.1 [] h j27 i18 j14 i19 j16) (by decide) (by decide) (by decide) (by decide) rfl (lenOf own_pd7 rfl) rfl (Nat.le_of_eq rfl) at_245 (pc' := 248) rfl (fun T5 X5 e5 => ?_)
    refine g_if_eq X5 B at_248 (pcT := 299) (pcF := 251) (by decide) rfl rfl (fun c248_1 => ?_) (fun c248_1 => ?_)
    · refine g_iconst X5 B at_299 (pc' := 300) rfl (v := (0 : Int32)) (by decide) ?_
      have d1 : ¬ n < 1 := by rw [Int32.lt_iff_toInt_lt, own_k1] at c232_0; omega
      have eb0 : own_bit f k0 = false := by rw [hB]; exact (own_iss j27 j14 j16 i18 i19 k0 ka kb hk0 hka hkb).mp c248_1
      exact law_s300 X5 B e5 n0 Zs N (j0) (j2) (j4) (j6) (j8) (i10) (j11) (o13) (j14) (j16) (i18) (i19) (i20) (j21) (j23) (j25) (j27) (j29) (j31) (o33) ((0 : Int32)) wa cd nw f ka kb n (own_g3 j27 j29 j31) (own_h3 k0 k1 k2) hE hS hw hC hA now g13 gw hz1 hz2 hnw hra hrb hka hkb hi20 hP hg (by rw [own_all3 _ _ _ hn3]; simp [own_h3, d1, eb0])
    · refine g_iload X5 B at_251 (pc' := 253) rfl (v := i20) rfl ?_
      refine g_iconst X5 B at_253 (pc' := 254) rfl (v := (2 : Int32)) (by decide) ?_
      refine g_icmp_lt X5 B at_254 (pcT := 273) (pcF := 257) (by decide) rfl rfl (fun c254_2 => ?_) (fun c254_2 => ?_)
      · refine g_iload X5 B at_273 (pc' := 275) rfl (v := i20) rfl ?_
        refine g_iconst X5 B at_275 (pc' := 276) rfl (v := (3 : Int32)) (by decide) ?_
        refine g_icmp_lt X5 B at_276 (pcT := 295) (pcF := 279) (by decide) rfl rfl (fun c276_3 => ?_) (fun c276_3 => ?_)
        · refine g_iconst X5 B at_295 (pc' := 296) rfl (v := (1 : Int32)) (by decide) ?_
          refine g_goto X5 B at_296 (pc' := 300) (by decide) rfl ?_
          have d1 : ¬ n < 1 := by rw [Int32.lt_iff_toInt_lt, own_k1] at c232_0; omega
          have d2 : n < 2 := by rw [Int32.lt_iff_toInt_lt, own_k2] at c254_2; omega
          have d3 : n < 3 := by rw [Int32.lt_iff_toInt_lt, own_k3] at c276_3; omega
          have eb0 : own_bit f k0 = true := by rw [hB]; exact Bool.of_not_eq_false (fun z => c248_1 ((own_iss j27 j14 j16 i18 i19 k0 ka kb hk0 hka hkb).mpr z))
          exact law_s300 X5 B e5 n0 Zs N (j0) (j2) (j4) (j6) (j8) (i10) (j11) (o13) (j14) (j16) (i18) (i19) (i20) (j21) (j23) (j25) (j27) (j29) (j31) (o33) ((1 : Int32)) wa cd nw f ka kb n (own_g3 j27 j29 j31) (own_h3 k0 k1 k2) hE hS hw hC hA now g13 gw hz1 hz2 hnw hra hrb hka hkb hi20 hP hg (by rw [own_all3 _ _ _ hn3]; simp [own_h3, d1, d2, d3, eb0])
        · refine g_lload X5 B at_279 (pc' := 281) rfl (v := j31) rfl ?_
          refine g_iload X5 B at_281 (pc' := 283) rfl (v := i18) rfl ?_
          refine g_lload X5 B at_283 (pc' := 285) rfl (v := j14) rfl ?_
          refine g_iload X5 B at_285 (pc' := 287) rfl (v := i19) rfl ?_
          refine g_lload X5 B at_287 (pc' := 289) rfl (v := j16) rfl ?_
          refine g_callP X5 B e5 0 (y := (⟨"com/example/vouch/vouch/BitArrayAllSetPinLaw", "isSet", "(JZJZJ)Z"⟩ : MethodName)) (argsL := [(.long j31), (.int i18), (.long j14), (.int i19), (.long j16)]) (rest := []) (w := (.int (iss_f0 j31 i18 j14 i19 j16))) (B.w 59 rfl) (B.w 60 rfl) (B.w 52 rfl) (B.w 61 rfl) (by decide) (iss_met l Z a0 B.2.2.1 [] h j31 i18 j14 i19 j16) (by decide) (by decide) (by decide) (by decide) rfl (lenOf own_pd7 rfl) rfl (Nat.le_of_eq rfl) at_289 (pc' := 292) rfl (fun T6 X6 e6 => ?_)
          refine g_if_eq X6 B at_292 (pcT := 299) (pcF := 295) (by decide) rfl rfl (fun c292_4 => ?_) (fun c292_4 => ?_)
          · refine g_iconst X6 B at_299 (pc' := 300) rfl (v := (0 : Int32)) (by decide) ?_
            have d1 : ¬ n < 1 := by rw [Int32.lt_iff_toInt_lt, own_k1] at c232_0; omega
            have d2 : n < 2 := by rw [Int32.lt_iff_toInt_lt, own_k2] at c254_2; omega
            have d3 : ¬ n < 3 := by rw [Int32.lt_iff_toInt_lt, own_k3] at c276_3; omega
            have eb0 : own_bit f k0 = true := by rw [hB]; exact Bool.of_not_eq_false (fun z => c248_1 ((own_iss j27 j14 j16 i18 i19 k0 ka kb hk0 hka hkb).mpr z))
            have eb2 : own_bit f k2 = false := by rw [hB]; exact (own_iss j31 j14 j16 i18 i19 k2 ka kb hk2 hka hkb).mp c292_4
            exact law_s300 X6 B e6 n0 Zs N (j0) (j2) (j4) (j6) (j8) (i10) (j11) (o13) (j14) (j16) (i18) (i19) (i20) (j21) (j23) (j25) (j27) (j29) (j31) (o33) ((0 : Int32)) wa cd nw f ka kb n (own_g3 j27 j29 j31) (own_h3 k0 k1 k2) hE hS hw hC hA now g13 gw hz1 hz2 hnw hra hrb hka hkb hi20 hP hg (by rw [own_all3 _ _ _ hn3]; simp [own_h3, d1, d2, d3, eb0, eb2])
          · refine g_iconst X6 B at_295 (pc' := 296) rfl (v := (1 : Int32)) (by decide) ?_
            refine g_goto X6 B at_296 (pc' := 300) (by decide) rfl ?_
            have d1 : ¬ n < 1 := by rw [Int32.lt_iff_toInt_lt, own_k1] at c232_0; omega
            have d2 : n < 2 := by rw [Int32.lt_iff_toInt_lt, own_k2] at c254_2; omega
            have d3 : ¬ n < 3 := by rw [Int32.lt_iff_toInt_lt, own_k3] at c276_3; omega
            have eb0 : own_bit f k0 = true := by rw [hB]; exact Bool.of_not_eq_false (fun z => c248_1 ((own_iss j27 j14 j16 i18 i19 k0 ka kb hk0 hka hkb).mpr z))
            have eb2 : own_bit f k2 = true := by rw [hB]; exact Bool.of_not_eq_false (fun z => c292_4 ((own_iss j31 j14 j16 i18 i19 k2 ka kb hk2 hka hkb).mpr z))
            exact law_s300 X6 B e6 n0 Zs N (j0) (j2) (j4) (j6) (j8) (i10) (j11) (o13) (j14) (j16) (i18) (i19) (i20) (j21) (j23) (j25) (j27) (j29) (j31) (o33) ((1 : Int32)) wa cd nw f ka kb n (own_g3 j27 j29 j31) (own_h3 k0 k1 k2) hE hS hw hC hA now g13 gw hz1 hz2 hnw hra hrb hka hkb hi20 hP hg (by rw [own_all3 _ _ _ hn3]; simp [own_h3, d1, d2, d3, eb0, eb2])
      · refine g_lload X5 B at_257 (pc' := 259) rfl (v := j29) rfl ?_
        refine g_iload X5 B at_259 (pc' := 261) rfl (v := i18) rfl ?_
        refine g_lload X5 B at_261 (pc' := 263) rfl (v := j14) rfl ?_
        refine g_iload X5 B at_263 (pc' := 265) rfl (v := i19) rfl ?_
        refine g_lload X5 B at_265 (pc' := 267) rfl (v := j16) rfl ?_
        refine g_callP X5 B e5 0 (y := (⟨"com/example/vouch/vouch/BitArrayAllSetPinLaw", "isSet", "(JZJZJ)Z"⟩ : MethodName)) (argsL := [(.long j29), (.int i18), (.long j14), (.int i19), (.long j16)]) (rest := []) (w := (.int (iss_f0 j29 i18 j14 i19 j16))) (B.w 59 rfl) (B.w 60 rfl) (B.w 52 rfl) (B.w 61 rfl) (by decide) (iss_met l Z a0 B.2.2.1 [] h j29 i18 j14 i19 j16) (by decide) (by decide) (by decide) (by decide) rfl (lenOf own_pd7 rfl) rfl (Nat.le_of_eq rfl) at_267 (pc' := 270) rfl (fun T7 X7 e7 => ?_)
        refine g_if_eq X7 B at_270 (pcT := 299) (pcF := 273) (by decide) rfl rfl (fun c270_3 => ?_) (fun c270_3 => ?_)
        · refine g_iconst X7 B at_299 (pc' := 300) rfl (v := (0 : Int32)) (by decide) ?_
          have d1 : ¬ n < 1 := by rw [Int32.lt_iff_toInt_lt, own_k1] at c232_0; omega
          have d2 : ¬ n < 2 := by rw [Int32.lt_iff_toInt_lt, own_k2] at c254_2; omega
          have eb0 : own_bit f k0 = true := by rw [hB]; exact Bool.of_not_eq_false (fun z => c248_1 ((own_iss j27 j14 j16 i18 i19 k0 ka kb hk0 hka hkb).mpr z))
          have eb1 : own_bit f k1 = false := by rw [hB]; exact (own_iss j29 j14 j16 i18 i19 k1 ka kb hk1 hka hkb).mp c270_3
          exact law_s300 X7 B e7 n0 Zs N (j0) (j2) (j4) (j6) (j8) (i10) (j11) (o13) (j14) (j16) (i18) (i19) (i20) (j21) (j23) (j25) (j27) (j29) (j31) (o33) ((0 : Int32)) wa cd nw f ka kb n (own_g3 j27 j29 j31) (own_h3 k0 k1 k2) hE hS hw hC hA now g13 gw hz1 hz2 hnw hra hrb hka hkb hi20 hP hg (by rw [own_all3 _ _ _ hn3]; simp [own_h3, d1, d2, eb0, eb1])
        · refine g_iload X7 B at_273 (pc' := 275) rfl (v := i20) rfl ?_
          refine g_iconst X7 B at_275 (pc' := 276) rfl (v := (3 : Int32)) (by decide) ?_
          refine g_icmp_lt X7 B at_276 (pcT := 295) (pcF := 279) (by decide) rfl rfl (fun c276_4 => ?_) (fun c276_4 => ?_)
          · refine g_iconst X7 B at_295 (pc' := 296) rfl (v := (1 : Int32)) (by decide) ?_
            refine g_goto X7 B at_296 (pc' := 300) (by decide) rfl ?_
            have d1 : ¬ n < 1 := by rw [Int32.lt_iff_toInt_lt, own_k1] at c232_0; omega
            have d2 : ¬ n < 2 := by rw [Int32.lt_iff_toInt_lt, own_k2] at c254_2; omega
            have d3 : n < 3 := by rw [Int32.lt_iff_toInt_lt, own_k3] at c276_4; omega
            have eb0 : own_bit f k0 = true := by rw [hB]; exact Bool.of_not_eq_false (fun z => c248_1 ((own_iss j27 j14 j16 i18 i19 k0 ka kb hk0 hka hkb).mpr z))
            have eb1 : own_bit f k1 = true := by rw [hB]; exact Bool.of_not_eq_false (fun z => c270_3 ((own_iss j29 j14 j16 i18 i19 k1 ka kb hk1 hka hkb).mpr z))
            exact law_s300 X7 B e7 n0 Zs N (j0) (j2) (j4) (j6) (j8) (i10) (j11) (o13) (j14) (j16) (i18) (i19) (i20) (j21) (j23) (j25) (j27) (j29) (j31) (o33) ((1 : Int32)) wa cd nw f ka kb n (own_g3 j27 j29 j31) (own_h3 k0 k1 k2) hE hS hw hC hA now g13 gw hz1 hz2 hnw hra hrb hka hkb hi20 hP hg (by rw [own_all3 _ _ _ hn3]; simp [own_h3, d1, d2, d3, eb0, eb1])
          · refine g_lload X7 B at_279 (pc' := 281) rfl (v := j31) rfl ?_
            refine g_iload X7 B at_281 (pc' := 283) rfl (v := i18) rfl ?_
            refine g_lload X7 B at_283 (pc' := 285) rfl (v := j14) rfl ?_
            refine g_iload X7 B at_285 (pc' := 287) rfl (v := i19) rfl ?_
            refine g_lload X7 B at_287 (pc' := 289) rfl (v := j16) rfl ?_
            refine g_callP X7 B e7 0 (y := (⟨"com/example/vouch/vouch/BitArrayAllSetPinLaw", "isSet", "(JZJZJ)Z"⟩ : MethodName)) (argsL := [(.long j31), (.int i18), (.long j14), (.int i19), (.long j16)]) (rest := []) (w := (.int (iss_f0 j31 i18 j14 i19 j16))) (B.w 59 rfl) (B.w 60 rfl) (B.w 52 rfl) (B.w 61 rfl) (by decide) (iss_met l Z a0 B.2.2.1 [] h j31 i18 j14 i19 j16) (by decide) (by decide) (by decide) (by decide) rfl (lenOf own_pd7 rfl) rfl (Nat.le_of_eq rfl) at_289 (pc' := 292) rfl (fun T8 X8 e8 => ?_)
            refine g_if_eq X8 B at_292 (pcT := 299) (pcF := 295) (by decide) rfl rfl (fun c292_5 => ?_) (fun c292_5 => ?_)
            · refine g_iconst X8 B at_299 (pc' := 300) rfl (v := (0 : Int32)) (by decide) ?_
              have d1 : ¬ n < 1 := by rw [Int32.lt_iff_toInt_lt, own_k1] at c232_0; omega
              have d2 : ¬ n < 2 := by rw [Int32.lt_iff_toInt_lt, own_k2] at c254_2; omega
              have d3 : ¬ n < 3 := by rw [Int32.lt_iff_toInt_lt, own_k3] at c276_4; omega
              have eb0 : own_bit f k0 = true := by rw [hB]; exact Bool.of_not_eq_false (fun z => c248_1 ((own_iss j27 j14 j16 i18 i19 k0 ka kb hk0 hka hkb).mpr z))
              have eb1 : own_bit f k1 = true := by rw [hB]; exact Bool.of_not_eq_false (fun z => c270_3 ((own_iss j29 j14 j16 i18 i19 k1 ka kb hk1 hka hkb).mpr z))
              have eb2 : own_bit f k2 = false := by rw [hB]; exact (own_iss j31 j14 j16 i18 i19 k2 ka kb hk2 hka hkb).mp c292_5
              exact law_s300 X8 B e8 n0 Zs N (j0) (j2) (j4) (j6) (j8) (i10) (j11) (o13) (j14) (j16) (i18) (i19) (i20) (j21) (j23) (j25) (j27) (j29) (j31) (o33) ((0 : Int32)) wa cd nw f ka kb n (own_g3 j27 j29 j31) (own_h3 k0 k1 k2) hE hS hw hC hA now g13 gw hz1 hz2 hnw hra hrb hka hkb hi20 hP hg (by rw [own_all3 _ _ _ hn3]; simp [own_h3, d1, d2, d3, eb0, eb1, eb2])
            · refine g_iconst X8 B at_295 (pc' := 296) rfl (v := (1 : Int32)) (by decide) ?_
              refine g_goto X8 B at_296 (pc' := 300) (by decide) rfl ?_
              have d1 : ¬ n < 1 := by rw [Int32.lt_iff_toInt_lt, own_k1] at c232_0; omega
              have d2 : ¬ n < 2 := by rw [Int32.lt_iff_toInt_lt, own_k2] at c254_2; omega
              have d3 : ¬ n < 3 := by rw [Int32.lt_iff_toInt_lt, own_k3] at c276_4; omega
              have eb0 : own_bit f k0 = true := by rw [hB]; exact Bool.of_not_eq_false (fun z => c248_1 ((own_iss j27 j14 j16 i18 i19 k0 ka kb hk0 hka hkb).mpr z))
              have eb1 : own_bit f k1 = true := by rw [hB]; exact Bool.of_not_eq_false (fun z => c270_3 ((own_iss j29 j14 j16 i18 i19 k1 ka kb hk1 hka hkb).mpr z))
              have eb2 : own_bit f k2 = true := by rw [hB]; exact Bool.of_not_eq_false (fun z => c292_5 ((own_iss j31 j14 j16 i18 i19 k2 ka kb hk2 hka hkb).mpr z))
              exact law_s300 X8 B e8 n0 Zs N (j0) (j2) (j4) (j6) (j8) (i10) (j11) (o13) (j14) (j16) (i18) (i19) (i20) (j21) (j23) (j25) (j27) (j29) (j31) (o33) ((1 : Int32)) wa cd nw f ka kb n (own_g3 j27 j29 j31) (own_h3 k0 k1 k2) hE hS hw hC hA now g13 gw hz1 hz2 hnw hra hrb hka hkb hi20 hP hg (by rw [own_all3 _ _ _ hn3]; simp [own_h3, d1, d2, d3, eb0, eb1, eb2])
set_option maxRecDepth 65536 in
set_option maxHeartbeats 40000000 in
theorem law_s95 {p : Program} {l : Launch} {e : Env} {s : State} {m : MethodId} {args : Array Value} {below : List Frame} {meth : Method} {c : Code} {T : State} {Z : State} {a0 : Array Value} {h : Heap} {locs : List Loc} (X : Stand p l e room_1 s m args below meth c T locs 2 19) (B : Bdy p s m meth c Z a0 "com/example/vouch/vouch/BitArrayAllSetPinLaw" "law" code 35 (some .boolean) tables_1) (eT : T.heap = h) (n0 : Nat) (Zs : n0 ≤ h.size) (N : Fr n0 locs) (j0 : Int64) (j2 : Int64) (j4 : Int64) (j6 : Int64) (j8 : Int64) (i10 : Int32) (j11 : Int64) (o13 : Addr) (j14 : Int64) (j16 : Int64) (i18 : Int32) (i19 : Int32) (wa : Addr) (cd : Int64) (nw : Nat) (f : Nat → Int64) (ka : Nat) (kb : Nat) (hE : Exa Z h o13 "com/example/vouch/vouch/BitArray") (hS : Fld Z h o13 "com/example/vouch/vouch/BitArray" "size" "J" (.long j11)) (hw : Fld Z h o13 "com/example/vouch/vouch/BitArray" "words" "[J" (.ref wa)) (hC : Fld Z h o13 "com/example/vouch/vouch/BitArray" "cardinality" "J" (.long cd)) (hA : Ax Z h wa .long nw (fun j => .long (f j))) (now : o13 ≠ wa) (g13 : n0 ≤ o13) (gw : n0 ≤ wa) (hz1 : 1 ≤ j11.toInt) (hz2 : j11.toInt ≤ 1024) (hnw : ∀ k : Nat, (k : Int) < j11.toInt → k / 64 < nw) (hra : own_rg j11 j14) (hrb : own_rg j11 j16) (hka : j14.toInt = (ka : Int)) (hkb : j16.toInt = (kb : Int)) (hB : ∀ q, own_bit f q = ((!decide (i18 = 0) && decide (q = ka)) || (!decide (i19 = 0) && decide (q = kb)))) :
    Go p e below s room_1.cells room_1.slots (fun v _ L => v = some (.int 1) ∧ Fr n0 L) (T.setTop (mkF m 95 #[.val (.long j0), .second, .val (.long j2), .second, .val (.long j4), .second, .val (.long j6), .second, .val (.long j8), .second, .val (.int i10), .val (.long j11), .second, .val (.ref o13), .val (.long j14), .second, .val (.long j16), .second, .val (.int i18), .val (.int i19), .unset, .unset, .unset, .unset, .unset, .unset, .unset, .unset, .unset, .unset, .unset, .unset, .unset, .unset, .unset] [])) := by
  refine g_iload X B at_95 (pc' := 97) rfl (v := i10) rfl ?_
  refine g_iconst X B at_97 (pc' := 98) rfl (v := (2 : Int32)) (by decide) ?_
  refine g_iushr X B at_98 (pc' := 99) rfl (z := ((i10.toUInt32 >>> ((2 : Int32) &&& 31).toUInt32).toInt32)) rfl ?_
  refine g_iconst X B at_99 (pc' := 100) rfl (v := (3 : Int32)) (by decide) ?_
  refine g_iand X B at_100 (pc' := 101) rfl ?_
  refine g_istore X B at_101 (pc' := 103) rfl (Ls' := #[.val (.long j0), .second, .val (.long j2), .second, .val (.long j4), .second, .val (.long j6), .second, .val (.long j8), .second, .val (.int i10), .val (.long j11), .second, .val (.ref o13), .val (.long j14), .second, .val (.long j16), .second, .val (.int i18), .val (.int i19), .val (.int (((i10.toUInt32 >>> ((2 : Int32) &&& 31).toUInt32).toInt32) &&& (3 : Int32))), .unset, .unset, .unset, .unset, .unset, .unset, .unset, .unset, .unset, .unset, .unset, .unset, .unset, .unset]) rfl ?_
  obtain ⟨i20, g_i20⟩ : ∃ z, z = (((i10.toUInt32 >>> ((2 : Int32) &&& 31).toUInt32).toInt32) &&& (3 : Int32)) := ⟨_, rfl⟩
  rw [← g_i20]
  obtain ⟨n, hi20, hn3⟩ : ∃ n : Nat, i20.toInt = (n : Int) ∧ n ≤ 3 := ⟨i20.toInt.toNat, by have q := own_and3b ((i10.toUInt32 >>> ((2 : Int32) &&& 31).toUInt32).toInt32); rw [← g_i20] at q; omega, by have q := own_and3b ((i10.toUInt32 >>> ((2 : Int32) &&& 31).toUInt32).toInt32); rw [← g_i20] at q; omega⟩
  refine g_lload X B at_103 (pc' := 105) rfl (v := j6) rfl ?_
  refine g_ldc2 X B (B.w 23 rfl) at_105 (pc' := 108) rfl ?_
  refine g_land X B at_108 (pc' := 109) rfl ?_
  refine g_lload X B at_109 (pc' := 111) rfl (v := j11) rfl ?_
  refine g_lrem X B (own_z0 hz1) at_111 (pc' := 112) rfl ?_
  refine g_lstore X B at_112 (pc' := 114) rfl (Ls' := #[.val (.long j0), .second, .val (.long j2), .second, .val (.long j4), .second, .val (.long j6), .second, .val (.long j8), .second, .val (.int i10), .val (.long j11), .second, .val (.ref o13), .val (.long j14), .second, .val (.long j16), .second, .val (.int i18), .val (.int i19), .val (.int i20), .val (.long ((j6 &&& (9223372036854775807 : Int64)) % j11)), .second, .unset, .unset, .unset, .unset, .unset, .unset, .unset, .unset, .unset, .unset, .unset, .unset]) rfl ?_
  obtain ⟨j21, g_j21⟩ : ∃ z, z = ((j6 &&& (9223372036854775807 : Int64)) % j11) := ⟨_, rfl⟩
  rw [← g_j21]
  have r21 : own_rg j11 j21 := by rw [g_j21]; exact own_rem _ _ (own_msk _) hz1
  refine g_lload X B at_114 (pc' := 116) rfl (v := j8) rfl ?_
  refine g_ldc2 X B (B.w 23 rfl) at_116 (pc' := 119) rfl ?_
  refine g_land X B at_119 (pc' := 120) rfl ?_
  refine g_lload X B at_120 (pc' := 122) rfl (v := j11) rfl ?_
  refine g_lrem X B (own_z0 hz1) at_122 (pc' := 123) rfl ?_
  refine g_lstore X B at_123 (pc' := 125) rfl (Ls' := #[.val (.long j0), .second, .val (.long j2), .second, .val (.long j4), .second, .val (.long j6), .second, .val (.long j8), .second, .val (.int i10), .val (.long j11), .second, .val (.ref o13), .val (.long j14), .second, .val (.long j16), .second, .val (.int i18), .val (.int i19), .val (.int i20), .val (.long j21), .second, .val (.long ((j8 &&& (9223372036854775807 : Int64)) % j11)), .second, .unset, .unset, .unset, .unset, .unset, .unset, .unset, .unset, .unset, .unset]) rfl ?_
  obtain ⟨j23, g_j23⟩ : ∃ z, z = ((j8 &&& (9223372036854775807 : Int64)) % j11) := ⟨_, rfl⟩
  rw [← g_j23]
  have r23 : own_rg j11 j23 := by rw [g_j23]; exact own_rem _ _ (own_msk _) hz1
  refine g_lload X B at_125 (pc' := 127) rfl (v := j6) rfl ?_
  refine g_bipush X B at_127 (pc' := 129) rfl (v := (20 : Int32)) (by decide) ?_
  refine g_lushr X B at_129 (pc' := 130) rfl (z := ((j6.toUInt64 >>> ((20 : Int32) &&& 63).toInt64.toUInt64).toInt64)) rfl ?_
  refine g_lload X B at_130 (pc' := 132) rfl (v := j11) rfl ?_
  refine g_lrem X B (own_z0 hz1) at_132 (pc' := 133) rfl ?_
  refine g_lstore X B at_133 (pc' := 135) rfl (Ls' := #[.val (.long j0), .second, .val (.long j2), .second, .val (.long j4), .second, .val (.long j6), .second, .val (.long j8), .second, .val (.int i10), .val (.long j11), .second, .val (.ref o13), .val (.long j14), .second, .val (.long j16), .second, .val (.int i18), .val (.int i19), .val (.int i20), .val (.long j21), .second, .val (.long j23), .second, .val (.long (((j6.toUInt64 >>> ((20 : Int32) &&& 63).toInt64.toUInt64).toInt64) % j11)), .second, .unset, .unset, .unset, .unset, .unset, .unset, .unset, .unset]) rfl ?_
  obtain ⟨j25, g_j25⟩ : ∃ z, z = (((j6.toUInt64 >>> ((20 : Int32) &&& 63).toInt64.toUInt64).toInt64) % j11) := ⟨_, rfl⟩
  rw [← g_j25]
  have r25 : own_rg j11 j25 := by rw [g_j25]; exact own_rem _ _ (own_u20 _) hz1
  refine g_iload X B at_135 (pc' := 137) rfl (v := i10) rfl ?_
  refine g_iconst X B at_137 (pc' := 138) rfl (v := (4 : Int32)) (by decide) ?_
  refine g_iushr X B at_138 (pc' := 139) rfl (z := ((i10.toUInt32 >>> ((4 : Int32) &&& 31).toUInt32).toInt32)) rfl ?_
  refine g_iconst X B at_139 (pc' := 140) rfl (v := (3 : Int32)) (by decide) ?_
  refine g_iand X B at_140 (pc' := 141) rfl ?_
  refine g_lload X B at_141 (pc' := 143) rfl (v := j14) rfl ?_
  refine g_lload X B at_143 (pc' := 145) rfl (v := j16) rfl ?_
  refine g_lload X B at_145 (pc' := 147) rfl (v := j21) rfl ?_
  refine g_callP X B eT 0 (y := (⟨"com/example/vouch/vouch/BitArrayAllSetPinLaw", "pick", "(IJJJ)J"⟩ : MethodName)) (argsL := [(.int (((i10.toUInt32 >>> ((4 : Int32) &&& 31).toUInt32).toInt32) &&& (3 : Int32))), (.long j14), (.long j16), (.long j21)]) (rest := []) (w := (.long (pk_f0 (((i10.toUInt32 >>> ((4 : Int32) &&& 31).toUInt32).toInt32) &&& (3 : Int32)) j14 j16 j21))) (B.w 50 rfl) (B.w 51 rfl) (B.w 52 rfl) (B.w 53 rfl) (by decide) (pk_met l Z a0 B.2.2.1 [] h (((i10.toUInt32 >>> ((4 : Int32) &&& 31).toUInt32).toInt32) &&& (3 : Int32)) j14 j16 j21) (by decide) (by decide) (by decide) (by decide) rfl (lenOf own_pd8 rfl) rfl (Nat.le_of_eq rfl) at_147 (pc' := 150) rfl (fun T9 X9 e9 => ?_)
  refine g_lstore X9 B at_150 (pc' := 152) rfl (Ls' := #[.val (.long j0), .second, .val (.long j2), .second, .val (.long j4), .second, .val (.long j6), .second, .val (.long j8), .second, .val (.int i10), .val (.long j11), .second, .val (.ref o13), .val (.long j14), .second, .val (.long j16), .second, .val (.int i18), .val (.int i19), .val (.int i20), .val (.long j21), .second, .val (.long j23), .second, .val (.long j25), .second, .val (.long (pk_f0 (((i10.toUInt32 >>> ((4 : Int32) &&& 31).toUInt32).toInt32) &&& (3 : Int32)) j14 j16 j21)), .second, .unset, .unset, .unset, .unset, .unset, .unset]) rfl ?_
  obtain ⟨j27, g_j27⟩ : ∃ z, z = (pk_f0 (((i10.toUInt32 >>> ((4 : Int32) &&& 31).toUInt32).toInt32) &&& (3 : Int32)) j14 j16 j21) := ⟨_, rfl⟩
  rw [← g_j27]
  have rj27 : own_rg j11 j27 := by rw [g_j27]; exact own_pk hra hrb r21
  obtain ⟨k0, hk0, gk0⟩ := own_nat rj27
  refine g_iload X9 B at_152 (pc' := 154) rfl (v := i10) rfl ?_
  refine g_bipush X9 B at_154 (pc' := 156) rfl (v := (6 : Int32)) (by decide) ?_
  refine g_iushr X9 B at_156 (pc' := 157) rfl (z := ((i10.toUInt32 >>> ((6 : Int32) &&& 31).toUInt32).toInt32)) rfl ?_
  refine g_iconst X9 B at_157 (pc' := 158) rfl (v := (3 : Int32)) (by decide) ?_
  refine g_iand X9 B at_158 (pc' := 159) rfl ?_
  refine g_lload X9 B at_159 (pc' := 161) rfl (v := j14) rfl ?_
  refine g_lload X9 B at_161 (pc' := 163) rfl (v := j16) rfl ?_
  refine g_lload X9 B at_163 (pc' := 165) rfl (v := j23) rfl ?_
  refine g_callP X9 B e9 0 (y := (⟨"com/example/vouch/vouch/BitArrayAllSetPinLaw", "pick", "(IJJJ)J"⟩ : MethodName)) (argsL := [(.int (((i10.toUInt32 >>> ((6 : Int32) &&& 31).toUInt32).toInt32) &&& (3 : Int32))), (.long j14), (.long j16), (.long j23)]) (rest := []) (w := (.long (pk_f0 (((i10.toUInt32 >>> ((6 : Int32) &&& 31).toUInt32).toInt32) &&& (3 : Int32)) j14 j16 j23))) (B.w 50 rfl) (B.w 51 rfl) (B.w 52 rfl) (B.w 53 rfl) (by decide) (pk_met l Z a0 B.2.2.1 [] h (((i10.toUInt32 >>> ((6 : Int32) &&& 31).toUInt32).toInt32) &&& (3 : Int32)) j14 j16 j23) (by decide) (by decide) (by decide) (by decide) rfl (lenOf own_pd8 rfl) rfl (Nat.le_of_eq rfl) at_165 (pc' := 168) rfl (fun T10 X10 e10 => ?_)
  refine g_lstore X10 B at_168 (pc' := 170) rfl (Ls' := #[.val (.long j0), .second, .val (.long j2), .second, .val (.long j4), .second, .val (.long j6), .second, .val (.long j8), .second, .val (.int i10), .val (.long j11), .second, .val (.ref o13), .val (.long j14), .second, .val (.long j16), .second, .val (.int i18), .val (.int i19), .val (.int i20), .val (.long j21), .second, .val (.long j23), .second, .val (.long j25), .second, .val (.long j27), .second, .val (.long (pk_f0 (((i10.toUInt32 >>> ((6 : Int32) &&& 31).toUInt32).toInt32) &&& (3 : Int32)) j14 j16 j23)), .second, .unset, .unset, .unset, .unset]) rfl ?_
  obtain ⟨j29, g_j29⟩ : ∃ z, z = (pk_f0 (((i10.toUInt32 >>> ((6 : Int32) &&& 31).toUInt32).toInt32) &&& (3 : Int32)) j14 j16 j23) := ⟨_, rfl⟩
  rw [← g_j29]
  have rj29 : own_rg j11 j29 := by rw [g_j29]; exact own_pk hra hrb r23
  obtain ⟨k1, hk1, gk1⟩ := own_nat rj29
  refine g_iload X10 B at_170 (pc' := 172) rfl (v := i10) rfl ?_
  refine g_bipush X10 B at_172 (pc' := 174) rfl (v := (8 : Int32)) (by decide) ?_
  refine g_iushr X10 B at_174 (pc' := 175) rfl (z := ((i10.toUInt32 >>> ((8 : Int32) &&& 31).toUInt32).toInt32)) rfl ?_
  refine g_iconst X10 B at_175 (pc' := 176) rfl (v := (3 : Int32)) (by decide) ?_
  refine g_iand X10 B at_176 (pc' := 177) rfl ?_
  refine g_lload X10 B at_177 (pc' := 179) rfl (v := j14) rfl ?_
  refine g_lload X10 B at_179 (pc' := 181) rfl (v := j16) rfl ?_
  refine g_lload X10 B at_181 (pc' := 183) rfl (v := j25) rfl ?_
  refine g_callP X10 B e10 0 (y := (⟨"com/example/vouch/vouch/BitArrayAllSetPinLaw", "pick", "(IJJJ)J"⟩ : MethodName)) (argsL := [(.int (((i10.toUInt32 >>> ((8 : Int32) &&& 31).toUInt32).toInt32) &&& (3 : Int32))), (.long j14), (.long j16), (.long j25)]) (rest := []) (w := (.long (pk_f0 (((i10.toUInt32 >>> ((8 : Int32) &&& 31).toUInt32).toInt32) &&& (3 : Int32)) j14 j16 j25))) (B.w 50 rfl) (B.w 51 rfl) (B.w 52 rfl) (B.w 53 rfl) (by decide) (pk_met l Z a0 B.2.2.1 [] h (((i10.toUInt32 >>> ((8 : Int32) &&& 31).toUInt32).toInt32) &&& (3 : Int32)) j14 j16 j25) (by decide) (by decide) (by decide) (by decide) rfl (lenOf own_pd8 rfl) rfl (Nat.le_of_eq rfl) at_183 (pc' := 186) rfl (fun T11 X11 e11 => ?_)
  refine g_lstore X11 B at_186 (pc' := 188) rfl (Ls' := #[.val (.long j0), .second, .val (.long j2), .second, .val (.long j4), .second, .val (.long j6), .second, .val (.long j8), .second, .val (.int i10), .val (.long j11), .second, .val (.ref o13), .val (.long j14), .second, .val (.long j16), .second, .val (.int i18), .val (.int i19), .val (.int i20), .val (.long j21), .second, .val (.long j23), .second, .val (.long j25), .second, .val (.long j27), .second, .val (.long j29), .second, .val (.long (pk_f0 (((i10.toUInt32 >>> ((8 : Int32) &&& 31).toUInt32).toInt32) &&& (3 : Int32)) j14 j16 j25)), .second, .unset, .unset]) rfl ?_
  obtain ⟨j31, g_j31⟩ : ∃ z, z = (pk_f0 (((i10.toUInt32 >>> ((8 : Int32) &&& 31).toUInt32).toInt32) &&& (3 : Int32)) j14 j16 j25) := ⟨_, rfl⟩
  rw [← g_j31]
  have rj31 : own_rg j11 j31 := by rw [g_j31]; exact own_pk hra hrb r25
  obtain ⟨k2, hk2, gk2⟩ := own_nat rj31
  refine g_iload X11 B at_188 (pc' := 190) rfl (v := i20) rfl ?_
  refine g_newA X11 B (aty := .long) n 3 (B.w 20 rfl) e11 hi20 hn3 (by decide) at_190 (pc' := 192) rfl (by decide) (by decide) (fun T12 h12 o12 q12 X12 e12 E12 A12 => ?_)
  have ne_o13_o12 : o13 ≠ o12 := fun q => absurd (hE.lt) (by rw [q, q12]; exact Nat.lt_irrefl _)
  have ne_wa_o12 : wa ≠ o12 := fun q => absurd (hA.lt) (by rw [q, q12]; exact Nat.lt_irrefl _)
  have G_o12 : n0 ≤ o12 := by rw [q12]; exact Zs
  have E_o13_12 := hE.ext E12
  have F_o13_size_12 := hS.ext E12
  have F_o13_words_12 := hw.ext E12
  have F_o13_cardinality_12 := hC.ext E12
  have A_wa_12 := hA.ext E12
  have Zs_12 := Nat.le_trans Zs E12.1
  have A_o12 : Ax Z h12 o12 .long n (fun _ => (.long (0 : Int64))) := A12
  refine g_astore X12 B at_192 (pc' := 194) rfl rfl (Ls' := #[.val (.long j0), .second, .val (.long j2), .second, .val (.long j4), .second, .val (.long j6), .second, .val (.long j8), .second, .val (.int i10), .val (.long j11), .second, .val (.ref o13), .val (.long j14), .second, .val (.long j16), .second, .val (.int i18), .val (.int i19), .val (.int i20), .val (.long j21), .second, .val (.long j23), .second, .val (.long j25), .second, .val (.long j27), .second, .val (.long j29), .second, .val (.long j31), .second, .val (.ref o12), .unset]) rfl ?_
  refine g_iload X12 B at_194 (pc' := 196) rfl (v := i20) rfl ?_
  refine g_if_le X12 B at_196 (pcT := 205) (pcF := 199) (by decide) rfl rfl (fun c196_0 => ?_) (fun c196_0 => ?_)
  · have hg0 : 0 < n := by rw [Int32.lt_iff_toInt_lt, own_k0] at c196_0; omega
    refine g_aload X12 B at_199 (pc' := 201) rfl (v := (.ref o12)) rfl rfl ?_
    refine g_iconst X12 B at_201 (pc' := 202) rfl (v := (0 : Int32)) (by decide) ?_
    refine g_lload X12 B at_202 (pc' := 204) rfl (v := j27) rfl ?_
    refine g_lastore X12 B 0 e12 A_o12 (by decide) (by omega) at_204 (pc' := 205) rfl (fun T13 h13 X13 e13 W13 => ?_)
    have N13 := Fr.snoc X13 N G_o12
    have E_o13_13 := E_o13_12.wr W13
    have F_o13_size_13 := F_o13_size_12.other W13 (Or.inl ne_o13_o12)
    have F_o13_words_13 := F_o13_words_12.other W13 (Or.inl ne_o13_o12)
    have F_o13_cardinality_13 := F_o13_cardinality_12.other W13 (Or.inl ne_o13_o12)
    have A_wa_13 := A_wa_12.other W13 ne_wa_o12
    have A_o12_13 := A_o12.set W13
    have Zs_13 := Nat.le_trans Zs_12 (Keep.of_wr W13).1
    refine g_iload X13 B at_205 (pc' := 207) rfl (v := i20) rfl ?_
    refine g_iconst X13 B at_207 (pc' := 208) rfl (v := (1 : Int32)) (by decide) ?_
    refine g_icmp_le X13 B at_208 (pcT := 217) (pcF := 211) (by decide) rfl rfl (fun c208_1 => ?_) (fun c208_1 => ?_)
    · have hg1 : 1 < n := by rw [Int32.lt_iff_toInt_lt, own_k1] at c208_1; omega
      refine g_aload X13 B at_211 (pc' := 213) rfl (v := (.ref o12)) rfl rfl ?_
      refine g_iconst X13 B at_213 (pc' := 214) rfl (v := (1 : Int32)) (by decide) ?_
      refine g_lload X13 B at_214 (pc' := 216) rfl (v := j29) rfl ?_
      refine g_lastore X13 B 1 e13 A_o12_13 (by decide) (by omega) at_216 (pc' := 217) rfl (fun T14 h14 X14 e14 W14 => ?_)
      have N14 := Fr.snoc X14 N13 G_o12
      have E_o13_14 := E_o13_13.wr W14
      have F_o13_size_14 := F_o13_size_13.other W14 (Or.inl ne_o13_o12)
      have F_o13_words_14 := F_o13_words_13.other W14 (Or.inl ne_o13_o12)
      have F_o13_cardinality_14 := F_o13_cardinality_13.other W14 (Or.inl ne_o13_o12)
      have A_wa_14 := A_wa_13.other W14 ne_wa_o12
      have A_o12_14 := A_o12_13.set W14
      have Zs_14 := Nat.le_trans Zs_13 (Keep.of_wr W14).1
      refine g_iload X14 B at_217 (pc' := 219) rfl (v := i20) rfl ?_
      refine g_iconst X14 B at_219 (pc' := 220) rfl (v := (2 : Int32)) (by decide) ?_
      refine g_icmp_le X14 B at_220 (pcT := 229) (pcF := 223) (by decide) rfl rfl (fun c220_2 => ?_) (fun c220_2 => ?_)
      · have hg2 : 2 < n := by rw [Int32.lt_iff_toInt_lt, own_k2] at c220_2; omega
        refine g_aload X14 B at_223 (pc' := 225) rfl (v := (.ref o12)) rfl rfl ?_
        refine g_iconst X14 B at_225 (pc' := 226) rfl (v := (2 : Int32)) (by decide) ?_
        refine g_lload X14 B at_226 (pc' := 228) rfl (v := j31) rfl ?_
        refine g_lastore X14 B 2 e14 A_o12_14 (by decide) (by omega) at_228 (pc' := 229) rfl (fun T15 h15 X15 e15 W15 => ?_)
        have N15 := Fr.snoc X15 N14 G_o12
        have E_o13_15 := E_o13_14.wr W15
        have F_o13_size_15 := F_o13_size_14.other W15 (Or.inl ne_o13_o12)
        have F_o13_words_15 := F_o13_words_14.other W15 (Or.inl ne_o13_o12)
        have F_o13_cardinality_15 := F_o13_cardinality_14.other W15 (Or.inl ne_o13_o12)
        have A_wa_15 := A_wa_14.other W15 ne_wa_o12
        have A_o12_15 := A_o12_14.set W15
        have Zs_15 := Nat.le_trans Zs_14 (Keep.of_wr W15).1
        have hPx := A_o12_15.eqw (w' := fun j => .long (own_g3 j27 j29 j31 j)) (fun j hj => by have q : j = 0 ∨ j = 1 ∨ j = 2 := (by omega); rcases q with rfl | rfl | rfl <;> rfl)
        exact law_s229 X15 B e15 n0 Zs_15 N15 (j0) (j2) (j4) (j6) (j8) (i10) (j11) (o13) (j14) (j16) (i18) (i19) (i20) (j21) (j23) (j25) (j27) (j29) (j31) (o12) wa cd nw f ka kb n k0 k1 k2 E_o13_15 F_o13_size_15 F_o13_words_15 F_o13_cardinality_15 A_wa_15 now g13 gw hz1 hz2 hnw hra hrb hka hkb hi20 hn3 hPx (own_hg hnw hz2 hk0 hk1 hk2 gk0 gk1 gk2) hk0 hk1 hk2 hB
      · have hl2 : n ≤ 2 := by rw [Int32.lt_iff_toInt_lt, own_k2] at c220_2; omega
        have hPx := A_o12_14.eqw (w' := fun j => .long (own_g3 j27 j29 j31 j)) (fun j hj => by have q : j = 0 ∨ j = 1 := (by omega); rcases q with rfl | rfl <;> rfl)
        exact law_s229 X14 B e14 n0 Zs_14 N14 (j0) (j2) (j4) (j6) (j8) (i10) (j11) (o13) (j14) (j16) (i18) (i19) (i20) (j21) (j23) (j25) (j27) (j29) (j31) (o12) wa cd nw f ka kb n k0 k1 k2 E_o13_14 F_o13_size_14 F_o13_words_14 F_o13_cardinality_14 A_wa_14 now g13 gw hz1 hz2 hnw hra hrb hka hkb hi20 hn3 hPx (own_hg hnw hz2 hk0 hk1 hk2 gk0 gk1 gk2) hk0 hk1 hk2 hB
    · have hl1 : n ≤ 1 := by rw [Int32.lt_iff_toInt_lt, own_k1] at c208_1; omega
      refine g_iload X13 B at_217 (pc' := 219) rfl (v := i20) rfl ?_
      refine g_iconst X13 B at_219 (pc' := 220) rfl (v := (2 : Int32)) (by decide) ?_
      refine g_icmp_le X13 B at_220 (pcT := 229) (pcF := 223) (by decide) rfl rfl (fun c220_2 => ?_) (fun c220_2 => ?_)
      · exfalso; simp only [Int32.lt_iff_toInt_lt, own_k2] at c220_2; omega
      · have hl2 : n ≤ 2 := by rw [Int32.lt_iff_toInt_lt, own_k2] at c220_2; omega
        have hPx := A_o12_13.eqw (w' := fun j => .long (own_g3 j27 j29 j31 j)) (fun j hj => by have q : j = 0 := (by omega); subst q; rfl)
        exact law_s229 X13 B e13 n0 Zs_13 N13 (j0) (j2) (j4) (j6) (j8) (i10) (j11) (o13) (j14) (j16) (i18) (i19) (i20) (j21) (j23) (j25) (j27) (j29) (j31) (o12) wa cd nw f ka kb n k0 k1 k2 E_o13_13 F_o13_size_13 F_o13_words_13 F_o13_cardinality_13 A_wa_13 now g13 gw hz1 hz2 hnw hra hrb hka hkb hi20 hn3 hPx (own_hg hnw hz2 hk0 hk1 hk2 gk0 gk1 gk2) hk0 hk1 hk2 hB
  · have hl0 : n ≤ 0 := by rw [Int32.lt_iff_toInt_lt, own_k0] at c196_0; omega
    refine g_iload X12 B at_205 (pc' := 207) rfl (v := i20) rfl ?_
    refine g_iconst X12 B at_207 (pc' := 208) rfl (v := (1 : Int32)) (by decide) ?_
    refine g_icmp_le X12 B at_208 (pcT := 217) (pcF := 211) (by decide) rfl rfl (fun c208_1 => ?_) (fun c208_1 => ?_)
    · exfalso; simp only [Int32.lt_iff_toInt_lt, own_k1] at c208_1; omega
    · have hl1 : n ≤ 1 := by rw [Int32.lt_iff_toInt_lt, own_k1] at c208_1; omega
      refine g_iload X12 B at_217 (pc' := 219) rfl (v := i20) rfl ?_
      refine g_iconst X12 B at_219 (pc' := 220) rfl (v := (2 : Int32)) (by decide) ?_
      refine g_icmp_le X12 B at_220 (pcT := 229) (pcF := 223) (by decide) rfl rfl (fun c220_2 => ?_) (fun c220_2 => ?_)
      · exfalso; simp only [Int32.lt_iff_toInt_lt, own_k2] at c220_2; omega
      · have hl2 : n ≤ 2 := by rw [Int32.lt_iff_toInt_lt, own_k2] at c220_2; omega
        have hPx := A_o12.eqw (w' := fun j => .long (own_g3 j27 j29 j31 j)) (fun j hj => by have q : False := (by omega); exact q.elim)
        exact law_s229 X12 B e12 n0 Zs_12 N (j0) (j2) (j4) (j6) (j8) (i10) (j11) (o13) (j14) (j16) (i18) (i19) (i20) (j21) (j23) (j25) (j27) (j29) (j31) (o12) wa cd nw f ka kb n k0 k1 k2 E_o13_12 F_o13_size_12 F_o13_words_12 F_o13_cardinality_12 A_wa_12 now g13 gw hz1 hz2 hnw hra hrb hka hkb hi20 hn3 hPx (own_hg hnw hz2 hk0 hk1 hk2 gk0 gk1 gk2) hk0 hk1 hk2 hB
set_option maxRecDepth 65536 in
set_option maxHeartbeats 40000000 in
theorem law_s82 {p : Program} {l : Launch} {e : Env} {s : State} {m : MethodId} {args : Array Value} {below : List Frame} {meth : Method} {c : Code} {T : State} {Z : State} {a0 : Array Value} {h : Heap} {locs : List Loc} (X : Stand p l e room_1 s m args below meth c T locs 2 19) (B : Bdy p s m meth c Z a0 "com/example/vouch/vouch/BitArrayAllSetPinLaw" "law" code 35 (some .boolean) tables_1) (eT : T.heap = h) (n0 : Nat) (Zs : n0 ≤ h.size) (N : Fr n0 locs) (j0 : Int64) (j2 : Int64) (j4 : Int64) (j6 : Int64) (j8 : Int64) (i10 : Int32) (j11 : Int64) (o13 : Addr) (j14 : Int64) (j16 : Int64) (i18 : Int32) (i19 : Int32) (wa : Addr) (cd : Int64) (nw : Nat) (f : Nat → Int64) (ka : Nat) (kb : Nat) (hE : Exa Z h o13 "com/example/vouch/vouch/BitArray") (hS : Fld Z h o13 "com/example/vouch/vouch/BitArray" "size" "J" (.long j11)) (hw : Fld Z h o13 "com/example/vouch/vouch/BitArray" "words" "[J" (.ref wa)) (hC : Fld Z h o13 "com/example/vouch/vouch/BitArray" "cardinality" "J" (.long cd)) (hA : Ax Z h wa .long nw (fun j => .long (f j))) (now : o13 ≠ wa) (g13 : n0 ≤ o13) (gw : n0 ≤ wa) (hz1 : 1 ≤ j11.toInt) (hz2 : j11.toInt ≤ 1024) (hnw : ∀ k : Nat, (k : Int) < j11.toInt → k / 64 < nw) (hra : own_rg j11 j14) (hrb : own_rg j11 j16) (hka : j14.toInt = (ka : Int)) (hkb : j16.toInt = (kb : Int)) (hB : ∀ q, own_bit f q = (!decide (i18 = 0) && decide (q = ka))) :
    Go p e below s room_1.cells room_1.slots (fun v _ L => v = some (.int 1) ∧ Fr n0 L) (T.setTop (mkF m 82 #[.val (.long j0), .second, .val (.long j2), .second, .val (.long j4), .second, .val (.long j6), .second, .val (.long j8), .second, .val (.int i10), .val (.long j11), .second, .val (.ref o13), .val (.long j14), .second, .val (.long j16), .second, .val (.int i18), .val (.int i19), .unset, .unset, .unset, .unset, .unset, .unset, .unset, .unset, .unset, .unset, .unset, .unset, .unset, .unset, .unset] [])) := by
  refine g_iload X B at_82 (pc' := 84) rfl (v := i19) rfl ?_
  refine g_if_eq X B at_84 (pcT := 95) (pcF := 87) (by decide) rfl rfl (fun c84_0 => ?_) (fun c84_0 => ?_)
  · exact law_s95 X B eT n0 Zs N (j0) (j2) (j4) (j6) (j8) (i10) (j11) (o13) (j14) (j16) (i18) (i19) wa cd nw f ka kb hE hS hw hC hA now g13 gw hz1 hz2 hnw hra hrb hka hkb (fun q => by rw [hB q, c84_0]; simp)
  · refine g_aload X B at_87 (pc' := 89) rfl (v := (.ref o13)) rfl rfl ?_
    refine g_lload X B at_89 (pc' := 91) rfl (v := j16) rfl ?_
    refine g_virtual X B eT 0 hE (y := (⟨"com/example/vouch/vouch/BitArray", "set", "(J)Z"⟩ : MethodName)) (argsL := [(.long j16)]) (rest := []) (a := o13) (B.w 24 rfl) (B.w 25 rfl) (B.w 27 rfl) (B.w 26 rfl) (B.w 3 rfl) (B.w 28 rfl) (by decide) (se_met l Z a0 B.2.2.1 [] h o13 j16 j11 wa cd nw f (kb / 64) n0 Zs hE hS hw hC g13 hA now gw (own_lt hrb).1 (own_lt hrb).2 (own_wi j16 kb hkb (by have := hrb.2; omega)) (hnw kb (by have := hrb.2; omega))) (by decide) (by decide) (by decide) (by decide) rfl (lenOf own_pd9 rfl) rfl (Nat.le_of_eq rfl) at_91 (pc' := 94) rfl (fun T16 v16 L16 X16 Q16 => ?_)
    obtain ⟨b16, c16, rfl, Nq16, Kq16, Fs16, Fw16, Fk16, Aw16⟩ := Q16
    have N16 := Fr.app N Nq16
    have E_o13_16 := hE.keep Kq16
    have Zs_16 := Nat.le_trans Zs Kq16.1
    show Go p e below s _ _ _ (T16.setTop (mkF m 94 #[.val (.long j0), .second, .val (.long j2), .second, .val (.long j4), .second, .val (.long j6), .second, .val (.long j8), .second, .val (.int i10), .val (.long j11), .second, .val (.ref o13), .val (.long j14), .second, .val (.long j16), .second, .val (.int i18), .val (.int i19), .unset, .unset, .unset, .unset, .unset, .unset, .unset, .unset, .unset, .unset, .unset, .unset, .unset, .unset, .unset] [(.int b16)]))
    refine g_pop X16 B at_94 (pc' := 95) rfl rfl ?_
    exact law_s95 X16 B rfl n0 Zs_16 N16 (j0) (j2) (j4) (j6) (j8) (i10) (j11) (o13) (j14) (j16) (i18) (i19) wa c16 nw (own_upd f (kb / 64) (bm_f0 j16)) ka kb E_o13_16 Fs16 Fw16 Fk16 Aw16 now g13 gw hz1 hz2 hnw hra hrb hka hkb (fun q => by rw [own_setbit f j16 kb hkb, hB q]; simp [c84_0])
set_option maxRecDepth 65536 in
set_option maxHeartbeats 40000000 in
theorem law_s69 {p : Program} {l : Launch} {e : Env} {s : State} {m : MethodId} {args : Array Value} {below : List Frame} {meth : Method} {c : Code} {T : State} {Z : State} {a0 : Array Value} {h : Heap} {locs : List Loc} (X : Stand p l e room_1 s m args below meth c T locs 2 19) (B : Bdy p s m meth c Z a0 "com/example/vouch/vouch/BitArrayAllSetPinLaw" "law" code 35 (some .boolean) tables_1) (eT : T.heap = h) (n0 : Nat) (Zs : n0 ≤ h.size) (N : Fr n0 locs) (j0 : Int64) (j2 : Int64) (j4 : Int64) (j6 : Int64) (j8 : Int64) (i10 : Int32) (j11 : Int64) (o13 : Addr) (j14 : Int64) (j16 : Int64) (i18 : Int32) (i19 : Int32) (wa : Addr) (cd : Int64) (nw : Nat) (f : Nat → Int64) (ka : Nat) (kb : Nat) (hE : Exa Z h o13 "com/example/vouch/vouch/BitArray") (hS : Fld Z h o13 "com/example/vouch/vouch/BitArray" "size" "J" (.long j11)) (hw : Fld Z h o13 "com/example/vouch/vouch/BitArray" "words" "[J" (.ref wa)) (hC : Fld Z h o13 "com/example/vouch/vouch/BitArray" "cardinality" "J" (.long cd)) (hA : Ax Z h wa .long nw (fun j => .long (f j))) (now : o13 ≠ wa) (g13 : n0 ≤ o13) (gw : n0 ≤ wa) (hz1 : 1 ≤ j11.toInt) (hz2 : j11.toInt ≤ 1024) (hnw : ∀ k : Nat, (k : Int) < j11.toInt → k / 64 < nw) (hra : own_rg j11 j14) (hrb : own_rg j11 j16) (hka : j14.toInt = (ka : Int)) (hkb : j16.toInt = (kb : Int)) (hB : ∀ q, own_bit f q = false) :
    Go p e below s room_1.cells room_1.slots (fun v _ L => v = some (.int 1) ∧ Fr n0 L) (T.setTop (mkF m 69 #[.val (.long j0), .second, .val (.long j2), .second, .val (.long j4), .second, .val (.long j6), .second, .val (.long j8), .second, .val (.int i10), .val (.long j11), .second, .val (.ref o13), .val (.long j14), .second, .val (.long j16), .second, .val (.int i18), .val (.int i19), .unset, .unset, .unset, .unset, .unset, .unset, .unset, .unset, .unset, .unset, .unset, .unset, .unset, .unset, .unset] [])) := by
  refine g_iload X B at_69 (pc' := 71) rfl (v := i18) rfl ?_
  refine g_if_eq X B at_71 (pcT := 82) (pcF := 74) (by decide) rfl rfl (fun c71_0 => ?_) (fun c71_0 => ?_)
  · exact law_s82 X B eT n0 Zs N (j0) (j2) (j4) (j6) (j8) (i10) (j11) (o13) (j14) (j16) (i18) (i19) wa cd nw f ka kb hE hS hw hC hA now g13 gw hz1 hz2 hnw hra hrb hka hkb (fun q => by rw [hB q, c71_0]; simp)
  · refine g_aload X B at_74 (pc' := 76) rfl (v := (.ref o13)) rfl rfl ?_
    refine g_lload X B at_76 (pc' := 78) rfl (v := j14) rfl ?_
    refine g_virtual X B eT 0 hE (y := (⟨"com/example/vouch/vouch/BitArray", "set", "(J)Z"⟩ : MethodName)) (argsL := [(.long j14)]) (rest := []) (a := o13) (B.w 24 rfl) (B.w 25 rfl) (B.w 27 rfl) (B.w 26 rfl) (B.w 3 rfl) (B.w 28 rfl) (by decide) (se_met l Z a0 B.2.2.1 [] h o13 j14 j11 wa cd nw f (ka / 64) n0 Zs hE hS hw hC g13 hA now gw (own_lt hra).1 (own_lt hra).2 (own_wi j14 ka hka (by have := hra.2; omega)) (hnw ka (by have := hra.2; omega))) (by decide) (by decide) (by decide) (by decide) rfl (lenOf own_pd9 rfl) rfl (Nat.le_of_eq rfl) at_78 (pc' := 81) rfl (fun T17 v17 L17 X17 Q17 => ?_)
    obtain ⟨b17, c17, rfl, Nq17, Kq17, Fs17, Fw17, Fk17, Aw17⟩ := Q17
    have N17 := Fr.app N Nq17
    have E_o13_17 := hE.keep Kq17
    have Zs_17 := Nat.le_trans Zs Kq17.1
    show Go p e below s _ _ _ (T17.setTop (mkF m 81 #[.val (.long j0), .second, .val (.long j2), .second, .val (.long j4), .second, .val (.long j6), .second, .val (.long j8), .second, .val (.int i10), .val (.long j11), .second, .val (.ref o13), .val (.long j14), .second, .val (.long j16), .second, .val (.int i18), .val (.int i19), .unset, .unset, .unset, .unset, .unset, .unset, .unset, .unset, .unset, .unset, .unset, .unset, .unset, .unset, .unset] [(.int b17)]))
    refine g_pop X17 B at_81 (pc' := 82) rfl rfl ?_
    exact law_s82 X17 B rfl n0 Zs_17 N17 (j0) (j2) (j4) (j6) (j8) (i10) (j11) (o13) (j14) (j16) (i18) (i19) wa c17 nw (own_upd f (ka / 64) (bm_f0 j14)) ka kb E_o13_17 Fs17 Fw17 Fk17 Aw17 now g13 gw hz1 hz2 hnw hra hrb hka hkb (fun q => by rw [own_setbit f j14 ka hka, hB q]; simp [c71_0])
set_option maxRecDepth 65536 in
set_option maxHeartbeats 40000000 in
theorem law_go {p : Program} {l : Launch} {e : Env} {s : State} {m : MethodId} {args : Array Value} {below : List Frame} {meth : Method} {c : Code} {T : State} {Z : State} {a0 : Array Value} {h : Heap} (X : Stand p l e room_1 s m args below meth c T [] 0 0) (B : Bdy p s m meth c Z a0 "com/example/vouch/vouch/BitArrayAllSetPinLaw" "law" code 35 (some .boolean) tables_1) (eT : T.heap = h) (n0 : Nat) (Zs : n0 ≤ h.size) (j0 : Int64) (j2 : Int64) (j4 : Int64) (j6 : Int64) (j8 : Int64) (i10 : Int32)   :
    Go p e below s room_1.cells room_1.slots (fun v _ L => v = some (.int 1) ∧ Fr n0 L) (T.setTop (mkF m 0 #[.val (.long j0), .second, .val (.long j2), .second, .val (.long j4), .second, .val (.long j6), .second, .val (.long j8), .second, .val (.int i10), .unset, .unset, .unset, .unset, .unset, .unset, .unset, .unset, .unset, .unset, .unset, .unset, .unset, .unset, .unset, .unset, .unset, .unset, .unset, .unset, .unset, .unset, .unset, .unset] [])) := by
  have N := Fr.nil n0
  refine g_lconst X B at_0 (pc' := 1) rfl (v := (1 : Int64)) (by decide) ?_
  refine g_lloadN X B at_1 (pc' := 2) rfl (v := j0) rfl ?_
  refine g_ldc2 X B (B.w 0 rfl) at_2 (pc' := 5) rfl ?_
  refine g_land X B at_5 (pc' := 6) rfl ?_
  refine g_ladd X B at_6 (pc' := 7) rfl ?_
  refine g_lstore X B at_7 (pc' := 9) rfl (Ls' := #[.val (.long j0), .second, .val (.long j2), .second, .val (.long j4), .second, .val (.long j6), .second, .val (.long j8), .second, .val (.int i10), .val (.long ((1 : Int64) + (j0 &&& (1023 : Int64)))), .second, .unset, .unset, .unset, .unset, .unset, .unset, .unset, .unset, .unset, .unset, .unset, .unset, .unset, .unset, .unset, .unset, .unset, .unset, .unset, .unset, .unset, .unset]) rfl ?_
  obtain ⟨j11, g_j11⟩ : ∃ z, z = ((1 : Int64) + (j0 &&& (1023 : Int64))) := ⟨_, rfl⟩
  rw [← g_j11]
  have hz1 : 1 ≤ j11.toInt := by rw [g_j11]; exact (own_zs j0).1
  have hz2 : j11.toInt ≤ 1024 := by rw [g_j11]; exact (own_zs j0).2
  obtain ⟨nw, hnw, hn16, hnx⟩ := own_wc j11 hz1 hz2
  have h1 : ¬ j11 < (1 : Int64) := by rw [Int64.lt_iff_toInt_lt, own_l1]; omega
  have h2 : ¬ (137438952896 : Int64) < j11 := by rw [Int64.lt_iff_toInt_lt, show (137438952896 : Int64).toInt = 137438952896 by decide]; omega
  refine g_new X B (B.w 1 rfl) (B.w 2 rfl) (B.w 3 rfl) eT at_9 (pc' := 12) rfl (by decide) (by decide) (fun T18 h18 o18 q18 X18 e18 E18 A18 D18 => ?_)
  have G_o18 : n0 ≤ o18 := by rw [q18]; exact Zs
  have Zs_18 := Nat.le_trans Zs E18.1
  have F_o18_size : Fld Z h18 o18 "com/example/vouch/vouch/BitArray" "size" "J" (.long (0 : Int64)) := D18 (Or.inr (B.w 15 rfl)) (ty := .long) (by decide)
  have F_o18_words : Fld Z h18 o18 "com/example/vouch/vouch/BitArray" "words" "[J" .null := D18 (Or.inr (B.w 22 rfl)) (ty := (.array .long)) (by decide)
  have F_o18_cardinality : Fld Z h18 o18 "com/example/vouch/vouch/BitArray" "cardinality" "J" (.long (0 : Int64)) := D18 (Or.inl (B.w 48 rfl)) (ty := .long) (by decide)
  refine g_dup X18 B at_12 (pc' := 13) rfl rfl ?_
  refine g_lload X18 B at_13 (pc' := 15) rfl (v := j11) rfl ?_
  refine g_special X18 B e18 1 (y := (⟨"com/example/vouch/vouch/BitArray", "<init>", "(J)V"⟩ : MethodName)) (argsL := [(.long j11)]) (rest := [(.ref o18)]) (a := o18) rfl (B.w 4 rfl) (B.w 5 rfl) (B.w 3 rfl) (B.w 6 rfl) (by decide) (ini_met l Z a0 B.2.2.1 [] h18 o18 j11 nw n0 Zs_18 h1 h2 hnw hn16 A18 F_o18_size F_o18_words F_o18_cardinality G_o18) (by decide) (by decide) (by decide) (by decide) rfl (lenOf own_pd1 rfl) rfl (Nat.le_of_eq rfl) at_15 (pc' := 18) rfl (fun T19 v19 L19 X19 Q19 => ?_)
  obtain ⟨wa, rfl, Nq19, Kq19, Fs19, Fw19, Fk19, Aw19, now, gw⟩ := Q19
  have N19 := Fr.app N Nq19
  have E_o18_19 := A18.keep Kq19
  have Zs_19 := Nat.le_trans Zs_18 Kq19.1
  show Go p e below s _ _ _ (T19.setTop (mkF m 18 #[.val (.long j0), .second, .val (.long j2), .second, .val (.long j4), .second, .val (.long j6), .second, .val (.long j8), .second, .val (.int i10), .val (.long j11), .second, .unset, .unset, .unset, .unset, .unset, .unset, .unset, .unset, .unset, .unset, .unset, .unset, .unset, .unset, .unset, .unset, .unset, .unset, .unset, .unset, .unset, .unset] [(.ref o18)]))
  refine g_astore X19 B at_18 (pc' := 20) rfl rfl (Ls' := #[.val (.long j0), .second, .val (.long j2), .second, .val (.long j4), .second, .val (.long j6), .second, .val (.long j8), .second, .val (.int i10), .val (.long j11), .second, .val (.ref o18), .unset, .unset, .unset, .unset, .unset, .unset, .unset, .unset, .unset, .unset, .unset, .unset, .unset, .unset, .unset, .unset, .unset, .unset, .unset, .unset, .unset]) rfl ?_
  refine g_lloadN X19 B at_20 (pc' := 21) rfl (v := j2) rfl ?_
  refine g_ldc2 X19 B (B.w 23 rfl) at_21 (pc' := 24) rfl ?_
  refine g_land X19 B at_24 (pc' := 25) rfl ?_
  refine g_lload X19 B at_25 (pc' := 27) rfl (v := j11) rfl ?_
  refine g_lrem X19 B (own_z0 hz1) at_27 (pc' := 28) rfl ?_
  refine g_lstore X19 B at_28 (pc' := 30) rfl (Ls' := #[.val (.long j0), .second, .val (.long j2), .second, .val (.long j4), .second, .val (.long j6), .second, .val (.long j8), .second, .val (.int i10), .val (.long j11), .second, .val (.ref o18), .val (.long ((j2 &&& (9223372036854775807 : Int64)) % j11)), .second, .unset, .unset, .unset, .unset, .unset, .unset, .unset, .unset, .unset, .unset, .unset, .unset, .unset, .unset, .unset, .unset, .unset, .unset, .unset]) rfl ?_
  obtain ⟨j14, g_j14⟩ : ∃ z, z = ((j2 &&& (9223372036854775807 : Int64)) % j11) := ⟨_, rfl⟩
  rw [← g_j14]
  have hra : own_rg j11 j14 := by rw [g_j14]; exact own_rem _ _ (own_msk _) hz1
  obtain ⟨ka, hka, gka⟩ := own_nat hra
  refine g_lload X19 B at_30 (pc' := 32) rfl (v := j4) rfl ?_
  refine g_ldc2 X19 B (B.w 23 rfl) at_32 (pc' := 35) rfl ?_
  refine g_land X19 B at_35 (pc' := 36) rfl ?_
  refine g_lload X19 B at_36 (pc' := 38) rfl (v := j11) rfl ?_
  refine g_lrem X19 B (own_z0 hz1) at_38 (pc' := 39) rfl ?_
  refine g_lstore X19 B at_39 (pc' := 41) rfl (Ls' := #[.val (.long j0), .second, .val (.long j2), .second, .val (.long j4), .second, .val (.long j6), .second, .val (.long j8), .second, .val (.int i10), .val (.long j11), .second, .val (.ref o18), .val (.long j14), .second, .val (.long ((j4 &&& (9223372036854775807 : Int64)) % j11)), .second, .unset, .unset, .unset, .unset, .unset, .unset, .unset, .unset, .unset, .unset, .unset, .unset, .unset, .unset, .unset, .unset, .unset]) rfl ?_
  obtain ⟨j16, g_j16⟩ : ∃ z, z = ((j4 &&& (9223372036854775807 : Int64)) % j11) := ⟨_, rfl⟩
  rw [← g_j16]
  have hrb : own_rg j11 j16 := by rw [g_j16]; exact own_rem _ _ (own_msk _) hz1
  obtain ⟨kb, hkb, gkb⟩ := own_nat hrb
  refine g_iload X19 B at_41 (pc' := 43) rfl (v := i10) rfl ?_
  refine g_iconst X19 B at_43 (pc' := 44) rfl (v := (1 : Int32)) (by decide) ?_
  refine g_iand X19 B at_44 (pc' := 45) rfl ?_
  refine g_if_eq X19 B at_45 (pcT := 52) (pcF := 48) (by decide) rfl rfl (fun c45_0 => ?_) (fun c45_0 => ?_)
  · refine g_iconst X19 B at_52 (pc' := 53) rfl (v := (0 : Int32)) (by decide) ?_
    refine g_istore X19 B at_53 (pc' := 55) rfl (Ls' := #[.val (.long j0), .second, .val (.long j2), .second, .val (.long j4), .second, .val (.long j6), .second, .val (.long j8), .second, .val (.int i10), .val (.long j11), .second, .val (.ref o18), .val (.long j14), .second, .val (.long j16), .second, .val (.int (0 : Int32)), .unset, .unset, .unset, .unset, .unset, .unset, .unset, .unset, .unset, .unset, .unset, .unset, .unset, .unset, .unset, .unset]) rfl ?_
    refine g_iload X19 B at_55 (pc' := 57) rfl (v := i10) rfl ?_
    refine g_iconst X19 B at_57 (pc' := 58) rfl (v := (2 : Int32)) (by decide) ?_
    refine g_iand X19 B at_58 (pc' := 59) rfl ?_
    refine g_if_eq X19 B at_59 (pcT := 66) (pcF := 62) (by decide) rfl rfl (fun c59_1 => ?_) (fun c59_1 => ?_)
    · refine g_iconst X19 B at_66 (pc' := 67) rfl (v := (0 : Int32)) (by decide) ?_
      refine g_istore X19 B at_67 (pc' := 69) rfl (Ls' := #[.val (.long j0), .second, .val (.long j2), .second, .val (.long j4), .second, .val (.long j6), .second, .val (.long j8), .second, .val (.int i10), .val (.long j11), .second, .val (.ref o18), .val (.long j14), .second, .val (.long j16), .second, .val (.int (0 : Int32)), .val (.int (0 : Int32)), .unset, .unset, .unset, .unset, .unset, .unset, .unset, .unset, .unset, .unset, .unset, .unset, .unset, .unset, .unset]) rfl ?_
      exact law_s69 X19 B rfl n0 Zs_19 N19 (j0) (j2) (j4) (j6) (j8) (i10) (j11) (o18) (j14) (j16) ((0 : Int32)) ((0 : Int32)) wa _ nw _ ka kb E_o18_19 Fs19 Fw19 Fk19 Aw19 now G_o18 gw hz1 hz2 hnx hra hrb hka hkb own_zero
    · refine g_iconst X19 B at_62 (pc' := 63) rfl (v := (1 : Int32)) (by decide) ?_
      refine g_goto X19 B at_63 (pc' := 67) (by decide) rfl ?_
      refine g_istore X19 B at_67 (pc' := 69) rfl (Ls' := #[.val (.long j0), .second, .val (.long j2), .second, .val (.long j4), .second, .val (.long j6), .second, .val (.long j8), .second, .val (.int i10), .val (.long j11), .second, .val (.ref o18), .val (.long j14), .second, .val (.long j16), .second, .val (.int (0 : Int32)), .val (.int (1 : Int32)), .unset, .unset, .unset, .unset, .unset, .unset, .unset, .unset, .unset, .unset, .unset, .unset, .unset, .unset, .unset]) rfl ?_
      exact law_s69 X19 B rfl n0 Zs_19 N19 (j0) (j2) (j4) (j6) (j8) (i10) (j11) (o18) (j14) (j16) ((0 : Int32)) ((1 : Int32)) wa _ nw _ ka kb E_o18_19 Fs19 Fw19 Fk19 Aw19 now G_o18 gw hz1 hz2 hnx hra hrb hka hkb own_zero
  · refine g_iconst X19 B at_48 (pc' := 49) rfl (v := (1 : Int32)) (by decide) ?_
    refine g_goto X19 B at_49 (pc' := 53) (by decide) rfl ?_
    refine g_istore X19 B at_53 (pc' := 55) rfl (Ls' := #[.val (.long j0), .second, .val (.long j2), .second, .val (.long j4), .second, .val (.long j6), .second, .val (.long j8), .second, .val (.int i10), .val (.long j11), .second, .val (.ref o18), .val (.long j14), .second, .val (.long j16), .second, .val (.int (1 : Int32)), .unset, .unset, .unset, .unset, .unset, .unset, .unset, .unset, .unset, .unset, .unset, .unset, .unset, .unset, .unset, .unset]) rfl ?_
    refine g_iload X19 B at_55 (pc' := 57) rfl (v := i10) rfl ?_
    refine g_iconst X19 B at_57 (pc' := 58) rfl (v := (2 : Int32)) (by decide) ?_
    refine g_iand X19 B at_58 (pc' := 59) rfl ?_
    refine g_if_eq X19 B at_59 (pcT := 66) (pcF := 62) (by decide) rfl rfl (fun c59_1 => ?_) (fun c59_1 => ?_)
    · refine g_iconst X19 B at_66 (pc' := 67) rfl (v := (0 : Int32)) (by decide) ?_
      refine g_istore X19 B at_67 (pc' := 69) rfl (Ls' := #[.val (.long j0), .second, .val (.long j2), .second, .val (.long j4), .second, .val (.long j6), .second, .val (.long j8), .second, .val (.int i10), .val (.long j11), .second, .val (.ref o18), .val (.long j14), .second, .val (.long j16), .second, .val (.int (1 : Int32)), .val (.int (0 : Int32)), .unset, .unset, .unset, .unset, .unset, .unset, .unset, .unset, .unset, .unset, .unset, .unset, .unset, .unset, .unset]) rfl ?_
      exact law_s69 X19 B rfl n0 Zs_19 N19 (j0) (j2) (j4) (j6) (j8) (i10) (j11) (o18) (j14) (j16) ((1 : Int32)) ((0 : Int32)) wa _ nw _ ka kb E_o18_19 Fs19 Fw19 Fk19 Aw19 now G_o18 gw hz1 hz2 hnx hra hrb hka hkb own_zero
    · refine g_iconst X19 B at_62 (pc' := 63) rfl (v := (1 : Int32)) (by decide) ?_
      refine g_goto X19 B at_63 (pc' := 67) (by decide) rfl ?_
      refine g_istore X19 B at_67 (pc' := 69) rfl (Ls' := #[.val (.long j0), .second, .val (.long j2), .second, .val (.long j4), .second, .val (.long j6), .second, .val (.long j8), .second, .val (.int i10), .val (.long j11), .second, .val (.ref o18), .val (.long j14), .second, .val (.long j16), .second, .val (.int (1 : Int32)), .val (.int (1 : Int32)), .unset, .unset, .unset, .unset, .unset, .unset, .unset, .unset, .unset, .unset, .unset, .unset, .unset, .unset, .unset]) rfl ?_
      exact law_s69 X19 B rfl n0 Zs_19 N19 (j0) (j2) (j4) (j6) (j8) (i10) (j11) (o18) (j14) (j16) ((1 : Int32)) ((1 : Int32)) wa _ nw _ ka kb E_o18_19 Fs19 Fw19 Fk19 Aw19 now G_o18 gw hz1 hz2 hnx hra hrb hka hkb own_zero
theorem own_pn_law : plainFor (⟨"com/example/vouch/vouch/BitArrayAllSetPinLaw", "law", "(JJJJJI)Z"⟩ : MethodName) = true := plainFor_of_name (by first | (simp [plainName, overriddenIn]; done) | decide +kernel)
theorem own_ef_law (m : MethodId) (j0 : Int64) (j2 : Int64) (j4 : Int64) (j6 : Int64) (j8 : Int64) (i10 : Int32) : entryFrame m #[(.long j0), (.long j2), (.long j4), (.long j6), (.long j8), (.int i10)] 35 = (mkF m 0 #[.val (.long j0), .second, .val (.long j2), .second, .val (.long j4), .second, .val (.long j6), .second, .val (.long j8), .second, .val (.int i10), .unset, .unset, .unset, .unset, .unset, .unset, .unset, .unset, .unset, .unset, .unset, .unset, .unset, .unset, .unset, .unset, .unset, .unset, .unset, .unset, .unset, .unset, .unset, .unset] []) := by first | (simp [entryFrame, mkF, argsToLocals, Value.category]; done) | rfl
theorem own_rm (l : Launch) (Z : State) (a0 : Array Value) (hw : ∀ d ∈ tables_1, d.before a0 Z = true) (ws : List Jvm.Cond) (h : Heap) (n0 : Nat) (Zs : n0 ≤ h.size) (j0 : Int64) (j2 : Int64) (j4 : Int64) (j6 : Int64) (j8 : Int64) (i10 : Int32)   :
    Met l Z x code maxLocals ret ws room_1 #[(.long j0), (.long j2), (.long j4), (.long j6), (.long j8), (.int i10)] h (fun v _ L => v = some (.int 1) ∧ Fr n0 L) :=
  met_of own_pn_law hw fun p e s m below meth c T X B eT => Go.top (own_ef_law m j0 j2 j4 j6 j8 i10) (law_go X B eT n0 Zs j0 j2 j4 j6 j8 i10 )
set_option maxRecDepth 65536 in
set_option maxHeartbeats 40000000 in
theorem comes_1 {Post : Tables → Env → Array Value → State → Outcome → State → Prop} (hpost : ∀ tb e args s v u, (limb_1_1.after args s (.returned v) u = true ∧ limb_1_2.after args s (.returned v) u = true ∧ True) → FrameEnd s (.returned v) u (Jvm.fieldLocs frame_1_writes args s ++ Jvm.arrayLocs frame_1_arrays args s ++ Jvm.staticLocs frame_1_statics s) 16 128 → Post tb e args s (.returned v) u) :
    ArmFor flags0 classFile x code maxLocals ret World_1 tables_1 room_1 Calls_1 rest_1 Pre_1 Post := by
  intro l hfl _ _ p e ha hc hk s m args below hf hA hF happ hP
  obtain ⟨hcalls, hrest, hpre⟩ := hP
  obtain ⟨-, -, -, hnamed, -, -, -, hat⟩ := (Spec.applies_iff hf).mp happ
  obtain ⟨hg, hn⟩ := and_e (Cond.before_iff.mp (show (Jvm.Cond.and given_1 narrow_1).before args s = true from hpre))
  obtain ⟨h1, g1⟩ := and_e hg
  obtain ⟨k0, g2⟩ := and_e g1
  obtain ⟨k1, g3⟩ := and_e g2
  obtain ⟨k2, g4⟩ := and_e g3
  obtain ⟨k3, g5⟩ := and_e g4
  obtain ⟨k4, g6⟩ := and_e g5
  obtain ⟨w0, w1, w2, w3, w4, w5, rfl⟩ : ∃ w0 w1 w2 w3 w4 w5 : Value, args = #[w0, w1, w2, w3, w4, w5] := by
    have hs : args.size = 6 := by simpa [Cond.value, given_1] using h1
    obtain ⟨L⟩ := args
    match L, hs with
    | [w0, w1, w2, w3, w4, w5], _ => exact ⟨w0, w1, w2, w3, w4, w5, rfl⟩
  have hw := fun d (hd : d ∈ tables_1) => atoms_spec (ws := Jvm.Cond.code x code maxLocals ret :: tables_1) hat d (List.mem_cons_of_mem _ hd)
  obtain ⟨z0, q0⟩ := isL_v k0
  obtain rfl : w0 = (.long z0) := Option.some.inj q0
  obtain ⟨z1, q1⟩ := isL_v k1
  obtain rfl : w1 = (.long z1) := Option.some.inj q1
  obtain ⟨z2, q2⟩ := isL_v k2
  obtain rfl : w2 = (.long z2) := Option.some.inj q2
  obtain ⟨z3, q3⟩ := isL_v k3
  obtain rfl : w3 = (.long z3) := Option.some.inj q3
  obtain ⟨z4, q4⟩ := isL_v k4
  obtain rfl : w4 = (.long z4) := Option.some.inj q4
  obtain ⟨z5, q5⟩ := is_v g6
  obtain rfl : w5 = (.int z5) := Option.some.inj q5
  obtain ⟨n, o, h1, h2, h3, _, L, rfl, ⟨rfl, N⟩, hq⟩ := own_rm l s _ hw tables_1 s.heap s.heap.size (Nat.le_refl _) z0 z1 z2 z3 z4 z5  p e ha hc hk s m _ below hf ((Spec.applies_iff_loose hf).mp happ).1 ⟨rfl, State.Warmed39.refl s, rfl⟩ trivial
  refine ⟨n, _, h1, h2, h3, hpost _ _ _ _ _ _ ⟨Cond.after_iff.mpr rfl, Cond.after_iff.mpr (eq_i res_at (Term.int_eval (1)) rfl), trivial⟩ ⟨hq.1, hq.2.1, (hq.2.2.sift fun y hy => Or.inr (N y hy)).mono (by decide) (by decide)⟩⟩
theorem main_1_1 : Claimed_1_1 := comes_1 fun _ _ _ _ _ _ h hF => ⟨h.1, hF⟩
theorem main_1_2 : Claimed_1_2 := comes_1 fun _ _ _ _ _ _ h hF => ⟨h.2.1, hF⟩
end Jvm.Pilot.@@N@@
namespace Jvm.Pilot.@@N@@
open Jvm Jvm.ClassFile Sem Op Lib Jvm.Free Jvm.Stand Jvm.Pilot.@@N@@.Jvm.D
/-! MADE BY PROGRAM (witnessworld.py) out of the Statement's table words and the real class files: 13 classes; the members and pool entries that the words name. The judged class is class 1, her method 1. -/
namespace start1
open Jvm.ClassFile
def u (s : String) : CpInfo := .utf8 (stringToUtf16 s)
/-- a pool by its gaps: so many unusable entries, then the entry; so many at the end -/
def gap : Nat → List CpInfo → List CpInfo
  | 0, r => r
  | n + 1, r => .unusable :: gap n r
def poolList (es : List (Nat × CpInfo)) (last : Nat) : List CpInfo := es.foldr (fun e r => gap e.1 (e.2 :: r)) (gap last [])
def pool (es : List (Nat × CpInfo)) (last : Nat) : Array CpInfo := ⟨poolList es last⟩
def fileOf (pool : Array CpInfo) (this : Nat) (attrs : Array Attribute := #[]) (ms : Array MethodInfo := #[]) (fl : Nat := 33) (sup : Nat := 0) (ifs : Array Nat := #[]) (fds : Array FieldInfo := #[]) : ClassFile where
  minorVersion := 0
  majorVersion := 65
  constantPool := pool
  accessFlags := fl
  thisClass := this
  superClass := sup
  interfaces := ifs
  fields := fds
  methods := ms
  attributes := attrs
def plain (name : String) (sup : Option ClassId) : Class where
  name := name
  kind := .ordinary
  loader := none
  accessFlags := 33
  super := sup
  interfaces := #[]
  cf := none
  fields := #[]
  methods := #[]
  instanceTypes := #[]
  staticTypes := #[]
  resolved := #[]
  callSites := []
  init := .initialized
  statics := none
  mirror := none

def pool0 : Array CpInfo := pool [(5, u "<init>"), (0, u "()V"), (1, .class_ 10), (1, u "java/lang/Object")] 113

def k0c0 : Code := { maxStack := 0, maxLocals := 1, code := object_method_1_code, exceptionTable := #[], attributes := #[] }
def k0m0 : Method := { name := "<init>", desc := "()V", sig := { parameters := [], returnType := none }, accessFlags := 1, code := some k0c0 }
/-- java/lang/Object -/
def k0 : Class := { plain "java/lang/Object" none with
  accessFlags := 33
  interfaces := #[]
  cf := some (fileOf pool0 8 #[] #[{ accessFlags := 1, nameIndex := 5, descriptorIndex := 6, attributes := #[] }] 33 0 #[] #[])
  fields := #[]
  methods := #[k0m0]
  instanceTypes := #[]
  staticTypes := #[]
  resolved := Array.replicate 124 none
  statics := none }

def pool1 : Array CpInfo := pool [(2, .class_ 4), (1, u "java/lang/Object"), (0, u "<init>"), (0, u "()V"), (0, .long 1023), (1, .class_ 10), (0, u "com/example/vouch/vouch/BitArray"), (0, .methodref 9 12), (0, .nameAndType 5 13), (0, u "(J)V"), (2, .long 9223372036854775807), (1, .methodref 9 19), (0, .nameAndType 20 21), (0, u "set"), (0, u "(J)Z"), (0, .methodref 23 24), (0, .class_ 25), (0, .nameAndType 26 27), (0, u "com/example/vouch/vouch/BitArrayAllSetPinLaw"), (0, u "pick"), (0, u "(IJJJ)J"), (0, .methodref 23 29), (0, .nameAndType 30 31), (0, u "isSet"), (0, u "(JZJZJ)Z"), (0, .methodref 9 33), (0, .nameAndType 34 35), (0, u "allSet"), (0, u "([J)Z"), (2, u "law"), (0, u "(JJJJJI)Z")] 5

def k1m0 : Method := { name := "<init>", desc := "()V", sig := { parameters := [], returnType := none }, accessFlags := 1, code := none }
def k1c1 : Code := { maxStack := 8, maxLocals := 35, code := code, exceptionTable := #[], attributes := #[] }
def k1m1 : Method := { name := "law", desc := "(JJJJJI)Z", sig := { parameters := [.long, .long, .long, .long, .long, .int], returnType := some .boolean }, accessFlags := 9, code := some k1c1 }
def k1c2 : Code := { maxStack := 2, maxLocals := 7, code := method_3_code, exceptionTable := #[], attributes := #[] }
def k1m2 : Method := { name := "pick", desc := "(IJJJ)J", sig := { parameters := [.int, .long, .long, .long], returnType := some .long }, accessFlags := 10, code := some k1c2 }
def k1c3 : Code := { maxStack := 4, maxLocals := 8, code := method_4_code, exceptionTable := #[], attributes := #[] }
def k1m3 : Method := { name := "isSet", desc := "(JZJZJ)Z", sig := { parameters := [.long, .boolean, .long, .boolean, .long], returnType := some .boolean }, accessFlags := 10, code := some k1c3 }
/-- com/example/vouch/vouch/BitArrayAllSetPinLaw -/
def k1 : Class := { plain "com/example/vouch/vouch/BitArrayAllSetPinLaw" (some 0) with
  accessFlags := 49
  interfaces := #[]
  cf := some (fileOf pool1 23 #[] #[{ accessFlags := 1, nameIndex := 5, descriptorIndex := 6, attributes := #[] }, { accessFlags := 9, nameIndex := 38, descriptorIndex := 39, attributes := #[] }, { accessFlags := 10, nameIndex := 26, descriptorIndex := 27, attributes := #[] }, { accessFlags := 10, nameIndex := 30, descriptorIndex := 31, attributes := #[] }] 49 2 #[] #[])
  fields := #[]
  methods := #[k1m0, k1m1, k1m2, k1m3]
  instanceTypes := #[]
  staticTypes := #[]
  resolved := Array.replicate 45 none
  statics := none }

def pool2 : Array CpInfo := pool [(5, .methodref 6 7), (0, .class_ 8), (0, .nameAndType 9 10), (0, u "java/lang/Object"), (0, u "<init>"), (0, u "()V"), (0, .methodref 12 13), (0, .class_ 14), (0, .nameAndType 15 16), (0, u "com/example/vouch/vouch/BitArray"), (0, u "checkSize"), (0, u "(J)V"), (0, .fieldref 12 18), (0, .nameAndType 19 20), (0, u "size"), (0, u "J"), (0, .methodref 12 22), (0, .nameAndType 23 24), (0, u "wordCount"), (0, u "(J)I"), (0, .fieldref 12 26), (0, .nameAndType 27 28), (0, u "words"), (0, u "[J"), (3, u "(J)J"), (0, .long 18446744073709551615), (10, .fieldref 12 45), (0, .nameAndType 46 20), (0, u "cardinality"), (20, .methodref 68 69), (0, .class_ 70), (0, .nameAndType 71 72), (0, u "java/util/Objects"), (0, u "checkIndex"), (0, u "(JJ)J"), (0, .methodref 12 74), (0, .nameAndType 75 24), (0, u "wordIndex"), (0, .methodref 12 77), (0, .nameAndType 78 32), (0, u "bitMask"), (0, .methodref 12 80), (0, .nameAndType 81 10), (0, u "changed"), (2, .long 64), (4, .long 137438952896), (2, u "MAX_SIZE"), (1, u "UNCOUNTED"), (5, u "(J)Z"), (0, u "set"), (1, u "([J)Z"), (2, u "allSet")] 37

def k2c0 : Code := { maxStack := 3, maxLocals := 3, code := prog_2_method_1_code, exceptionTable := #[], attributes := #[] }
def k2m0 : Method := { name := "<init>", desc := "(J)V", sig := { parameters := [.long], returnType := none }, accessFlags := 1, code := some k2c0 }
def k2c1 : Code := { maxStack := 4, maxLocals := 9, code := prog_2_method_6_code, exceptionTable := #[], attributes := #[] }
def k2m1 : Method := { name := "set", desc := "(J)Z", sig := { parameters := [.long], returnType := some .boolean }, accessFlags := 1, code := some k2c1 }
def k2c2 : Code := { maxStack := 6, maxLocals := 9, code := prog_2_method_9_code, exceptionTable := #[], attributes := #[] }
def k2m2 : Method := { name := "allSet", desc := "([J)Z", sig := { parameters := [(.array .long)], returnType := some .boolean }, accessFlags := 0, code := some k2c2 }
def k2c3 : Code := { maxStack := 4, maxLocals := 2, code := prog_2_method_13_code, exceptionTable := #[], attributes := #[] }
def k2m3 : Method := { name := "checkSize", desc := "(J)V", sig := { parameters := [.long], returnType := none }, accessFlags := 8, code := some k2c3 }
def k2c4 : Code := { maxStack := 4, maxLocals := 2, code := prog_2_method_14_code, exceptionTable := #[], attributes := #[] }
def k2m4 : Method := { name := "wordCount", desc := "(J)I", sig := { parameters := [.long], returnType := some .int }, accessFlags := 8, code := some k2c4 }
def k2c5 : Code := { maxStack := 4, maxLocals := 1, code := prog_2_method_16_code, exceptionTable := #[], attributes := #[] }
def k2m5 : Method := { name := "changed", desc := "()V", sig := { parameters := [], returnType := none }, accessFlags := 2, code := some k2c5 }
def k2c6 : Code := { maxStack := 3, maxLocals := 2, code := prog_2_method_17_code, exceptionTable := #[], attributes := #[] }
def k2m6 : Method := { name := "wordIndex", desc := "(J)I", sig := { parameters := [.long], returnType := some .int }, accessFlags := 10, code := some k2c6 }
def k2c7 : Code := { maxStack := 4, maxLocals := 2, code := prog_2_method_18_code, exceptionTable := #[], attributes := #[] }
def k2m7 : Method := { name := "bitMask", desc := "(J)J", sig := { parameters := [.long], returnType := some .long }, accessFlags := 10, code := some k2c7 }
/-- com/example/vouch/vouch/BitArray -/
def k2 : Class := { plain "com/example/vouch/vouch/BitArray" (some 0) with
  accessFlags := 49
  interfaces := #[]
  cf := some (fileOf pool2 12 #[] #[{ accessFlags := 1, nameIndex := 9, descriptorIndex := 16, attributes := #[] }, { accessFlags := 1, nameIndex := 101, descriptorIndex := 100, attributes := #[] }, { accessFlags := 0, nameIndex := 106, descriptorIndex := 103, attributes := #[] }, { accessFlags := 8, nameIndex := 15, descriptorIndex := 16, attributes := #[] }, { accessFlags := 8, nameIndex := 23, descriptorIndex := 24, attributes := #[] }, { accessFlags := 2, nameIndex := 81, descriptorIndex := 10, attributes := #[] }, { accessFlags := 10, nameIndex := 75, descriptorIndex := 24, attributes := #[] }, { accessFlags := 10, nameIndex := 78, descriptorIndex := 32, attributes := #[] }] 49 6 #[] #[{ accessFlags := 25, nameIndex := 92, descriptorIndex := 20, attributes := #[] }, { accessFlags := 26, nameIndex := 94, descriptorIndex := 20, attributes := #[] }, { accessFlags := 18, nameIndex := 19, descriptorIndex := 20, attributes := #[] }, { accessFlags := 18, nameIndex := 27, descriptorIndex := 28, attributes := #[] }, { accessFlags := 66, nameIndex := 46, descriptorIndex := 20, attributes := #[] }])
  fields := #[{ name := "MAX_SIZE", type := .long, accessFlags := 25, slot := 0, constantValue := 0 }, { name := "UNCOUNTED", type := .long, accessFlags := 26, slot := 1, constantValue := 0 }, { name := "size", type := .long, accessFlags := 18, slot := 0, constantValue := 0 }, { name := "words", type := (.array .long), accessFlags := 18, slot := 1, constantValue := 0 }, { name := "cardinality", type := .long, accessFlags := 66, slot := 2, constantValue := 0 }]
  methods := #[k2m0, k2m1, k2m2, k2m3, k2m4, k2m5, k2m6, k2m7]
  instanceTypes := #[.long, (.array .long), .long]
  staticTypes := #[.long, .long]
  resolved := Array.replicate 144 none
  statics := none }

def pool3 : Array CpInfo := pool [(2, .class_ 4), (1, u "java/lang/Object"), (0, u "<init>"), (0, u "()V"), (35, .class_ 44), (1, u "java/util/Objects"), (61, .class_ 108), (1, u "jdk/internal/util/Preconditions"), (0, u "checkIndex"), (8, .methodref 106 119), (0, .nameAndType 109 120), (0, u "(JJLjava/util/function/BiFunction;)J"), (58, u "(JJ)J")] 4

def k3m0 : Method := { name := "<init>", desc := "()V", sig := { parameters := [], returnType := none }, accessFlags := 2, code := none }
def k3c1 : Code := { maxStack := 5, maxLocals := 4, code := jdk_31_method_20_code, exceptionTable := #[], attributes := #[] }
def k3m1 : Method := { name := "checkIndex", desc := "(JJ)J", sig := { parameters := [.long, .long], returnType := some .long }, accessFlags := 9, code := some k3c1 }
/-- java/util/Objects -/
def k3 : Class := { plain "java/util/Objects" (some 0) with
  accessFlags := 49
  interfaces := #[]
  cf := some (fileOf pool3 42 #[] #[{ accessFlags := 2, nameIndex := 5, descriptorIndex := 6, attributes := #[] }, { accessFlags := 9, nameIndex := 109, descriptorIndex := 179, attributes := #[] }] 49 2 #[] #[])
  fields := #[]
  methods := #[k3m0, k3m1]
  instanceTypes := #[]
  staticTypes := #[]
  resolved := Array.replicate 184 none
  statics := none }

def pool4 : Array CpInfo := pool [(2, .class_ 4), (1, u "java/lang/Object"), (0, u "<init>"), (0, u "()V"), (17, .class_ 26), (1, u "jdk/internal/util/Preconditions"), (6, u "checkIndex"), (21, .class_ 56), (0, u "jdk/internal/util/Preconditions$4"), (57, .class_ 115), (0, u "jdk/internal/util/Preconditions$1"), (7, u "SIOOBE_FORMATTER"), (0, u "Ljava/util/function/BiFunction;"), (0, .class_ 126), (0, u "jdk/internal/util/Preconditions$2"), (3, u "AIOOBE_FORMATTER"), (0, .class_ 132), (0, u "jdk/internal/util/Preconditions$3"), (3, u "IOOBE_FORMATTER"), (48, u "(JJLjava/util/function/BiFunction;)J")] 8

def k4m0 : Method := { name := "<init>", desc := "()V", sig := { parameters := [], returnType := none }, accessFlags := 1, code := none }
def k4c1 : Code := { maxStack := 5, maxLocals := 5, code := jdk_41_method_14_code, exceptionTable := #[], attributes := #[] }
def k4m1 : Method := { name := "checkIndex", desc := "(JJLjava/util/function/BiFunction;)J", sig := { parameters := [.long, .long, (.object "java/util/function/BiFunction")], returnType := some .long }, accessFlags := 9, code := some k4c1 }
/-- jdk/internal/util/Preconditions -/
def k4 : Class := { plain "jdk/internal/util/Preconditions" (some 0) with
  accessFlags := 33
  interfaces := #[]
  cf := some (fileOf pool4 24 #[.nestMembers #[55, 131, 125, 114]] #[{ accessFlags := 1, nameIndex := 5, descriptorIndex := 6, attributes := #[] }, { accessFlags := 9, nameIndex := 33, descriptorIndex := 185, attributes := #[] }] 33 2 #[] #[{ accessFlags := 25, nameIndex := 123, descriptorIndex := 124, attributes := #[] }, { accessFlags := 25, nameIndex := 130, descriptorIndex := 124, attributes := #[] }, { accessFlags := 25, nameIndex := 136, descriptorIndex := 124, attributes := #[] }])
  fields := #[{ name := "SIOOBE_FORMATTER", type := (.object "java/util/function/BiFunction"), accessFlags := 25, slot := 0, constantValue := 0 }, { name := "AIOOBE_FORMATTER", type := (.object "java/util/function/BiFunction"), accessFlags := 25, slot := 1, constantValue := 0 }, { name := "IOOBE_FORMATTER", type := (.object "java/util/function/BiFunction"), accessFlags := 25, slot := 2, constantValue := 0 }]
  methods := #[k4m0, k4m1]
  instanceTypes := #[]
  staticTypes := #[(.object "java/util/function/BiFunction"), (.object "java/util/function/BiFunction"), (.object "java/util/function/BiFunction")]
  resolved := Array.replicate 194 none
  statics := none }

def pool5 : Array CpInfo := pool [(1, u "java/lang/Cloneable"), (0, .class_ 1), (0, u "java/lang/Object"), (0, .class_ 3)] 3

/-- java/lang/Cloneable -/
def k5 : Class := { plain "java/lang/Cloneable" (some 0) with
  accessFlags := 1537
  interfaces := #[]
  cf := some (fileOf pool5 2 #[] #[] 1537 4 #[] #[])
  fields := #[]
  methods := #[]
  instanceTypes := #[]
  staticTypes := #[]
  resolved := Array.replicate 8 none
  statics := none }

def pool6 : Array CpInfo := pool [(1, u "java/io/Serializable"), (0, .class_ 1), (0, u "java/lang/Object"), (0, .class_ 3)] 3

/-- java/io/Serializable -/
def k6 : Class := { plain "java/io/Serializable" (some 0) with
  accessFlags := 1537
  interfaces := #[]
  cf := some (fileOf pool6 2 #[] #[] 1537 4 #[] #[])
  fields := #[]
  methods := #[]
  instanceTypes := #[]
  staticTypes := #[]
  resolved := Array.replicate 8 none
  statics := none }

/-- the primitive byte -/
def k7 : Class := { plain "byte" none with kind := .primitive 'B', accessFlags := 0x411 }
/-- [B -/
def k8 : Class := { plain "[B" (some 0) with kind := .array 7 .byte, interfaces := #[5, 6], accessFlags := 1041 }

/-- the primitive int -/
def k9 : Class := { plain "int" none with kind := .primitive 'I', accessFlags := 0x411 }
/-- [I -/
def k10 : Class := { plain "[I" (some 0) with kind := .array 9 .int, interfaces := #[5, 6], accessFlags := 1041 }

/-- the primitive long -/
def k11 : Class := { plain "long" none with kind := .primitive 'J', accessFlags := 0x411 }
/-- [J -/
def k12 : Class := { plain "[J" (some 0) with kind := .array 11 .long, interfaces := #[5, 6], accessFlags := 1041 }

def heap : Heap := #[]
def classes : Array Class := #[k0, k1, k2, k3, k4, k5, k6, k7, k8, k9, k10, k11, k12]
def interned : List (Array UInt16 × Addr) := []
def slotsUsed : Nat := 0
def theMethod : MethodId := ⟨1, 1⟩
def args0 : Array Value := #[.long 5, .long 3, .long 7, .long 1, .long 2, .int 9]
def aboutOver (below : List Frame) : State where
  vm := { classes := classes, interned := interned.toArray }
  heap := heap
  slotsUsed := slotsUsed
  threads := #[{ frames := .invoking theMethod args0 :: below }]
def below0 : List Frame := [.native { method := ⟨0, 0⟩, args := #[] }]
def about1 : State := aboutOver below0
def p0 : Program := .bare "" "" ""
def e0 : Env := launch0.env 0 0 0
theorem w_frames : about1.frames = Frame.invoking theMethod args0 :: below0 := rfl
set_option maxRecDepth 65536 in
theorem w_args : argsFit about1.vm theMethod args0 = true := by decide +kernel
set_option maxRecDepth 65536 in
theorem w_heap : heapFits about1 = true := by decide +kernel
set_option maxRecDepth 65536 in
theorem w_runnable : about1.curStatus? = some .runnable := by decide +kernel
set_option maxRecDepth 65536 in
theorem w_alone : about1.alone = true := by decide +kernel
set_option maxRecDepth 65536 in
theorem w_named : about1.methodNamed? x = some theMethod := by decide +kernel
set_option maxRecDepth 65536 in
theorem w_hears : about1.hears theMethod below0 = true := by decide +kernel
set_option maxRecDepth 65536 in
theorem w_ripe : about1.ripe theMethod args0 below0 = true := by decide +kernel
theorem w_running : about1.status = .running := rfl
set_option maxRecDepth 65536 in
theorem w_room : about1.hasRoom e0.platform room_1 = true :=
  launch0.hasRoom_least _ room_1 (by decide +kernel) (by decide +kernel) (by decide +kernel) (by decide +kernel) (by decide +kernel) (by decide +kernel)
theorem allAtoms_all (ts : List Jvm.Cond) (a : Array Jvm.Value) (st : Jvm.State) : (allAtoms ts).before a st = ts.all (fun c => c.before a st) := by
  induction ts with
  | nil => rfl
  | cons c t ih =>
    show (Jvm.Cond.and c (allAtoms t)).before a st = _
    rw [Jvm.Cond.before_and, ih, List.all_cons]
def words1 : List Jvm.Cond := Jvm.Cond.code x code maxLocals ret :: tables_1
/-- a 'code' word, met by the world's own term for the bytes: nothing is compared byte by byte -/
theorem code_word {y : MethodName} {bytes : ByteArray} {mx : Nat} {rt : Option FieldType} {a : Array Value} {s : State} {m : MethodId} {meth : Method} {c : Code} (h1 : s.methodNamed? y = some m) (h2 : s.vm.method? m = some meth) (h3 : meth.code = some c) (h4 : c.code = bytes)
    (h5 : (c.maxLocals == mx && c.exceptionTable.isEmpty && decide (c.maxStack ≤ mostOperands) && decide (meth.sig.returnType = rt) && !meth.locks && decide (parseMethodDescriptor y.desc = some meth.sig)) = true) : (Jvm.Cond.code y bytes mx rt).before a s = true := by
  simp only [Bool.and_eq_true, beq_iff_eq, Bool.not_eq_true', decide_eq_true_eq] at h5
  obtain ⟨⟨⟨⟨⟨g1, g2⟩, g3⟩, g4⟩, g5⟩, g6⟩ := h5
  simp [Cond.before, Cond.holds, Cond.value, h1, h2, h3, h4, g1, g2, g3, g4, g5, g6]
def isCode : Jvm.Cond → Bool
  | .code _ _ _ _ => true
  | _ => false
theorem all_split {L : List Jvm.Cond} {P : Jvm.Cond → Bool} (h1 : L.all (fun c => isCode c || P c) = true) (h2 : ∀ c ∈ L.filter isCode, P c = true) : L.all P = true := by
  refine List.all_eq_true.mpr fun c hc => ?_
  have h := List.all_eq_true.mp h1 c hc
  rcases Bool.eq_false_or_eq_true (isCode c) with hi | hi
  · exact h2 c (List.mem_filter.mpr ⟨hc, hi⟩)
  · simpa [hi] using h
set_option maxRecDepth 65536 in
theorem w_c0 : (Jvm.Cond.code x code maxLocals ret).before args0 about1 = true := code_word (m := ⟨1, 1⟩) (meth := k1m1) (c := k1c1) (by decide +kernel) rfl rfl rfl (by decide +kernel)
set_option maxRecDepth 65536 in
theorem w_c1 : (Jvm.Cond.code ({ cls := "com/example/vouch/vouch/BitArray", name := "<init>", desc := "(J)V" } : Jvm.MethodName) prog_2_method_1_code (3 : Nat) (Option.none : Option Jvm.ClassFile.FieldType)).before args0 about1 = true := code_word (m := ⟨2, 0⟩) (meth := k2m0) (c := k2c0) (by decide +kernel) rfl rfl rfl (by decide +kernel)
set_option maxRecDepth 65536 in
theorem w_c2 : (Jvm.Cond.code ({ cls := "java/lang/Object", name := "<init>", desc := "()V" } : Jvm.MethodName) object_method_1_code (1 : Nat) (Option.none : Option Jvm.ClassFile.FieldType)).before args0 about1 = true := code_word (m := ⟨0, 0⟩) (meth := k0m0) (c := k0c0) (by decide +kernel) rfl rfl rfl (by decide +kernel)
set_option maxRecDepth 65536 in
theorem w_c3 : (Jvm.Cond.code ({ cls := "com/example/vouch/vouch/BitArray", name := "checkSize", desc := "(J)V" } : Jvm.MethodName) prog_2_method_13_code (2 : Nat) (Option.none : Option Jvm.ClassFile.FieldType)).before args0 about1 = true := code_word (m := ⟨2, 3⟩) (meth := k2m3) (c := k2c3) (by decide +kernel) rfl rfl rfl (by decide +kernel)
set_option maxRecDepth 65536 in
theorem w_c4 : (Jvm.Cond.code ({ cls := "com/example/vouch/vouch/BitArray", name := "wordCount", desc := "(J)I" } : Jvm.MethodName) prog_2_method_14_code (2 : Nat) (Option.some Jvm.ClassFile.FieldType.int)).before args0 about1 = true := code_word (m := ⟨2, 4⟩) (meth := k2m4) (c := k2c4) (by decide +kernel) rfl rfl rfl (by decide +kernel)
set_option maxRecDepth 65536 in
theorem w_c5 : (Jvm.Cond.code ({ cls := "com/example/vouch/vouch/BitArray", name := "set", desc := "(J)Z" } : Jvm.MethodName) prog_2_method_6_code (9 : Nat) (Option.some Jvm.ClassFile.FieldType.boolean)).before args0 about1 = true := code_word (m := ⟨2, 1⟩) (meth := k2m1) (c := k2c1) (by decide +kernel) rfl rfl rfl (by decide +kernel)
set_option maxRecDepth 65536 in
theorem w_c6 : (Jvm.Cond.code ({ cls := "java/util/Objects", name := "checkIndex", desc := "(JJ)J" } : Jvm.MethodName) jdk_31_method_20_code (4 : Nat) (Option.some Jvm.ClassFile.FieldType.long)).before args0 about1 = true := code_word (m := ⟨3, 1⟩) (meth := k3m1) (c := k3c1) (by decide +kernel) rfl rfl rfl (by decide +kernel)
set_option maxRecDepth 65536 in
theorem w_c7 : (Jvm.Cond.code ({ cls := "jdk/internal/util/Preconditions", name := "checkIndex", desc := "(JJLjava/util/function/BiFunction;)J" } : Jvm.MethodName) jdk_41_method_14_code (5 : Nat) (Option.some Jvm.ClassFile.FieldType.long)).before args0 about1 = true := code_word (m := ⟨4, 1⟩) (meth := k4m1) (c := k4c1) (by decide +kernel) rfl rfl rfl (by decide +kernel)
set_option maxRecDepth 65536 in
theorem w_c8 : (Jvm.Cond.code ({ cls := "com/example/vouch/vouch/BitArray", name := "wordIndex", desc := "(J)I" } : Jvm.MethodName) prog_2_method_17_code (2 : Nat) (Option.some Jvm.ClassFile.FieldType.int)).before args0 about1 = true := code_word (m := ⟨2, 6⟩) (meth := k2m6) (c := k2c6) (by decide +kernel) rfl rfl rfl (by decide +kernel)
set_option maxRecDepth 65536 in
theorem w_c9 : (Jvm.Cond.code ({ cls := "com/example/vouch/vouch/BitArray", name := "bitMask", desc := "(J)J" } : Jvm.MethodName) prog_2_method_18_code (2 : Nat) (Option.some Jvm.ClassFile.FieldType.long)).before args0 about1 = true := code_word (m := ⟨2, 7⟩) (meth := k2m7) (c := k2c7) (by decide +kernel) rfl rfl rfl (by decide +kernel)
set_option maxRecDepth 65536 in
theorem w_c10 : (Jvm.Cond.code ({ cls := "com/example/vouch/vouch/BitArray", name := "changed", desc := "()V" } : Jvm.MethodName) prog_2_method_16_code (1 : Nat) (Option.none : Option Jvm.ClassFile.FieldType)).before args0 about1 = true := code_word (m := ⟨2, 5⟩) (meth := k2m5) (c := k2c5) (by decide +kernel) rfl rfl rfl (by decide +kernel)
set_option maxRecDepth 65536 in
theorem w_c11 : (Jvm.Cond.code ({ cls := "com/example/vouch/vouch/BitArrayAllSetPinLaw", name := "pick", desc := "(IJJJ)J" } : Jvm.MethodName) method_3_code (7 : Nat) (Option.some Jvm.ClassFile.FieldType.long)).before args0 about1 = true := code_word (m := ⟨1, 2⟩) (meth := k1m2) (c := k1c2) (by decide +kernel) rfl rfl rfl (by decide +kernel)
set_option maxRecDepth 65536 in
theorem w_c12 : (Jvm.Cond.code ({ cls := "com/example/vouch/vouch/BitArray", name := "allSet", desc := "([J)Z" } : Jvm.MethodName) prog_2_method_9_code (9 : Nat) (Option.some Jvm.ClassFile.FieldType.boolean)).before args0 about1 = true := code_word (m := ⟨2, 2⟩) (meth := k2m2) (c := k2c2) (by decide +kernel) rfl rfl rfl (by decide +kernel)
set_option maxRecDepth 65536 in
theorem w_c13 : (Jvm.Cond.code ({ cls := "com/example/vouch/vouch/BitArrayAllSetPinLaw", name := "isSet", desc := "(JZJZJ)Z" } : Jvm.MethodName) method_4_code (8 : Nat) (Option.some Jvm.ClassFile.FieldType.boolean)).before args0 about1 = true := code_word (m := ⟨1, 3⟩) (meth := k1m3) (c := k1c3) (by decide +kernel) rfl rfl rfl (by decide +kernel)
def codes1 : List Jvm.Cond := [Jvm.Cond.code x code maxLocals ret, Jvm.Cond.code ({ cls := "com/example/vouch/vouch/BitArray", name := "<init>", desc := "(J)V" } : Jvm.MethodName) prog_2_method_1_code (3 : Nat) (Option.none : Option Jvm.ClassFile.FieldType), Jvm.Cond.code ({ cls := "java/lang/Object", name := "<init>", desc := "()V" } : Jvm.MethodName) object_method_1_code (1 : Nat) (Option.none : Option Jvm.ClassFile.FieldType), Jvm.Cond.code ({ cls := "com/example/vouch/vouch/BitArray", name := "checkSize", desc := "(J)V" } : Jvm.MethodName) prog_2_method_13_code (2 : Nat) (Option.none : Option Jvm.ClassFile.FieldType), Jvm.Cond.code ({ cls := "com/example/vouch/vouch/BitArray", name := "wordCount", desc := "(J)I" } : Jvm.MethodName) prog_2_method_14_code (2 : Nat) (Option.some Jvm.ClassFile.FieldType.int), Jvm.Cond.code ({ cls := "com/example/vouch/vouch/BitArray", name := "set", desc := "(J)Z" } : Jvm.MethodName) prog_2_method_6_code (9 : Nat) (Option.some Jvm.ClassFile.FieldType.boolean), Jvm.Cond.code ({ cls := "java/util/Objects", name := "checkIndex", desc := "(JJ)J" } : Jvm.MethodName) jdk_31_method_20_code (4 : Nat) (Option.some Jvm.ClassFile.FieldType.long), Jvm.Cond.code ({ cls := "jdk/internal/util/Preconditions", name := "checkIndex", desc := "(JJLjava/util/function/BiFunction;)J" } : Jvm.MethodName) jdk_41_method_14_code (5 : Nat) (Option.some Jvm.ClassFile.FieldType.long), Jvm.Cond.code ({ cls := "com/example/vouch/vouch/BitArray", name := "wordIndex", desc := "(J)I" } : Jvm.MethodName) prog_2_method_17_code (2 : Nat) (Option.some Jvm.ClassFile.FieldType.int), Jvm.Cond.code ({ cls := "com/example/vouch/vouch/BitArray", name := "bitMask", desc := "(J)J" } : Jvm.MethodName) prog_2_method_18_code (2 : Nat) (Option.some Jvm.ClassFile.FieldType.long), Jvm.Cond.code ({ cls := "com/example/vouch/vouch/BitArray", name := "changed", desc := "()V" } : Jvm.MethodName) prog_2_method_16_code (1 : Nat) (Option.none : Option Jvm.ClassFile.FieldType), Jvm.Cond.code ({ cls := "com/example/vouch/vouch/BitArrayAllSetPinLaw", name := "pick", desc := "(IJJJ)J" } : Jvm.MethodName) method_3_code (7 : Nat) (Option.some Jvm.ClassFile.FieldType.long), Jvm.Cond.code ({ cls := "com/example/vouch/vouch/BitArray", name := "allSet", desc := "([J)Z" } : Jvm.MethodName) prog_2_method_9_code (9 : Nat) (Option.some Jvm.ClassFile.FieldType.boolean), Jvm.Cond.code ({ cls := "com/example/vouch/vouch/BitArrayAllSetPinLaw", name := "isSet", desc := "(JZJZJ)Z" } : Jvm.MethodName) method_4_code (8 : Nat) (Option.some Jvm.ClassFile.FieldType.boolean)]
set_option maxRecDepth 65536 in
theorem codes_eq : words1.filter isCode = codes1 := rfl
theorem w_codes : ∀ c ∈ words1.filter isCode, c.before args0 about1 = true := by
  rw [codes_eq]
  intro c hc
  simp only [codes1, List.mem_cons, List.not_mem_nil, or_false] at hc
  rcases hc with rfl | rfl | rfl | rfl | rfl | rfl | rfl | rfl | rfl | rfl | rfl | rfl | rfl | rfl
  · exact w_c0
  · exact w_c1
  · exact w_c2
  · exact w_c3
  · exact w_c4
  · exact w_c5
  · exact w_c6
  · exact w_c7
  · exact w_c8
  · exact w_c9
  · exact w_c10
  · exact w_c11
  · exact w_c12
  · exact w_c13
set_option maxRecDepth 65536 in
theorem w_t1 : (words1.take 24).all (fun c => isCode c || c.before args0 about1) = true := by decide +kernel
set_option maxRecDepth 65536 in
theorem w_t2 : ((words1.drop 24).take 24).all (fun c => isCode c || c.before args0 about1) = true := by decide +kernel
set_option maxRecDepth 65536 in
theorem w_t3 : ((words1.drop 24).drop 24).all (fun c => isCode c || c.before args0 about1) = true := by decide +kernel
theorem w_tables : (allAtoms (Jvm.Cond.code x code maxLocals ret :: tables_1)).before args0 about1 = true := by
  rw [allAtoms_all]
  show words1.all (fun c => c.before args0 about1) = true
  refine all_split ?_ w_codes
  rw [← List.take_append_drop 24 words1, List.all_append, w_t1, ← List.take_append_drop 24 (words1.drop 24), List.all_append, w_t2, w_t3]
  rfl
set_option maxRecDepth 65536 in
theorem w_case : (Jvm.Cond.and given_1 narrow_1).before args0 about1 = true := by decide +kernel
theorem w_applies : (headSpec (Jvm.Cond.code x code maxLocals ret :: tables_1) room_1).applies x e0.platform about1 = true :=
  (Spec.applies_iff w_frames).mpr ⟨w_running, w_runnable, w_alone, w_named, w_hears, w_ripe, w_room, w_tables⟩
theorem atStart : AtStart classFile x code maxLocals ret World_1 tables_1 room_1 Calls_1 rest_1 Pre_1 launch0 p0 e0 about1 theMethod args0 below0 :=
  ⟨lists_1, trivial, launch0.admits_env _ _ _, launch0.least_env, fairChoices_fair.cas, fairChoices_fair.clock, w_frames, w_args, w_heap, w_applies, trivial, trivial, w_case⟩
end start1
theorem witness_1 : WitnessClaimed_1 := ⟨start1.p0, start1.e0, start1.about1, start1.theMethod, start1.args0, start1.below0, start1.atStart⟩
end Jvm.Pilot.@@N@@

import JvmDerived
import JvmDerived.Pilot.@@N@@Statement
import JvmDerived.Pilot.@@N@@Code
set_option linter.unusedVariables false
set_option linter.unusedSimpArgs false
namespace Jvm.Pilot.@@N@@
open Jvm Jvm.ClassFile Sem Op Lib Jvm.Free Jvm.Stand Jvm.LawKit Jvm.RoadKit Bundle Jvm.Pilot.@@N@@.Jvm.D
/-! own frame: 'Go': from here the run ends as Q says -/
def Go (p : Program) (e : Env) (below : List Frame) (s : State) (nc ns : Nat) (Q : Option Value → Heap → List Loc → Prop) (u : State) : Prop :=
  ∃ s₂ o, Steps p.tables e below u s₂ ∧ s₂.status = .running ∧ Ended s₂ below o ∧ ∃ v L, o = .returned v ∧ Q v s₂.heap L ∧ FrameEnd s o s₂ L nc ns
/-- what a body's walk stands on -/
def Bdy (p : Program) (s : State) (m : MethodId) (meth : Method) (c : Code) (Z : State) (a0 : Array Value) (own nm : String) (bytes : ByteArray) (maxL : Nat) (rt : Option FieldType) (tabs : List Jvm.Cond) : Prop :=
  p.tables.exec = Jvm.exec ∧ Z.Warmed39 s.vm ∧ (∀ d ∈ tabs, d.before a0 Z = true) ∧ c.code = bytes ∧ c.maxLocals = maxL ∧ s.vm.findClass own = some m.cls ∧ meth.sig.returnType = rt ∧ meth.locks = false ∧ meth.name = nm
def PQ (w : Option Value) (h : Heap) (locs : List Loc) : Option Value → Heap → List Loc → Prop := fun v h' L => v = w ∧ h' = h ∧ L = locs
section GoKit
variable {p : Program} {l : Launch} {e : Env} {R : Room} {s : State} {m : MethodId} {args : Array Value} {below : List Frame} {meth : Method} {c : Code} {T : State} {locs : List Loc} {cells slots : Nat} {Z : State} {a0 : Array Value} {h : Heap} {nc ns : Nat} {Q Q' : Option Value → Heap → List Loc → Prop} {pc pc' : Nat} {Ls Ls' : Array Slot} {St : List Value} {own nm : String} {bytes : ByteArray} {maxL : Nat} {rt : Option FieldType} {tabs : List Jvm.Cond}
theorem Go.step {u u' : State} (st : ∀ t, Steps p.tables e below u' t → Steps p.tables e below u t) (k : Go p e below s nc ns Q u') : Go p e below s nc ns Q u := by
  obtain ⟨s₂, o, h1, h2⟩ := k
  exact ⟨s₂, o, st _ h1, h2⟩
theorem Go.mono {u : State} (q : ∀ v h L, Q v h L → Q' v h L) (k : Go p e below s nc ns Q u) : Go p e below s nc ns Q' u := by
  obtain ⟨s₂, o, h1, h2, h3, v, L, h4, h5, h6⟩ := k
  exact ⟨s₂, o, h1, h2, h3, v, L, h4, q _ _ _ h5, h6⟩
theorem Go.wid {u : State} {nc' ns' : Nat} (q1 : nc ≤ nc') (q2 : ns ≤ ns') (k : Go p e below s nc ns Q u) : Go p e below s nc' ns' Q u := by
  obtain ⟨s₂, o, h1, h2, h3, v, L, h4, h5, h6, h7, h8⟩ := k
  exact ⟨s₂, o, h1, h2, h3, v, L, h4, h5, h6, h7, h8.mono q1 q2⟩
theorem Go.cw {u : State} {w w' : Option Value} (q : w = w') (k : Go p e below s nc ns (PQ w h locs) u) : Go p e below s nc ns (PQ w' h locs) u := q ▸ k
theorem Go.top {g g' : JFrame} (q : g = g') (k : Go p e below s nc ns Q (T.setTop g')) : Go p e below s nc ns Q (T.setTop g) := q ▸ k
theorem Bdy.w (B : Bdy p s m meth c Z a0 own nm bytes maxL rt tabs) {d : Jvm.Cond} (i : Nat) (q : tabs[i]? = some d) : d.before a0 Z = true := B.2.2.1 _ (List.mem_of_getElem? q)
theorem Bdy.d (B : Bdy p s m meth c Z a0 own nm bytes maxL rt tabs) {r : Except ClassFile.DecodeError (ClassFile.Instr × Nat)} (q : decode bytes pc = r) : decode c.code pc = r := hb B.2.2.2.1 q
theorem Bdy.x (B : Bdy p s m meth c Z a0 own nm bytes maxL rt tabs) : p.tables.exec = Jvm.exec := B.1
theorem Bdy.z (B : Bdy p s m meth c Z a0 own nm bytes maxL rt tabs) : Z.Warmed39 s.vm := B.2.1
theorem Bdy.ml (B : Bdy p s m meth c Z a0 own nm bytes maxL rt tabs) : c.maxLocals = maxL := B.2.2.2.2.1
theorem Bdy.o (B : Bdy p s m meth c Z a0 own nm bytes maxL rt tabs) : s.vm.findClass own = some m.cls := B.2.2.2.2.2.1
theorem Bdy.r (B : Bdy p s m meth c Z a0 own nm bytes maxL rt tabs) : meth.sig.returnType = rt := B.2.2.2.2.2.2.1
theorem Bdy.lk (B : Bdy p s m meth c Z a0 own nm bytes maxL rt tabs) : meth.locks = false := B.2.2.2.2.2.2.2.1
theorem Bdy.n (B : Bdy p s m meth c Z a0 own nm bytes maxL rt tabs) : meth.name = nm := B.2.2.2.2.2.2.2.2
theorem g_iloadN (X : Stand p l e R s m args below meth c T locs cells slots) (B : Bdy p s m meth c Z a0 own nm bytes maxL rt tabs) {k : Fin 4} {v : Int32} (hd : decode bytes pc = .ok (.iload_n k, 1)) (hp : pc + 1 = pc') (hl : Ls[k.val]? = some (.val (.int v))) (K : Go p e below s nc ns Q (T.setTop (mkF m pc' Ls (.int v :: St)))) : Go p e below s nc ns Q (T.setTop (mkF m pc Ls St)) := by
  subst hp; exact Go.step (fun t q => XS.iloadN X.here B.x (g := mkF m pc Ls St) rfl (B.d hd) hl q) K
theorem g_iload (X : Stand p l e R s m args below meth c T locs cells slots) (B : Bdy p s m meth c Z a0 own nm bytes maxL rt tabs) {k : Nat} {v : Int32} (hd : decode bytes pc = .ok (.iload k, 2)) (hp : pc + 2 = pc') (hl : Ls[k]? = some (.val (.int v))) (K : Go p e below s nc ns Q (T.setTop (mkF m pc' Ls (.int v :: St)))) : Go p e below s nc ns Q (T.setTop (mkF m pc Ls St)) := by
  subst hp; exact Go.step (fun t q => XS.iload X.here B.x (g := mkF m pc Ls St) rfl (B.d hd) hl q) K
theorem g_lloadN (X : Stand p l e R s m args below meth c T locs cells slots) (B : Bdy p s m meth c Z a0 own nm bytes maxL rt tabs) {k : Fin 4} {v : Int64} (hd : decode bytes pc = .ok (.lload_n k, 1)) (hp : pc + 1 = pc') (hl : Ls[k.val]? = some (.val (.long v))) (K : Go p e below s nc ns Q (T.setTop (mkF m pc' Ls (.long v :: St)))) : Go p e below s nc ns Q (T.setTop (mkF m pc Ls St)) := by
  subst hp; exact Go.step (fun t q => XS.lloadN X.here B.x (g := mkF m pc Ls St) rfl (B.d hd) hl q) K
theorem g_lload (X : Stand p l e R s m args below meth c T locs cells slots) (B : Bdy p s m meth c Z a0 own nm bytes maxL rt tabs) {k : Nat} {v : Int64} (hd : decode bytes pc = .ok (.lload k, 2)) (hp : pc + 2 = pc') (hl : Ls[k]? = some (.val (.long v))) (K : Go p e below s nc ns Q (T.setTop (mkF m pc' Ls (.long v :: St)))) : Go p e below s nc ns Q (T.setTop (mkF m pc Ls St)) := by
  subst hp; exact Go.step (fun t q => XS.lload X.here B.x (g := mkF m pc Ls St) rfl (B.d hd) hl q) K
theorem g_aloadN (X : Stand p l e R s m args below meth c T locs cells slots) (B : Bdy p s m meth c Z a0 own nm bytes maxL rt tabs) {k : Fin 4} {v : Value} (hd : decode bytes pc = .ok (.aload_n k, 1)) (hp : pc + 1 = pc') (hl : Ls[k.val]? = some (.val v)) (hv : v.isRef = true) (K : Go p e below s nc ns Q (T.setTop (mkF m pc' Ls (v :: St)))) : Go p e below s nc ns Q (T.setTop (mkF m pc Ls St)) := by
  subst hp; exact Go.step (fun t q => XS.aloadN X.here B.x (g := mkF m pc Ls St) rfl (B.d hd) hl hv q) K
theorem g_aload (X : Stand p l e R s m args below meth c T locs cells slots) (B : Bdy p s m meth c Z a0 own nm bytes maxL rt tabs) {k : Nat} {v : Value} (hd : decode bytes pc = .ok (.aload k, 2)) (hp : pc + 2 = pc') (hl : Ls[k]? = some (.val v)) (hv : v.isRef = true) (K : Go p e below s nc ns Q (T.setTop (mkF m pc' Ls (v :: St)))) : Go p e below s nc ns Q (T.setTop (mkF m pc Ls St)) := by
  subst hp; exact Go.step (fun t q => XS.aload X.here B.x (g := mkF m pc Ls St) rfl (B.d hd) hl hv q) K
theorem g_istoreN (X : Stand p l e R s m args below meth c T locs cells slots) (B : Bdy p s m meth c Z a0 own nm bytes maxL rt tabs) {k : Fin 4} {v : Int32} (hd : decode bytes pc = .ok (.istore_n k, 1)) (hp : pc + 1 = pc') (hl : storeLocals Ls k.val (.int v) = some Ls') (K : Go p e below s nc ns Q (T.setTop (mkF m pc' Ls' St))) : Go p e below s nc ns Q (T.setTop (mkF m pc Ls (.int v :: St))) := by
  subst hp; exact Go.step (fun t q => XS.istoreN X.here B.x (g := mkF m pc Ls (.int v :: St)) rfl (B.d hd) rfl hl q) K
theorem g_istore (X : Stand p l e R s m args below meth c T locs cells slots) (B : Bdy p s m meth c Z a0 own nm bytes maxL rt tabs) {k : Nat} {v : Int32} (hd : decode bytes pc = .ok (.istore k, 2)) (hp : pc + 2 = pc') (hl : storeLocals Ls k (.int v) = some Ls') (K : Go p e below s nc ns Q (T.setTop (mkF m pc' Ls' St))) : Go p e below s nc ns Q (T.setTop (mkF m pc Ls (.int v :: St))) := by
  subst hp; exact Go.step (fun t q => XS.istore X.here B.x (g := mkF m pc Ls (.int v :: St)) rfl (B.d hd) rfl hl q) K
theorem g_lstoreN (X : Stand p l e R s m args below meth c T locs cells slots) (B : Bdy p s m meth c Z a0 own nm bytes maxL rt tabs) {k : Fin 4} {v : Int64} (hd : decode bytes pc = .ok (.lstore_n k, 1)) (hp : pc + 1 = pc') (hl : storeLocals Ls k.val (.long v) = some Ls') (K : Go p e below s nc ns Q (T.setTop (mkF m pc' Ls' St))) : Go p e below s nc ns Q (T.setTop (mkF m pc Ls (.long v :: St))) := by
  subst hp; exact Go.step (fun t q => XS.lstoreN X.here B.x (g := mkF m pc Ls (.long v :: St)) rfl (B.d hd) rfl hl q) K
theorem g_lstore (X : Stand p l e R s m args below meth c T locs cells slots) (B : Bdy p s m meth c Z a0 own nm bytes maxL rt tabs) {k : Nat} {v : Int64} (hd : decode bytes pc = .ok (.lstore k, 2)) (hp : pc + 2 = pc') (hl : storeLocals Ls k (.long v) = some Ls') (K : Go p e below s nc ns Q (T.setTop (mkF m pc' Ls' St))) : Go p e below s nc ns Q (T.setTop (mkF m pc Ls (.long v :: St))) := by
  subst hp; exact Go.step (fun t q => XS.lstore X.here B.x (g := mkF m pc Ls (.long v :: St)) rfl (B.d hd) rfl hl q) K
theorem g_astoreN (X : Stand p l e R s m args below meth c T locs cells slots) (B : Bdy p s m meth c Z a0 own nm bytes maxL rt tabs) {k : Fin 4} {v : Value} (hd : decode bytes pc = .ok (.astore_n k, 1)) (hp : pc + 1 = pc') (hv : v.isRef = true) (hl : storeLocals Ls k.val v = some Ls') (K : Go p e below s nc ns Q (T.setTop (mkF m pc' Ls' St))) : Go p e below s nc ns Q (T.setTop (mkF m pc Ls (v :: St))) := by
  subst hp; exact Go.step (fun t q => XS.astoreN X.here B.x (g := mkF m pc Ls (v :: St)) rfl (B.d hd) rfl hv hl q) K
theorem g_astore (X : Stand p l e R s m args below meth c T locs cells slots) (B : Bdy p s m meth c Z a0 own nm bytes maxL rt tabs) {k : Nat} {v : Value} (hd : decode bytes pc = .ok (.astore k, 2)) (hp : pc + 2 = pc') (hv : v.isRef = true) (hl : storeLocals Ls k v = some Ls') (K : Go p e below s nc ns Q (T.setTop (mkF m pc' Ls' St))) : Go p e below s nc ns Q (T.setTop (mkF m pc Ls (v :: St))) := by
  subst hp; exact Go.step (fun t q => XS.astore X.here B.x (g := mkF m pc Ls (v :: St)) rfl (B.d hd) rfl hv hl q) K
theorem g_iinc (X : Stand p l e R s m args below meth c T locs cells slots) (B : Bdy p s m meth c Z a0 own nm bytes maxL rt tabs) {k : Nat} {i : Int} {v : Int32} (hd : decode bytes pc = .ok (.iinc k i, 3)) (hp : pc + 3 = pc') (hl : Ls[k]? = some (.val (.int v))) (hs : storeLocals Ls k (.int (v + Int32.ofInt i)) = some Ls') (K : Go p e below s nc ns Q (T.setTop (mkF m pc' Ls' St))) : Go p e below s nc ns Q (T.setTop (mkF m pc Ls St)) := by
  subst hp; exact Go.step (fun t q => XS.iinc X.here B.x (g := mkF m pc Ls St) rfl (B.d hd) hl hs q) K
theorem g_iconst (X : Stand p l e R s m args below meth c T locs cells slots) (B : Bdy p s m meth c Z a0 own nm bytes maxL rt tabs) {i : Int} {v : Int32} (hd : decode bytes pc = .ok (.iconst i, 1)) (hp : pc + 1 = pc') (hv : Int32.ofInt i = v) (K : Go p e below s nc ns Q (T.setTop (mkF m pc' Ls (.int v :: St)))) : Go p e below s nc ns Q (T.setTop (mkF m pc Ls St)) := by
  subst hp hv; exact Go.step (fun t q => XS.iconst X.here B.x (g := mkF m pc Ls St) rfl (B.d hd) q) K
theorem g_bipush (X : Stand p l e R s m args below meth c T locs cells slots) (B : Bdy p s m meth c Z a0 own nm bytes maxL rt tabs) {i : Int} {v : Int32} (hd : decode bytes pc = .ok (.bipush i, 2)) (hp : pc + 2 = pc') (hv : (Int8.ofInt i).toInt32 = v) (K : Go p e below s nc ns Q (T.setTop (mkF m pc' Ls (.int v :: St)))) : Go p e below s nc ns Q (T.setTop (mkF m pc Ls St)) := by
  subst hp hv; exact Go.step (fun t q => XS.bipush X.here B.x (g := mkF m pc Ls St) rfl (B.d hd) q) K
theorem g_sipush (X : Stand p l e R s m args below meth c T locs cells slots) (B : Bdy p s m meth c Z a0 own nm bytes maxL rt tabs) {i : Int} {v : Int32} (hd : decode bytes pc = .ok (.sipush i, 3)) (hp : pc + 3 = pc') (hv : (Int16.ofInt i).toInt32 = v) (K : Go p e below s nc ns Q (T.setTop (mkF m pc' Ls (.int v :: St)))) : Go p e below s nc ns Q (T.setTop (mkF m pc Ls St)) := by
  subst hp hv; exact Go.step (fun t q => XS.sipush X.here B.x (g := mkF m pc Ls St) rfl (B.d hd) q) K
theorem g_lconst (X : Stand p l e R s m args below meth c T locs cells slots) (B : Bdy p s m meth c Z a0 own nm bytes maxL rt tabs) {k : Fin 2} {v : Int64} (hd : decode bytes pc = .ok (.lconst k, 1)) (hp : pc + 1 = pc') (hv : Int64.ofNat k = v) (K : Go p e below s nc ns Q (T.setTop (mkF m pc' Ls (.long v :: St)))) : Go p e below s nc ns Q (T.setTop (mkF m pc Ls St)) := by
  subst hp hv; exact Go.step (fun t q => XS.lconst X.here B.x (g := mkF m pc Ls St) rfl (B.d hd) q) K
theorem g_null (X : Stand p l e R s m args below meth c T locs cells slots) (B : Bdy p s m meth c Z a0 own nm bytes maxL rt tabs) (hd : decode bytes pc = .ok (.aconst_null, 1)) (hp : pc + 1 = pc') (K : Go p e below s nc ns Q (T.setTop (mkF m pc' Ls (.null :: St)))) : Go p e below s nc ns Q (T.setTop (mkF m pc Ls St)) := by
  subst hp; exact Go.step (fun t q => XS.aconstNull X.here B.x (g := mkF m pc Ls St) rfl (B.d hd) q) K
theorem g_ldc (X : Stand p l e R s m args below meth c T locs cells slots) (B : Bdy p s m meth c Z a0 own nm bytes maxL rt tabs) {i : Nat} {v : Int32} (w : (Jvm.Cond.constant own i v).before a0 Z = true) (hd : decode bytes pc = .ok (.ldc i, 2)) (hp : pc + 2 = pc') (K : Go p e below s nc ns Q (T.setTop (mkF m pc' Ls (.int v :: St)))) : Go p e below s nc ns Q (T.setTop (mkF m pc Ls St)) := by
  subst hp; exact Go.step (fun t q => X.ldcInt B.x B.o (mvT B.z w) (g := mkF m pc Ls St) rfl (B.d hd) t q) K
theorem g_ldcw (X : Stand p l e R s m args below meth c T locs cells slots) (B : Bdy p s m meth c Z a0 own nm bytes maxL rt tabs) {i : Nat} {v : Int32} (w : (Jvm.Cond.constant own i v).before a0 Z = true) (hd : decode bytes pc = .ok (.ldc_w i, 3)) (hp : pc + 3 = pc') (K : Go p e below s nc ns Q (T.setTop (mkF m pc' Ls (.int v :: St)))) : Go p e below s nc ns Q (T.setTop (mkF m pc Ls St)) := by
  subst hp; exact Go.step (fun t q => X.ldcwInt B.x B.o (mvT B.z w) (g := mkF m pc Ls St) rfl (B.d hd) t q) K
theorem g_ldc2 (X : Stand p l e R s m args below meth c T locs cells slots) (B : Bdy p s m meth c Z a0 own nm bytes maxL rt tabs) {i : Nat} {v : Int64} (w : (Jvm.Cond.constantLong own i v).before a0 Z = true) (hd : decode bytes pc = .ok (.ldc2_w i, 3)) (hp : pc + 3 = pc') (K : Go p e below s nc ns Q (T.setTop (mkF m pc' Ls (.long v :: St)))) : Go p e below s nc ns Q (T.setTop (mkF m pc Ls St)) := by
  subst hp; exact Go.step (fun t q => X.ldc2Long B.x B.o (mvT B.z w) (g := mkF m pc Ls St) rfl (B.d hd) t q) K
theorem g_iadd (X : Stand p l e R s m args below meth c T locs cells slots) (B : Bdy p s m meth c Z a0 own nm bytes maxL rt tabs) {x y : Int32} (hd : decode bytes pc = .ok (.iadd, 1)) (hp : pc + 1 = pc') (K : Go p e below s nc ns Q (T.setTop (mkF m pc' Ls (.int (x + y) :: St)))) : Go p e below s nc ns Q (T.setTop (mkF m pc Ls (.int y :: .int x :: St))) := by
  subst hp; exact Go.step (fun t q => XS.iadd X.here B.x (g := mkF m pc Ls (.int y :: .int x :: St)) rfl (B.d hd) rfl q) K
theorem g_isub (X : Stand p l e R s m args below meth c T locs cells slots) (B : Bdy p s m meth c Z a0 own nm bytes maxL rt tabs) {x y : Int32} (hd : decode bytes pc = .ok (.isub, 1)) (hp : pc + 1 = pc') (K : Go p e below s nc ns Q (T.setTop (mkF m pc' Ls (.int (x - y) :: St)))) : Go p e below s nc ns Q (T.setTop (mkF m pc Ls (.int y :: .int x :: St))) := by
  subst hp; exact Go.step (fun t q => XS.isub X.here B.x (g := mkF m pc Ls (.int y :: .int x :: St)) rfl (B.d hd) rfl q) K
theorem g_imul (X : Stand p l e R s m args below meth c T locs cells slots) (B : Bdy p s m meth c Z a0 own nm bytes maxL rt tabs) {x y : Int32} (hd : decode bytes pc = .ok (.imul, 1)) (hp : pc + 1 = pc') (K : Go p e below s nc ns Q (T.setTop (mkF m pc' Ls (.int (x * y) :: St)))) : Go p e below s nc ns Q (T.setTop (mkF m pc Ls (.int y :: .int x :: St))) := by
  subst hp; exact Go.step (fun t q => XS.imul X.here B.x (g := mkF m pc Ls (.int y :: .int x :: St)) rfl (B.d hd) rfl q) K
theorem g_iand (X : Stand p l e R s m args below meth c T locs cells slots) (B : Bdy p s m meth c Z a0 own nm bytes maxL rt tabs) {x y : Int32} (hd : decode bytes pc = .ok (.iand, 1)) (hp : pc + 1 = pc') (K : Go p e below s nc ns Q (T.setTop (mkF m pc' Ls (.int (x &&& y) :: St)))) : Go p e below s nc ns Q (T.setTop (mkF m pc Ls (.int y :: .int x :: St))) := by
  subst hp; exact Go.step (fun t q => XS.iand X.here B.x (g := mkF m pc Ls (.int y :: .int x :: St)) rfl (B.d hd) rfl q) K
theorem g_ior (X : Stand p l e R s m args below meth c T locs cells slots) (B : Bdy p s m meth c Z a0 own nm bytes maxL rt tabs) {x y : Int32} (hd : decode bytes pc = .ok (.ior, 1)) (hp : pc + 1 = pc') (K : Go p e below s nc ns Q (T.setTop (mkF m pc' Ls (.int (x ||| y) :: St)))) : Go p e below s nc ns Q (T.setTop (mkF m pc Ls (.int y :: .int x :: St))) := by
  subst hp; exact Go.step (fun t q => XS.ior X.here B.x (g := mkF m pc Ls (.int y :: .int x :: St)) rfl (B.d hd) rfl q) K
theorem g_ixor (X : Stand p l e R s m args below meth c T locs cells slots) (B : Bdy p s m meth c Z a0 own nm bytes maxL rt tabs) {x y : Int32} (hd : decode bytes pc = .ok (.ixor, 1)) (hp : pc + 1 = pc') (K : Go p e below s nc ns Q (T.setTop (mkF m pc' Ls (.int (x ^^^ y) :: St)))) : Go p e below s nc ns Q (T.setTop (mkF m pc Ls (.int y :: .int x :: St))) := by
  subst hp; exact Go.step (fun t q => XS.ixor X.here B.x (g := mkF m pc Ls (.int y :: .int x :: St)) rfl (B.d hd) rfl q) K
theorem g_ishl (X : Stand p l e R s m args below meth c T locs cells slots) (B : Bdy p s m meth c Z a0 own nm bytes maxL rt tabs) {x z : Int32} {y : Int32} (hd : decode bytes pc = .ok (.ishl, 1)) (hp : pc + 1 = pc') (hz : x <<< (y &&& 31) = z) (K : Go p e below s nc ns Q (T.setTop (mkF m pc' Ls (.int z :: St)))) : Go p e below s nc ns Q (T.setTop (mkF m pc Ls (.int y :: .int x :: St))) := by
  subst hp hz; exact Go.step (fun t q => XS.ishl X.here B.x (g := mkF m pc Ls (.int y :: .int x :: St)) rfl (B.d hd) rfl q) K
theorem g_ishr (X : Stand p l e R s m args below meth c T locs cells slots) (B : Bdy p s m meth c Z a0 own nm bytes maxL rt tabs) {x z : Int32} {y : Int32} (hd : decode bytes pc = .ok (.ishr, 1)) (hp : pc + 1 = pc') (hz : x >>> (y &&& 31) = z) (K : Go p e below s nc ns Q (T.setTop (mkF m pc' Ls (.int z :: St)))) : Go p e below s nc ns Q (T.setTop (mkF m pc Ls (.int y :: .int x :: St))) := by
  subst hp hz; exact Go.step (fun t q => XS.ishr X.here B.x (g := mkF m pc Ls (.int y :: .int x :: St)) rfl (B.d hd) rfl q) K
theorem g_iushr (X : Stand p l e R s m args below meth c T locs cells slots) (B : Bdy p s m meth c Z a0 own nm bytes maxL rt tabs) {x z : Int32} {y : Int32} (hd : decode bytes pc = .ok (.iushr, 1)) (hp : pc + 1 = pc') (hz : (x.toUInt32 >>> (y &&& 31).toUInt32).toInt32 = z) (K : Go p e below s nc ns Q (T.setTop (mkF m pc' Ls (.int z :: St)))) : Go p e below s nc ns Q (T.setTop (mkF m pc Ls (.int y :: .int x :: St))) := by
  subst hp hz; exact Go.step (fun t q => XS.iushr X.here B.x (g := mkF m pc Ls (.int y :: .int x :: St)) rfl (B.d hd) rfl q) K
theorem g_ladd (X : Stand p l e R s m args below meth c T locs cells slots) (B : Bdy p s m meth c Z a0 own nm bytes maxL rt tabs) {x y : Int64} (hd : decode bytes pc = .ok (.ladd, 1)) (hp : pc + 1 = pc') (K : Go p e below s nc ns Q (T.setTop (mkF m pc' Ls (.long (x + y) :: St)))) : Go p e below s nc ns Q (T.setTop (mkF m pc Ls (.long y :: .long x :: St))) := by
  subst hp; exact Go.step (fun t q => XS.ladd X.here B.x (g := mkF m pc Ls (.long y :: .long x :: St)) rfl (B.d hd) rfl q) K
theorem g_lsub (X : Stand p l e R s m args below meth c T locs cells slots) (B : Bdy p s m meth c Z a0 own nm bytes maxL rt tabs) {x y : Int64} (hd : decode bytes pc = .ok (.lsub, 1)) (hp : pc + 1 = pc') (K : Go p e below s nc ns Q (T.setTop (mkF m pc' Ls (.long (x - y) :: St)))) : Go p e below s nc ns Q (T.setTop (mkF m pc Ls (.long y :: .long x :: St))) := by
  subst hp; exact Go.step (fun t q => XS.lsub X.here B.x (g := mkF m pc Ls (.long y :: .long x :: St)) rfl (B.d hd) rfl q) K
theorem g_lmul (X : Stand p l e R s m args below meth c T locs cells slots) (B : Bdy p s m meth c Z a0 own nm bytes maxL rt tabs) {x y : Int64} (hd : decode bytes pc = .ok (.lmul, 1)) (hp : pc + 1 = pc') (K : Go p e below s nc ns Q (T.setTop (mkF m pc' Ls (.long (x * y) :: St)))) : Go p e below s nc ns Q (T.setTop (mkF m pc Ls (.long y :: .long x :: St))) := by
  subst hp; exact Go.step (fun t q => XS.lmul X.here B.x (g := mkF m pc Ls (.long y :: .long x :: St)) rfl (B.d hd) rfl q) K
theorem g_land (X : Stand p l e R s m args below meth c T locs cells slots) (B : Bdy p s m meth c Z a0 own nm bytes maxL rt tabs) {x y : Int64} (hd : decode bytes pc = .ok (.land, 1)) (hp : pc + 1 = pc') (K : Go p e below s nc ns Q (T.setTop (mkF m pc' Ls (.long (x &&& y) :: St)))) : Go p e below s nc ns Q (T.setTop (mkF m pc Ls (.long y :: .long x :: St))) := by
  subst hp; exact Go.step (fun t q => XS.land X.here B.x (g := mkF m pc Ls (.long y :: .long x :: St)) rfl (B.d hd) rfl q) K
theorem g_lor (X : Stand p l e R s m args below meth c T locs cells slots) (B : Bdy p s m meth c Z a0 own nm bytes maxL rt tabs) {x y : Int64} (hd : decode bytes pc = .ok (.lor, 1)) (hp : pc + 1 = pc') (K : Go p e below s nc ns Q (T.setTop (mkF m pc' Ls (.long (x ||| y) :: St)))) : Go p e below s nc ns Q (T.setTop (mkF m pc Ls (.long y :: .long x :: St))) := by
  subst hp; exact Go.step (fun t q => XS.lor X.here B.x (g := mkF m pc Ls (.long y :: .long x :: St)) rfl (B.d hd) rfl q) K
theorem g_lxor (X : Stand p l e R s m args below meth c T locs cells slots) (B : Bdy p s m meth c Z a0 own nm bytes maxL rt tabs) {x y : Int64} (hd : decode bytes pc = .ok (.lxor, 1)) (hp : pc + 1 = pc') (K : Go p e below s nc ns Q (T.setTop (mkF m pc' Ls (.long (x ^^^ y) :: St)))) : Go p e below s nc ns Q (T.setTop (mkF m pc Ls (.long y :: .long x :: St))) := by
  subst hp; exact Go.step (fun t q => XS.lxor X.here B.x (g := mkF m pc Ls (.long y :: .long x :: St)) rfl (B.d hd) rfl q) K
theorem g_lshl (X : Stand p l e R s m args below meth c T locs cells slots) (B : Bdy p s m meth c Z a0 own nm bytes maxL rt tabs) {x z : Int64} {y : Int32} (hd : decode bytes pc = .ok (.lshl, 1)) (hp : pc + 1 = pc') (hz : x <<< (y &&& 63).toInt64 = z) (K : Go p e below s nc ns Q (T.setTop (mkF m pc' Ls (.long z :: St)))) : Go p e below s nc ns Q (T.setTop (mkF m pc Ls (.int y :: .long x :: St))) := by
  subst hp hz; exact Go.step (fun t q => XS.lshl X.here B.x (g := mkF m pc Ls (.int y :: .long x :: St)) rfl (B.d hd) rfl q) K
theorem g_lshr (X : Stand p l e R s m args below meth c T locs cells slots) (B : Bdy p s m meth c Z a0 own nm bytes maxL rt tabs) {x z : Int64} {y : Int32} (hd : decode bytes pc = .ok (.lshr, 1)) (hp : pc + 1 = pc') (hz : x >>> (y &&& 63).toInt64 = z) (K : Go p e below s nc ns Q (T.setTop (mkF m pc' Ls (.long z :: St)))) : Go p e below s nc ns Q (T.setTop (mkF m pc Ls (.int y :: .long x :: St))) := by
  subst hp hz; exact Go.step (fun t q => XS.lshr X.here B.x (g := mkF m pc Ls (.int y :: .long x :: St)) rfl (B.d hd) rfl q) K
theorem g_lushr (X : Stand p l e R s m args below meth c T locs cells slots) (B : Bdy p s m meth c Z a0 own nm bytes maxL rt tabs) {x z : Int64} {y : Int32} (hd : decode bytes pc = .ok (.lushr, 1)) (hp : pc + 1 = pc') (hz : (x.toUInt64 >>> (y &&& 63).toInt64.toUInt64).toInt64 = z) (K : Go p e below s nc ns Q (T.setTop (mkF m pc' Ls (.long z :: St)))) : Go p e below s nc ns Q (T.setTop (mkF m pc Ls (.int y :: .long x :: St))) := by
  subst hp hz; exact Go.step (fun t q => XS.lushr X.here B.x (g := mkF m pc Ls (.int y :: .long x :: St)) rfl (B.d hd) rfl q) K
theorem g_ineg (X : Stand p l e R s m args below meth c T locs cells slots) (B : Bdy p s m meth c Z a0 own nm bytes maxL rt tabs) {x : Int32} (hd : decode bytes pc = .ok (.ineg, 1)) (hp : pc + 1 = pc') (K : Go p e below s nc ns Q (T.setTop (mkF m pc' Ls (.int ((-x)) :: St)))) : Go p e below s nc ns Q (T.setTop (mkF m pc Ls (.int x :: St))) := by
  subst hp; exact Go.step (fun t q => XS.ineg X.here B.x (g := mkF m pc Ls (.int x :: St)) rfl (B.d hd) rfl q) K
theorem g_lneg (X : Stand p l e R s m args below meth c T locs cells slots) (B : Bdy p s m meth c Z a0 own nm bytes maxL rt tabs) {x : Int64} (hd : decode bytes pc = .ok (.lneg, 1)) (hp : pc + 1 = pc') (K : Go p e below s nc ns Q (T.setTop (mkF m pc' Ls (.long ((-x)) :: St)))) : Go p e below s nc ns Q (T.setTop (mkF m pc Ls (.long x :: St))) := by
  subst hp; exact Go.step (fun t q => XS.lneg X.here B.x (g := mkF m pc Ls (.long x :: St)) rfl (B.d hd) rfl q) K
theorem g_i2l (X : Stand p l e R s m args below meth c T locs cells slots) (B : Bdy p s m meth c Z a0 own nm bytes maxL rt tabs) {x : Int32} (hd : decode bytes pc = .ok (.i2l, 1)) (hp : pc + 1 = pc') (K : Go p e below s nc ns Q (T.setTop (mkF m pc' Ls (.long (x.toInt64) :: St)))) : Go p e below s nc ns Q (T.setTop (mkF m pc Ls (.int x :: St))) := by
  subst hp; exact Go.step (fun t q => XS.i2l X.here B.x (g := mkF m pc Ls (.int x :: St)) rfl (B.d hd) rfl q) K
theorem g_l2i (X : Stand p l e R s m args below meth c T locs cells slots) (B : Bdy p s m meth c Z a0 own nm bytes maxL rt tabs) {x : Int64} (hd : decode bytes pc = .ok (.l2i, 1)) (hp : pc + 1 = pc') (K : Go p e below s nc ns Q (T.setTop (mkF m pc' Ls (.int (x.toInt32) :: St)))) : Go p e below s nc ns Q (T.setTop (mkF m pc Ls (.long x :: St))) := by
  subst hp; exact Go.step (fun t q => XS.l2i X.here B.x (g := mkF m pc Ls (.long x :: St)) rfl (B.d hd) rfl q) K
theorem g_i2b (X : Stand p l e R s m args below meth c T locs cells slots) (B : Bdy p s m meth c Z a0 own nm bytes maxL rt tabs) {x : Int32} (hd : decode bytes pc = .ok (.i2b, 1)) (hp : pc + 1 = pc') (K : Go p e below s nc ns Q (T.setTop (mkF m pc' Ls (.int (x.toInt8.toInt32) :: St)))) : Go p e below s nc ns Q (T.setTop (mkF m pc Ls (.int x :: St))) := by
  subst hp; exact Go.step (fun t q => XS.i2b X.here B.x (g := mkF m pc Ls (.int x :: St)) rfl (B.d hd) rfl q) K
theorem g_i2s (X : Stand p l e R s m args below meth c T locs cells slots) (B : Bdy p s m meth c Z a0 own nm bytes maxL rt tabs) {x : Int32} (hd : decode bytes pc = .ok (.i2s, 1)) (hp : pc + 1 = pc') (K : Go p e below s nc ns Q (T.setTop (mkF m pc' Ls (.int (x.toInt16.toInt32) :: St)))) : Go p e below s nc ns Q (T.setTop (mkF m pc Ls (.int x :: St))) := by
  subst hp; exact Go.step (fun t q => XS.i2s X.here B.x (g := mkF m pc Ls (.int x :: St)) rfl (B.d hd) rfl q) K
theorem g_i2c (X : Stand p l e R s m args below meth c T locs cells slots) (B : Bdy p s m meth c Z a0 own nm bytes maxL rt tabs) {x : Int32} (hd : decode bytes pc = .ok (.i2c, 1)) (hp : pc + 1 = pc') (K : Go p e below s nc ns Q (T.setTop (mkF m pc' Ls (.int (x.toUInt32.toUInt16.toUInt32.toInt32) :: St)))) : Go p e below s nc ns Q (T.setTop (mkF m pc Ls (.int x :: St))) := by
  subst hp; exact Go.step (fun t q => XS.i2c X.here B.x (g := mkF m pc Ls (.int x :: St)) rfl (B.d hd) rfl q) K
theorem g_irem (X : Stand p l e R s m args below meth c T locs cells slots) (B : Bdy p s m meth c Z a0 own nm bytes maxL rt tabs) {x y : Int32} (hy : y ≠ 0) (hd : decode bytes pc = .ok (.irem, 1)) (hp : pc + 1 = pc') (K : Go p e below s nc ns Q (T.setTop (mkF m pc' Ls (.int (x % y) :: St)))) : Go p e below s nc ns Q (T.setTop (mkF m pc Ls (.int y :: .int x :: St))) := by
  subst hp; exact Go.step (fun t q => Jvm.RoadKit.iremM X B.x (g := mkF m pc Ls (.int y :: .int x :: St)) rfl (B.d hd) rfl hy q) K
theorem g_idiv (X : Stand p l e R s m args below meth c T locs cells slots) (B : Bdy p s m meth c Z a0 own nm bytes maxL rt tabs) {x y : Int32} (hy : y ≠ 0) (hd : decode bytes pc = .ok (.idiv, 1)) (hp : pc + 1 = pc') (K : Go p e below s nc ns Q (T.setTop (mkF m pc' Ls (.int (x / y) :: St)))) : Go p e below s nc ns Q (T.setTop (mkF m pc Ls (.int y :: .int x :: St))) := by
  subst hp; exact Go.step (fun t q => XS.idiv X.here B.x (g := mkF m pc Ls (.int y :: .int x :: St)) rfl (B.d hd) rfl hy q) K
theorem g_ldiv (X : Stand p l e R s m args below meth c T locs cells slots) (B : Bdy p s m meth c Z a0 own nm bytes maxL rt tabs) {x y : Int64} (hy : y ≠ 0) (hd : decode bytes pc = .ok (.ldiv, 1)) (hp : pc + 1 = pc') (K : Go p e below s nc ns Q (T.setTop (mkF m pc' Ls (.long (x / y) :: St)))) : Go p e below s nc ns Q (T.setTop (mkF m pc Ls (.long y :: .long x :: St))) := by
  subst hp; exact Go.step (fun t q => XS.ldiv X.here B.x (g := mkF m pc Ls (.long y :: .long x :: St)) rfl (B.d hd) rfl hy q) K
theorem g_lrem (X : Stand p l e R s m args below meth c T locs cells slots) (B : Bdy p s m meth c Z a0 own nm bytes maxL rt tabs) {x y : Int64} (hy : y ≠ 0) (hd : decode bytes pc = .ok (.lrem, 1)) (hp : pc + 1 = pc') (K : Go p e below s nc ns Q (T.setTop (mkF m pc' Ls (.long (x % y) :: St)))) : Go p e below s nc ns Q (T.setTop (mkF m pc Ls (.long y :: .long x :: St))) := by
  subst hp; rw [← lrem_mod] at K; exact Go.step (fun t q => XS.lrem X.here B.x (g := mkF m pc Ls (.long y :: .long x :: St)) rfl (B.d hd) rfl hy q) K
theorem g_dup (X : Stand p l e R s m args below meth c T locs cells slots) (B : Bdy p s m meth c Z a0 own nm bytes maxL rt tabs) {v : Value} (hd : decode bytes pc = .ok (.dup, 1)) (hp : pc + 1 = pc') (hv : v.category = 1) (K : Go p e below s nc ns Q (T.setTop (mkF m pc' Ls (v :: v :: St)))) : Go p e below s nc ns Q (T.setTop (mkF m pc Ls (v :: St))) := by
  subst hp; exact Go.step (fun t q => XS.dup X.here B.x (g := mkF m pc Ls (v :: St)) rfl (B.d hd) rfl hv q) K
theorem g_dupX1 (X : Stand p l e R s m args below meth c T locs cells slots) (B : Bdy p s m meth c Z a0 own nm bytes maxL rt tabs) {v w : Value} (hd : decode bytes pc = .ok (.dup_x1, 1)) (hp : pc + 1 = pc') (hv : v.category = 1) (hw : w.category = 1) (K : Go p e below s nc ns Q (T.setTop (mkF m pc' Ls (v :: w :: v :: St)))) : Go p e below s nc ns Q (T.setTop (mkF m pc Ls (v :: w :: St))) := by
  subst hp; exact Go.step (fun t q => XS.dupX1 X.here B.x (g := mkF m pc Ls (v :: w :: St)) rfl (B.d hd) rfl hv hw q) K
theorem g_dup2 (X : Stand p l e R s m args below meth c T locs cells slots) (B : Bdy p s m meth c Z a0 own nm bytes maxL rt tabs) {v w : Value} (hd : decode bytes pc = .ok (.dup2, 1)) (hp : pc + 1 = pc') (hv : v.category = 1) (hw : w.category = 1) (K : Go p e below s nc ns Q (T.setTop (mkF m pc' Ls (v :: w :: v :: w :: St)))) : Go p e below s nc ns Q (T.setTop (mkF m pc Ls (v :: w :: St))) := by
  subst hp; have hd' := B.d hd; have hx := B.x
  refine Go.step (fun t q => ?_) K
  jvm_step X.here [X.here.top, hx, hd', hv, hw]
  exact q
theorem g_dup2L (X : Stand p l e R s m args below meth c T locs cells slots) (B : Bdy p s m meth c Z a0 own nm bytes maxL rt tabs) {v : Int64} (hd : decode bytes pc = .ok (.dup2, 1)) (hp : pc + 1 = pc') (K : Go p e below s nc ns Q (T.setTop (mkF m pc' Ls (.long v :: .long v :: St)))) : Go p e below s nc ns Q (T.setTop (mkF m pc Ls (.long v :: St))) := by
  subst hp; have hd' := B.d hd; have hx := B.x
  refine Go.step (fun t q => ?_) K
  jvm_step X.here [X.here.top, hx, hd', Value.category]
  exact q
theorem g_pop (X : Stand p l e R s m args below meth c T locs cells slots) (B : Bdy p s m meth c Z a0 own nm bytes maxL rt tabs) {v : Value} (hd : decode bytes pc = .ok (.pop, 1)) (hp : pc + 1 = pc') (hv : v.category = 1) (K : Go p e below s nc ns Q (T.setTop (mkF m pc' Ls St))) : Go p e below s nc ns Q (T.setTop (mkF m pc Ls (v :: St))) := by
  subst hp; exact Go.step (fun t q => XS.pop X.here B.x (g := mkF m pc Ls (v :: St)) rfl (B.d hd) rfl hv q) K
theorem g_goto (X : Stand p l e R s m args below meth c T locs cells slots) (B : Bdy p s m meth c Z a0 own nm bytes maxL rt tabs) {o : Int} (hd : decode bytes pc = .ok (.goto o, 3)) (ho : 0 ≤ (pc : Int) + o) (hp : ((pc : Int) + o).toNat = pc') (K : Go p e below s nc ns Q (T.setTop (mkF m pc' Ls St))) : Go p e below s nc ns Q (T.setTop (mkF m pc Ls St)) :=
  Go.step (fun t q => XS.goto X.here B.x (g := mkF m pc Ls St) rfl rfl (B.d hd) ho hp q) K
/-! branches: K1 where the comparison holds, K2 where it doesn't -/
theorem g_icmp_lt (X : Stand p l e R s m args below meth c T locs cells slots) (B : Bdy p s m meth c Z a0 own nm bytes maxL rt tabs) {x y : Int32} {o : Int} {pcT pcF : Nat} (hd : decode bytes pc = .ok (.if_icmp .lt o, 3)) (ho : 0 ≤ (pc : Int) + o) (hT : ((pc : Int) + o).toNat = pcT) (hF : pc + 3 = pcF) (K1 : x < y → Go p e below s nc ns Q (T.setTop (mkF m pcT Ls St))) (K2 : ¬ x < y → Go p e below s nc ns Q (T.setTop (mkF m pcF Ls St))) : Go p e below s nc ns Q (T.setTop (mkF m pc Ls (.int y :: .int x :: St))) := by
  by_cases q : x < y
  · exact Go.step (fun t k => XS.icmpYes X.here B.x (g := mkF m pc Ls (.int y :: .int x :: St)) rfl rfl (B.d hd) rfl (tlt q).1 ho hT k) (K1 q)
  · subst hF; exact Go.step (fun t k => XS.icmpNo X.here B.x (g := mkF m pc Ls (.int y :: .int x :: St)) rfl (B.d hd) rfl (flt q).1 k) (K2 q)
theorem g_if_lt (X : Stand p l e R s m args below meth c T locs cells slots) (B : Bdy p s m meth c Z a0 own nm bytes maxL rt tabs) {x : Int32} {o : Int} {pcT pcF : Nat} (hd : decode bytes pc = .ok (.ifCond .lt o, 3)) (ho : 0 ≤ (pc : Int) + o) (hT : ((pc : Int) + o).toNat = pcT) (hF : pc + 3 = pcF) (K1 : x < (0 : Int32) → Go p e below s nc ns Q (T.setTop (mkF m pcT Ls St))) (K2 : ¬ x < (0 : Int32) → Go p e below s nc ns Q (T.setTop (mkF m pcF Ls St))) : Go p e below s nc ns Q (T.setTop (mkF m pc Ls (.int x :: St))) := by
  by_cases q : x < (0 : Int32)
  · exact Go.step (fun t k => XS.ifYes X.here B.x (g := mkF m pc Ls (.int x :: St)) rfl rfl (B.d hd) rfl ((if0 _ _).trans (tlt q).1) ho hT k) (K1 q)
  · subst hF; exact Go.step (fun t k => XS.ifNo X.here B.x (g := mkF m pc Ls (.int x :: St)) rfl (B.d hd) rfl ((if0 _ _).trans (flt q).1) k) (K2 q)
theorem g_lcmp_lt (X : Stand p l e R s m args below meth c T locs cells slots) (B : Bdy p s m meth c Z a0 own nm bytes maxL rt tabs) {x y : Int64} {o : Int} {pcT pcF : Nat} (hd1 : decode bytes pc = .ok (.lcmp, 1)) (hd : decode bytes (pc + 1) = .ok (.ifCond .lt o, 3)) (ho : 0 ≤ ((pc + 1 : Nat) : Int) + o) (hT : (((pc + 1 : Nat) : Int) + o).toNat = pcT) (hF : pc + 4 = pcF) (K1 : x < y → Go p e below s nc ns Q (T.setTop (mkF m pcT Ls St))) (K2 : ¬ x < y → Go p e below s nc ns Q (T.setTop (mkF m pcF Ls St))) : Go p e below s nc ns Q (T.setTop (mkF m pc Ls (.long y :: .long x :: St))) :=
  Go.step (fun t q => XS.lcmp X.here B.x (g := mkF m pc Ls (.long y :: .long x :: St)) rfl (B.d hd1) rfl q) (g_if_lt X B hd ho hT hF (fun q => K1 ((lw_lt x y).mp q)) (fun q => K2 fun z => q ((lw_lt x y).mpr z)))
theorem g_icmp_ge (X : Stand p l e R s m args below meth c T locs cells slots) (B : Bdy p s m meth c Z a0 own nm bytes maxL rt tabs) {x y : Int32} {o : Int} {pcT pcF : Nat} (hd : decode bytes pc = .ok (.if_icmp .ge o, 3)) (ho : 0 ≤ (pc : Int) + o) (hT : ((pc : Int) + o).toNat = pcT) (hF : pc + 3 = pcF) (K1 : x < y → Go p e below s nc ns Q (T.setTop (mkF m pcF Ls St))) (K2 : ¬ x < y → Go p e below s nc ns Q (T.setTop (mkF m pcT Ls St))) : Go p e below s nc ns Q (T.setTop (mkF m pc Ls (.int y :: .int x :: St))) := by
  by_cases q : x < y
  · subst hF; exact Go.step (fun t k => XS.icmpNo X.here B.x (g := mkF m pc Ls (.int y :: .int x :: St)) rfl (B.d hd) rfl (tlt q).2.1 k) (K1 q)
  · exact Go.step (fun t k => XS.icmpYes X.here B.x (g := mkF m pc Ls (.int y :: .int x :: St)) rfl rfl (B.d hd) rfl (flt q).2.1 ho hT k) (K2 q)
theorem g_if_ge (X : Stand p l e R s m args below meth c T locs cells slots) (B : Bdy p s m meth c Z a0 own nm bytes maxL rt tabs) {x : Int32} {o : Int} {pcT pcF : Nat} (hd : decode bytes pc = .ok (.ifCond .ge o, 3)) (ho : 0 ≤ (pc : Int) + o) (hT : ((pc : Int) + o).toNat = pcT) (hF : pc + 3 = pcF) (K1 : x < (0 : Int32) → Go p e below s nc ns Q (T.setTop (mkF m pcF Ls St))) (K2 : ¬ x < (0 : Int32) → Go p e below s nc ns Q (T.setTop (mkF m pcT Ls St))) : Go p e below s nc ns Q (T.setTop (mkF m pc Ls (.int x :: St))) := by
  by_cases q : x < (0 : Int32)
  · subst hF; exact Go.step (fun t k => XS.ifNo X.here B.x (g := mkF m pc Ls (.int x :: St)) rfl (B.d hd) rfl ((if0 _ _).trans (tlt q).2.1) k) (K1 q)
  · exact Go.step (fun t k => XS.ifYes X.here B.x (g := mkF m pc Ls (.int x :: St)) rfl rfl (B.d hd) rfl ((if0 _ _).trans (flt q).2.1) ho hT k) (K2 q)
theorem g_lcmp_ge (X : Stand p l e R s m args below meth c T locs cells slots) (B : Bdy p s m meth c Z a0 own nm bytes maxL rt tabs) {x y : Int64} {o : Int} {pcT pcF : Nat} (hd1 : decode bytes pc = .ok (.lcmp, 1)) (hd : decode bytes (pc + 1) = .ok (.ifCond .ge o, 3)) (ho : 0 ≤ ((pc + 1 : Nat) : Int) + o) (hT : (((pc + 1 : Nat) : Int) + o).toNat = pcT) (hF : pc + 4 = pcF) (K1 : x < y → Go p e below s nc ns Q (T.setTop (mkF m pcF Ls St))) (K2 : ¬ x < y → Go p e below s nc ns Q (T.setTop (mkF m pcT Ls St))) : Go p e below s nc ns Q (T.setTop (mkF m pc Ls (.long y :: .long x :: St))) :=
  Go.step (fun t q => XS.lcmp X.here B.x (g := mkF m pc Ls (.long y :: .long x :: St)) rfl (B.d hd1) rfl q) (g_if_ge X B hd ho hT hF (fun q => K1 ((lw_lt x y).mp q)) (fun q => K2 fun z => q ((lw_lt x y).mpr z)))
theorem g_icmp_gt (X : Stand p l e R s m args below meth c T locs cells slots) (B : Bdy p s m meth c Z a0 own nm bytes maxL rt tabs) {x y : Int32} {o : Int} {pcT pcF : Nat} (hd : decode bytes pc = .ok (.if_icmp .gt o, 3)) (ho : 0 ≤ (pc : Int) + o) (hT : ((pc : Int) + o).toNat = pcT) (hF : pc + 3 = pcF) (K1 : y < x → Go p e below s nc ns Q (T.setTop (mkF m pcT Ls St))) (K2 : ¬ y < x → Go p e below s nc ns Q (T.setTop (mkF m pcF Ls St))) : Go p e below s nc ns Q (T.setTop (mkF m pc Ls (.int y :: .int x :: St))) := by
  by_cases q : y < x
  · exact Go.step (fun t k => XS.icmpYes X.here B.x (g := mkF m pc Ls (.int y :: .int x :: St)) rfl rfl (B.d hd) rfl (tlt q).2.2.1 ho hT k) (K1 q)
  · subst hF; exact Go.step (fun t k => XS.icmpNo X.here B.x (g := mkF m pc Ls (.int y :: .int x :: St)) rfl (B.d hd) rfl (flt q).2.2.1 k) (K2 q)
theorem g_if_gt (X : Stand p l e R s m args below meth c T locs cells slots) (B : Bdy p s m meth c Z a0 own nm bytes maxL rt tabs) {x : Int32} {o : Int} {pcT pcF : Nat} (hd : decode bytes pc = .ok (.ifCond .gt o, 3)) (ho : 0 ≤ (pc : Int) + o) (hT : ((pc : Int) + o).toNat = pcT) (hF : pc + 3 = pcF) (K1 : (0 : Int32) < x → Go p e below s nc ns Q (T.setTop (mkF m pcT Ls St))) (K2 : ¬ (0 : Int32) < x → Go p e below s nc ns Q (T.setTop (mkF m pcF Ls St))) : Go p e below s nc ns Q (T.setTop (mkF m pc Ls (.int x :: St))) := by
  by_cases q : (0 : Int32) < x
  · exact Go.step (fun t k => XS.ifYes X.here B.x (g := mkF m pc Ls (.int x :: St)) rfl rfl (B.d hd) rfl ((if0 _ _).trans (tlt q).2.2.1) ho hT k) (K1 q)
  · subst hF; exact Go.step (fun t k => XS.ifNo X.here B.x (g := mkF m pc Ls (.int x :: St)) rfl (B.d hd) rfl ((if0 _ _).trans (flt q).2.2.1) k) (K2 q)
theorem g_lcmp_gt (X : Stand p l e R s m args below meth c T locs cells slots) (B : Bdy p s m meth c Z a0 own nm bytes maxL rt tabs) {x y : Int64} {o : Int} {pcT pcF : Nat} (hd1 : decode bytes pc = .ok (.lcmp, 1)) (hd : decode bytes (pc + 1) = .ok (.ifCond .gt o, 3)) (ho : 0 ≤ ((pc + 1 : Nat) : Int) + o) (hT : (((pc + 1 : Nat) : Int) + o).toNat = pcT) (hF : pc + 4 = pcF) (K1 : y < x → Go p e below s nc ns Q (T.setTop (mkF m pcT Ls St))) (K2 : ¬ y < x → Go p e below s nc ns Q (T.setTop (mkF m pcF Ls St))) : Go p e below s nc ns Q (T.setTop (mkF m pc Ls (.long y :: .long x :: St))) :=
  Go.step (fun t q => XS.lcmp X.here B.x (g := mkF m pc Ls (.long y :: .long x :: St)) rfl (B.d hd1) rfl q) (g_if_gt X B hd ho hT hF (fun q => K1 ((lw_gt x y).mp q)) (fun q => K2 fun z => q ((lw_gt x y).mpr z)))
theorem g_icmp_le (X : Stand p l e R s m args below meth c T locs cells slots) (B : Bdy p s m meth c Z a0 own nm bytes maxL rt tabs) {x y : Int32} {o : Int} {pcT pcF : Nat} (hd : decode bytes pc = .ok (.if_icmp .le o, 3)) (ho : 0 ≤ (pc : Int) + o) (hT : ((pc : Int) + o).toNat = pcT) (hF : pc + 3 = pcF) (K1 : y < x → Go p e below s nc ns Q (T.setTop (mkF m pcF Ls St))) (K2 : ¬ y < x → Go p e below s nc ns Q (T.setTop (mkF m pcT Ls St))) : Go p e below s nc ns Q (T.setTop (mkF m pc Ls (.int y :: .int x :: St))) := by
  by_cases q : y < x
  · subst hF; exact Go.step (fun t k => XS.icmpNo X.here B.x (g := mkF m pc Ls (.int y :: .int x :: St)) rfl (B.d hd) rfl (tlt q).2.2.2 k) (K1 q)
  · exact Go.step (fun t k => XS.icmpYes X.here B.x (g := mkF m pc Ls (.int y :: .int x :: St)) rfl rfl (B.d hd) rfl (flt q).2.2.2 ho hT k) (K2 q)
theorem g_if_le (X : Stand p l e R s m args below meth c T locs cells slots) (B : Bdy p s m meth c Z a0 own nm bytes maxL rt tabs) {x : Int32} {o : Int} {pcT pcF : Nat} (hd : decode bytes pc = .ok (.ifCond .le o, 3)) (ho : 0 ≤ (pc : Int) + o) (hT : ((pc : Int) + o).toNat = pcT) (hF : pc + 3 = pcF) (K1 : (0 : Int32) < x → Go p e below s nc ns Q (T.setTop (mkF m pcF Ls St))) (K2 : ¬ (0 : Int32) < x → Go p e below s nc ns Q (T.setTop (mkF m pcT Ls St))) : Go p e below s nc ns Q (T.setTop (mkF m pc Ls (.int x :: St))) := by
  by_cases q : (0 : Int32) < x
  · subst hF; exact Go.step (fun t k => XS.ifNo X.here B.x (g := mkF m pc Ls (.int x :: St)) rfl (B.d hd) rfl ((if0 _ _).trans (tlt q).2.2.2) k) (K1 q)
  · exact Go.step (fun t k => XS.ifYes X.here B.x (g := mkF m pc Ls (.int x :: St)) rfl rfl (B.d hd) rfl ((if0 _ _).trans (flt q).2.2.2) ho hT k) (K2 q)
theorem g_lcmp_le (X : Stand p l e R s m args below meth c T locs cells slots) (B : Bdy p s m meth c Z a0 own nm bytes maxL rt tabs) {x y : Int64} {o : Int} {pcT pcF : Nat} (hd1 : decode bytes pc = .ok (.lcmp, 1)) (hd : decode bytes (pc + 1) = .ok (.ifCond .le o, 3)) (ho : 0 ≤ ((pc + 1 : Nat) : Int) + o) (hT : (((pc + 1 : Nat) : Int) + o).toNat = pcT) (hF : pc + 4 = pcF) (K1 : y < x → Go p e below s nc ns Q (T.setTop (mkF m pcF Ls St))) (K2 : ¬ y < x → Go p e below s nc ns Q (T.setTop (mkF m pcT Ls St))) : Go p e below s nc ns Q (T.setTop (mkF m pc Ls (.long y :: .long x :: St))) :=
  Go.step (fun t q => XS.lcmp X.here B.x (g := mkF m pc Ls (.long y :: .long x :: St)) rfl (B.d hd1) rfl q) (g_if_le X B hd ho hT hF (fun q => K1 ((lw_gt x y).mp q)) (fun q => K2 fun z => q ((lw_gt x y).mpr z)))
theorem g_icmp_eq (X : Stand p l e R s m args below meth c T locs cells slots) (B : Bdy p s m meth c Z a0 own nm bytes maxL rt tabs) {x y : Int32} {o : Int} {pcT pcF : Nat} (hd : decode bytes pc = .ok (.if_icmp .eq o, 3)) (ho : 0 ≤ (pc : Int) + o) (hT : ((pc : Int) + o).toNat = pcT) (hF : pc + 3 = pcF) (K1 : x = y → Go p e below s nc ns Q (T.setTop (mkF m pcT Ls St))) (K2 : ¬ x = y → Go p e below s nc ns Q (T.setTop (mkF m pcF Ls St))) : Go p e below s nc ns Q (T.setTop (mkF m pc Ls (.int y :: .int x :: St))) := by
  by_cases q : x = y
  · exact Go.step (fun t k => XS.icmpYes X.here B.x (g := mkF m pc Ls (.int y :: .int x :: St)) rfl rfl (B.d hd) rfl (teq q).1 ho hT k) (K1 q)
  · subst hF; exact Go.step (fun t k => XS.icmpNo X.here B.x (g := mkF m pc Ls (.int y :: .int x :: St)) rfl (B.d hd) rfl (feq q).1 k) (K2 q)
theorem g_if_eq (X : Stand p l e R s m args below meth c T locs cells slots) (B : Bdy p s m meth c Z a0 own nm bytes maxL rt tabs) {x : Int32} {o : Int} {pcT pcF : Nat} (hd : decode bytes pc = .ok (.ifCond .eq o, 3)) (ho : 0 ≤ (pc : Int) + o) (hT : ((pc : Int) + o).toNat = pcT) (hF : pc + 3 = pcF) (K1 : x = (0 : Int32) → Go p e below s nc ns Q (T.setTop (mkF m pcT Ls St))) (K2 : ¬ x = (0 : Int32) → Go p e below s nc ns Q (T.setTop (mkF m pcF Ls St))) : Go p e below s nc ns Q (T.setTop (mkF m pc Ls (.int x :: St))) := by
  by_cases q : x = (0 : Int32)
  · exact Go.step (fun t k => XS.ifYes X.here B.x (g := mkF m pc Ls (.int x :: St)) rfl rfl (B.d hd) rfl ((if0 _ _).trans (teq q).1) ho hT k) (K1 q)
  · subst hF; exact Go.step (fun t k => XS.ifNo X.here B.x (g := mkF m pc Ls (.int x :: St)) rfl (B.d hd) rfl ((if0 _ _).trans (feq q).1) k) (K2 q)
theorem g_lcmp_eq (X : Stand p l e R s m args below meth c T locs cells slots) (B : Bdy p s m meth c Z a0 own nm bytes maxL rt tabs) {x y : Int64} {o : Int} {pcT pcF : Nat} (hd1 : decode bytes pc = .ok (.lcmp, 1)) (hd : decode bytes (pc + 1) = .ok (.ifCond .eq o, 3)) (ho : 0 ≤ ((pc + 1 : Nat) : Int) + o) (hT : (((pc + 1 : Nat) : Int) + o).toNat = pcT) (hF : pc + 4 = pcF) (K1 : x = y → Go p e below s nc ns Q (T.setTop (mkF m pcT Ls St))) (K2 : ¬ x = y → Go p e below s nc ns Q (T.setTop (mkF m pcF Ls St))) : Go p e below s nc ns Q (T.setTop (mkF m pc Ls (.long y :: .long x :: St))) :=
  Go.step (fun t q => XS.lcmp X.here B.x (g := mkF m pc Ls (.long y :: .long x :: St)) rfl (B.d hd1) rfl q) (g_if_eq X B hd ho hT hF (fun q => K1 ((lw_eq x y).mp q)) (fun q => K2 fun z => q ((lw_eq x y).mpr z)))
theorem g_icmp_ne (X : Stand p l e R s m args below meth c T locs cells slots) (B : Bdy p s m meth c Z a0 own nm bytes maxL rt tabs) {x y : Int32} {o : Int} {pcT pcF : Nat} (hd : decode bytes pc = .ok (.if_icmp .ne o, 3)) (ho : 0 ≤ (pc : Int) + o) (hT : ((pc : Int) + o).toNat = pcT) (hF : pc + 3 = pcF) (K1 : x = y → Go p e below s nc ns Q (T.setTop (mkF m pcF Ls St))) (K2 : ¬ x = y → Go p e below s nc ns Q (T.setTop (mkF m pcT Ls St))) : Go p e below s nc ns Q (T.setTop (mkF m pc Ls (.int y :: .int x :: St))) := by
  by_cases q : x = y
  · subst hF; exact Go.step (fun t k => XS.icmpNo X.here B.x (g := mkF m pc Ls (.int y :: .int x :: St)) rfl (B.d hd) rfl (teq q).2 k) (K1 q)
  · exact Go.step (fun t k => XS.icmpYes X.here B.x (g := mkF m pc Ls (.int y :: .int x :: St)) rfl rfl (B.d hd) rfl (feq q).2 ho hT k) (K2 q)
theorem g_if_ne (X : Stand p l e R s m args below meth c T locs cells slots) (B : Bdy p s m meth c Z a0 own nm bytes maxL rt tabs) {x : Int32} {o : Int} {pcT pcF : Nat} (hd : decode bytes pc = .ok (.ifCond .ne o, 3)) (ho : 0 ≤ (pc : Int) + o) (hT : ((pc : Int) + o).toNat = pcT) (hF : pc + 3 = pcF) (K1 : x = (0 : Int32) → Go p e below s nc ns Q (T.setTop (mkF m pcF Ls St))) (K2 : ¬ x = (0 : Int32) → Go p e below s nc ns Q (T.setTop (mkF m pcT Ls St))) : Go p e below s nc ns Q (T.setTop (mkF m pc Ls (.int x :: St))) := by
  by_cases q : x = (0 : Int32)
  · subst hF; exact Go.step (fun t k => XS.ifNo X.here B.x (g := mkF m pc Ls (.int x :: St)) rfl (B.d hd) rfl ((if0 _ _).trans (teq q).2) k) (K1 q)
  · exact Go.step (fun t k => XS.ifYes X.here B.x (g := mkF m pc Ls (.int x :: St)) rfl rfl (B.d hd) rfl ((if0 _ _).trans (feq q).2) ho hT k) (K2 q)
theorem g_lcmp_ne (X : Stand p l e R s m args below meth c T locs cells slots) (B : Bdy p s m meth c Z a0 own nm bytes maxL rt tabs) {x y : Int64} {o : Int} {pcT pcF : Nat} (hd1 : decode bytes pc = .ok (.lcmp, 1)) (hd : decode bytes (pc + 1) = .ok (.ifCond .ne o, 3)) (ho : 0 ≤ ((pc + 1 : Nat) : Int) + o) (hT : (((pc + 1 : Nat) : Int) + o).toNat = pcT) (hF : pc + 4 = pcF) (K1 : x = y → Go p e below s nc ns Q (T.setTop (mkF m pcF Ls St))) (K2 : ¬ x = y → Go p e below s nc ns Q (T.setTop (mkF m pcT Ls St))) : Go p e below s nc ns Q (T.setTop (mkF m pc Ls (.long y :: .long x :: St))) :=
  Go.step (fun t q => XS.lcmp X.here B.x (g := mkF m pc Ls (.long y :: .long x :: St)) rfl (B.d hd1) rfl q) (g_if_ne X B hd ho hT hF (fun q => K1 ((lw_eq x y).mp q)) (fun q => K2 fun z => q ((lw_eq x y).mpr z)))
/-! ends -/
theorem g_ret0 (X : Stand p l e R s m args below meth c T locs cells slots) (B : Bdy p s m meth c Z a0 own nm bytes maxL rt tabs) (hr : rt = none) (hd : decode bytes pc = .ok (.return_, 1)) (hc : cells ≤ nc) (hs : slots ≤ ns) (q : Q none T.heap locs) : Go p e below s nc ns Q (T.setTop (mkF m pc Ls [])) := by
  subst hr
  obtain ⟨fs, hr, hrun, hended, hW, hsame⟩ := X.leave (v := none) (fun _ => rfl) B.lk
  exact ⟨_, _, X.returnOut B.x B.r (B.d hd) hr, hrun, hended, _, _, rfl, q, ⟨_, rfl⟩, hW, hsame.mono hc hs⟩
theorem g_retV (X : Stand p l e R s m args below meth c T locs cells slots) (B : Bdy p s m meth c Z a0 own nm bytes maxL rt tabs) {w : Value} {t : FieldType} {i : Instr} (hr : rt = some t) (hn : narrow t w = w)
    (hi : (i = .ireturn ∧ (t = .int ∨ t = .boolean ∨ t = .byte ∨ t = .char ∨ t = .short) ∧ ∃ z, w = .int z) ∨ (i = .lreturn ∧ t = .long ∧ ∃ z, w = .long z) ∨ (i = .dreturn ∧ t = .double ∧ ∃ z, w = .double z) ∨ (i = .freturn ∧ t = .float ∧ ∃ z, w = .float z) ∨ (i = .areturn ∧ t.isReference = true ∧ w.isRef = true))
    (hd : decode bytes pc = .ok (i, 1)) (hc : cells ≤ nc) (hs : slots ≤ ns) (q : Q (some w) T.heap locs) : Go p e below s nc ns Q (T.setTop (mkF m pc Ls (w :: St))) := by
  subst hr
  obtain ⟨fs, hr, hrun, hended, hW, hsame⟩ := X.leave (v := some w) (fun h => by rw [B.r] at h; cases h) B.lk
  exact ⟨_, _, retOut X B.x B.r hn hi (B.d hd) hr, hrun, hended, _, _, rfl, q, ⟨_, rfl⟩, hW, hsame.mono hc hs⟩
theorem g_retI (X : Stand p l e R s m args below meth c T locs cells slots) (B : Bdy p s m meth c Z a0 own nm bytes maxL rt tabs) {z : Int32} (hr : rt = some .int) (hd : decode bytes pc = .ok (.ireturn, 1)) (hc : cells ≤ nc) (hs : slots ≤ ns) (q : Q (some (.int z)) T.heap locs) : Go p e below s nc ns Q (T.setTop (mkF m pc Ls (.int z :: St))) :=
  g_retV X B hr rfl (Or.inl ⟨rfl, Or.inl rfl, z, rfl⟩) hd hc hs q
theorem g_retL (X : Stand p l e R s m args below meth c T locs cells slots) (B : Bdy p s m meth c Z a0 own nm bytes maxL rt tabs) {z : Int64} (hr : rt = some .long) (hd : decode bytes pc = .ok (.lreturn, 1)) (hc : cells ≤ nc) (hs : slots ≤ ns) (q : Q (some (.long z)) T.heap locs) : Go p e below s nc ns Q (T.setTop (mkF m pc Ls (.long z :: St))) :=
  g_retV X B hr rfl (Or.inr (Or.inl ⟨rfl, rfl, z, rfl⟩)) hd hc hs q
theorem g_retA (X : Stand p l e R s m args below meth c T locs cells slots) (B : Bdy p s m meth c Z a0 own nm bytes maxL rt tabs) {w : Value} {t : FieldType} (hr : rt = some t) (ht : t.isReference = true) (hw : w.isRef = true) (hn : narrow t w = w) (hd : decode bytes pc = .ok (.areturn, 1)) (hc : cells ≤ nc) (hs : slots ≤ ns) (q : Q (some w) T.heap locs) : Go p e below s nc ns Q (T.setTop (mkF m pc Ls (w :: St))) :=
  g_retV X B hr hn (Or.inr (Or.inr (Or.inr (Or.inr ⟨rfl, ht, hw⟩)))) hd hc hs q
theorem g_retN (X : Stand p l e R s m args below meth c T locs cells slots) (B : Bdy p s m meth c Z a0 own nm bytes maxL rt tabs) {z : Int32} {t : FieldType} (hr : rt = some t) (ht : t = .boolean ∨ t = .byte ∨ t = .char ∨ t = .short) (hd : decode bytes pc = .ok (.ireturn, 1)) (hc : cells ≤ nc) (hs : slots ≤ ns) (q : Q (some (.int (nar t z))) T.heap locs) : Go p e below s nc ns Q (T.setTop (mkF m pc Ls (.int z :: St))) := by
  subst hr
  obtain ⟨fs, hr, hrun, hended, hW, hsame⟩ := X.leave (v := some (.int (nar t z))) (fun h => by rw [B.r] at h; cases h) B.lk
  exact ⟨_, _, retN X B.x B.r ht (B.d hd) hr, hrun, hended, _, _, rfl, q, ⟨_, rfl⟩, hW, hsame.mono hc hs⟩
/-! calls -/
abbrev Met (l : Launch) (Z : State) (y : MethodName) (yb : ByteArray) (ym : Nat) (yr : Option FieldType) (ws : List Jvm.Cond) (rm : Room) (as : Array Value) (h : Heap) (Qc : Option Value → Heap → List Loc → Prop) : Prop :=
  MetFree l y (head1 (Jvm.Cond.code y yb ym yr :: ws) rm) (fun a U => a = as ∧ Z.Warmed39 U.vm ∧ U.heap = h) (fun _ _ _ _ _ => True) (fun _ U o U' => ∃ v L, o = .returned v ∧ Qc v U'.heap L ∧ FrameEnd U o U' L rm.cells rm.slots)
theorem met_of {y : MethodName} {rm : Room} {as : Array Value} {ws : List Jvm.Cond} (hpl : plainFor y = true) (hw : ∀ d ∈ tabs, d.before a0 Z = true)
    (body : ∀ (p : Program) (e : Env) (s : State) (m : MethodId) (below : List Frame) (meth : Method) (c : Code) (T : State), Stand p l e rm s m as below meth c T [] 0 0 → Bdy p s m meth c Z a0 y.cls y.name bytes maxL rt tabs → T.heap = h → Go p e below s rm.cells rm.slots Q (T.setTop (entryFrame m as maxL))) :
    Met l Z y bytes maxL rt ws rm as h Q := by
  refine MetFree.of_bodySF hpl hisR ?_
  intro p e s m args below meth c s₁ Bd hml0 hP hK
  obtain ⟨rfl, hZ, hh⟩ := hP
  exact body p e s m below meth c s₁ (Stand.of_body Bd) ⟨Bd.exec, hZ, hw, Bd.bytes, hml0, findClass_of_methodNamed Bd.named, Bd.returns, BodyLoose.notSynchronized Bd, (name_of_methodNamed Bd.named Bd.method).1⟩ (by rw [← hh, Bd.state]; rfl)
theorem g_callS (X : Stand p l e R s m args below meth c T locs cells slots) (B : Bdy p s m meth c Z a0 own nm bytes maxL rt tabs) {y : MethodName} {i : Nat} {yb : ByteArray} {ym : Nat} {yr : Option FieldType} {rm : Room} {argsL rest : List Value} {Qc : Option Value → Heap → List Loc → Prop} (eT : T.heap = h) (W : Nat)
    (w1 : (Jvm.Cond.methodLink own i y).before a0 Z = true) (w2 : (Jvm.Cond.static y).before a0 Z = true) (w3 : (Jvm.Cond.initialized y.cls).before a0 Z = true) (w4 : (Jvm.Cond.code y yb ym yr).before a0 Z = true) (hy : y.cls ≠ "java/lang/invoke/MethodHandle" ∧ y.cls ≠ "java/lang/invoke/VarHandle")
    (M : Met l Z y yb ym yr [] rm argsL.toArray h Qc) (hf : rm.frames + 1 ≤ R.frames) (hl : W + (ym + 11) + rm.locals ≤ R.locals) (hc : cells + rm.cells ≤ R.cells) (hs : slots + rm.slots ≤ R.slots)
    (hsz : Ls.size = maxL) (hlen : ∀ sig, parseMethodDescriptor y.desc = some sig → argsL.length = sig.parameters.length) (hst : St = argsL.reverse ++ rest) (hW : (rest.map fun v => v.category).sum ≤ W) (hd : decode bytes pc = .ok (.invokestatic i, 3)) (hp : pc + 3 = pc')
    (K : ∀ (T' : State) (v : Option Value) (L : List Loc), Stand p l e R s m args below meth c T' (locs ++ L) (cells + rm.cells) (slots + rm.slots) → Qc v T'.heap L → Go p e below s nc ns Q (T'.setTop (mkF m pc' Ls (v.toList ++ rest)))) : Go p e below s nc ns Q (T.setTop (mkF m pc Ls St)) := by
  subst hp
  obtain ⟨v, _, ⟨T', L', k', n'⟩, -, X', ⟨Lc, hQ, l', y', z'⟩, st⟩ := Jvm.LawKit.callS X B.x (y := y) B.o (mvT B.z w1) (mvT B.z w2) (mvT B.z w3) (mvT B.z w4) hy (backOf (W := W) M B.z w4 w3 hf hl) (g := mkF m pc Ls St) rfl (by rw [B.ml]; exact hsz) (argsL := argsL) (rest := rest) hlen hst (by show 2 * 0 + _ ≤ _; omega) (B.d hd) (fun _ _ => ⟨rfl, eT, hc, hs⟩)
  dsimp only [Pt.U, Pt.locs, Pt.cells, Pt.slots] at X' l' y' z' st hQ
  subst l' y' z'
  exact Go.step st (K T' v Lc X' hQ)
theorem g_callP (X : Stand p l e R s m args below meth c T locs cells slots) (B : Bdy p s m meth c Z a0 own nm bytes maxL rt tabs) {y : MethodName} {i : Nat} {yb : ByteArray} {ym : Nat} {yr : Option FieldType} {fr lo : Nat} {argsL rest : List Value} {w : Value} (eT : T.heap = h) (W : Nat)
    (w1 : (Jvm.Cond.methodLink own i y).before a0 Z = true) (w2 : (Jvm.Cond.static y).before a0 Z = true) (w3 : (Jvm.Cond.initialized y.cls).before a0 Z = true) (w4 : (Jvm.Cond.code y yb ym yr).before a0 Z = true) (hy : y.cls ≠ "java/lang/invoke/MethodHandle" ∧ y.cls ≠ "java/lang/invoke/VarHandle")
    (M : Met l Z y yb ym yr [] ⟨fr, 0, 0, lo⟩ argsL.toArray h (PQ (some w) h [])) (hf : fr + 1 ≤ R.frames) (hl : W + (ym + 11) + lo ≤ R.locals) (hc : cells ≤ R.cells) (hs : slots ≤ R.slots)
    (hsz : Ls.size = maxL) (hlen : ∀ sig, parseMethodDescriptor y.desc = some sig → argsL.length = sig.parameters.length) (hst : St = argsL.reverse ++ rest) (hW : (rest.map fun v => v.category).sum ≤ W) (hd : decode bytes pc = .ok (.invokestatic i, 3)) (hp : pc + 3 = pc')
    (K : ∀ (T' : State), Stand p l e R s m args below meth c T' locs cells slots → T'.heap = h → Go p e below s nc ns Q (T'.setTop (mkF m pc' Ls (w :: rest)))) : Go p e below s nc ns Q (T.setTop (mkF m pc Ls St)) := by
  refine g_callS X B eT W w1 w2 w3 w4 hy M hf hl hc hs hsz hlen hst hW hd hp fun T' v L X' q => ?_
  obtain ⟨rfl, q2, rfl⟩ := q
  rw [List.append_nil] at X'
  exact K T' X' q2
end GoKit
/-! own frame, the heap's steps -/
def Ax (Z : State) (h : Heap) (a : Addr) (ty : FieldType) (n : Nat) (w : Nat → Value) : Prop := n < 2147483648 ∧ ∃ c : Cell, Arr Z h a c ty ∧ c.slots.size = n ∧ ∀ j, j < n → c.slots[j]? = some (w j)
section HeapKit
variable {p : Program} {l : Launch} {e : Env} {R : Room} {s : State} {m : MethodId} {args : Array Value} {below : List Frame} {meth : Method} {c : Code} {T : State} {locs : List Loc} {cells slots : Nat} {Z : State} {a0 : Array Value} {h h' : Heap} {nc ns : Nat} {Q Q' : Option Value → Heap → List Loc → Prop} {pc pc' : Nat} {Ls Ls' : Array Slot} {St : List Value} {own nm : String} {bytes : ByteArray} {maxL : Nat} {rt : Option FieldType} {tabs : List Jvm.Cond}
theorem Ax.lt {a : Addr} {ty : FieldType} {n : Nat} {w : Nat → Value} (F : Ax Z h a ty n w) : a < h.size := by obtain ⟨-, c, A, -⟩ := F; exact A.lt
theorem Ax.ext {a : Addr} {ty : FieldType} {n : Nat} {w : Nat → Value} (F : Ax Z h a ty n w) (E : Ext h h') : Ax Z h' a ty n w := by obtain ⟨h0, c, A, r⟩ := F; exact ⟨h0, c, A.ext E, r⟩
theorem Ax.other {a b : Addr} {ty : FieldType} {n sl : Nat} {v : Value} {w : Nat → Value} (F : Ax Z h b ty n w) (W : Wr h h' a sl v) (q : b ≠ a) : Ax Z h' b ty n w := by obtain ⟨h0, c, A, r⟩ := F; exact ⟨h0, c, A.other W q, r⟩
theorem Ax.keep {a : Addr} {ty : FieldType} {n : Nat} {w : Nat → Value} {ws : List Addr} (F : Ax Z h a ty n w) (K : Keep h h' ws) (q : a ∉ ws) : Ax Z h' a ty n w := by obtain ⟨h0, c, A, r⟩ := F; exact ⟨h0, c, ⟨K.2.1 a c A.1 q, A.2⟩, r⟩
theorem Ax.set {a : Addr} {ty : FieldType} {n k : Nat} {v : Value} {w : Nat → Value} (F : Ax Z h a ty n w) (W : Wr h h' a k v) : Ax Z h' a ty n (fun j => if j = k then v else w j) := by
  obtain ⟨h0, c, A, r1, r2⟩ := F
  refine ⟨h0, _, A.same W, by rw [sz_set]; exact r1, fun j hj => ?_⟩
  by_cases q : j = k
  · subst q; simp [Cell.setSlot, r1, hj]
  · simp only [Cell.setSlot, if_neg q]; rw [Array.getElem?_setIfInBounds_ne (Ne.symm q)]; exact r2 j hj
theorem Ax.eqw {a : Addr} {ty : FieldType} {n : Nat} {w w' : Nat → Value} (F : Ax Z h a ty n w) (q : ∀ j, j < n → w j = w' j) : Ax Z h a ty n w' := by
  obtain ⟨h0, c, A, r1, r2⟩ := F
  exact ⟨h0, c, A, r1, fun j hj => by rw [← q j hj]; exact r2 j hj⟩
theorem own_idx {j : Int32} {k n : Nat} (hk : j.toInt = (k : Int)) (hn : k < n) : ¬ (j < 0 ∨ n ≤ j.toNatClampNeg) ∧ j.toNatClampNeg = k := by
  have e0 : (0 : Int32).toInt = 0 := rfl
  have e1 : j.toNatClampNeg = j.toInt.toNat := rfl
  rw [Int32.lt_iff_toInt_lt, e0, e1, hk]; omega
theorem g_getF (X : Stand p l e R s m args below meth c T locs cells slots) (B : Bdy p s m meth c Z a0 own nm bytes maxL rt tabs) {i : Nat} {R0 O n d : String} {a : Addr} {v : Value} (w : (Jvm.Cond.fieldLink own i R0 n d).before a0 Z = true) (via : Via Z R0 O n d) (eT : T.heap = h) (F : Fld Z h a O n d v) (hd : decode bytes pc = .ok (.getfield i, 3)) (hp : pc + 3 = pc')
    (K : ∀ T' : State, Stand p l e R s m args below meth c T' locs cells slots → T'.heap = h → Go p e below s nc ns Q (T'.setTop (mkF m pc' Ls (v :: St)))) : Go p e below s nc ns Q (T.setTop (mkF m pc Ls (.ref a :: St))) := by
  subst hp
  obtain ⟨T', X', e', st⟩ := getF X B.x B.z B.o (host := "") (Or.inl w) via eT F (g := mkF m pc Ls (.ref a :: St)) rfl rfl (B.d hd)
  exact Go.step st (K T' X' e')
theorem g_putF (X : Stand p l e R s m args below meth c T locs cells slots) (B : Bdy p s m meth c Z a0 own nm bytes maxL rt tabs) {i kk : Nat} {R0 O n d C : String} {a : Addr} {v old : Value} {ty : FieldType} (w : (Jvm.Cond.fieldLink own i R0 n d).before a0 Z = true) (via : Via Z R0 O n d) (eT : T.heap = h) (F : Fld Z h a O n d old) (E : Exa Z h a C)
    (L : (Jvm.Cond.lays C O n d).before a0 Z = true ∨ ((Jvm.Cond.laysFinal C O n d).before a0 Z = true ∧ own = O ∧ nm = "<init>")) (wi : (Jvm.Cond.instantiable C kk).before a0 Z = true) (hty : parseFieldDescriptor d = some ty) (hn : narrow ty v = v) (hf : fits ty v = true)
    (hd : decode bytes pc = .ok (.putfield i, 3)) (hp : pc + 3 = pc')
    (K : ∀ (T' : State) (h' : Heap), Stand p l e R s m args below meth c T' (locs ++ [⟨a, Jvm.RoadKit.slotOf Z O n d⟩]) cells slots → T'.heap = h' → Wr h h' a (Jvm.RoadKit.slotOf Z O n d) v → Go p e below s nc ns Q (T'.setTop (mkF m pc' Ls St))) : Go p e below s nc ns Q (T.setTop (mkF m pc Ls (v :: .ref a :: St))) := by
  subst hp
  obtain ⟨T', h', X', e', W, st⟩ := putF X B.x B.z B.o (host := "") (Or.inl w) via eT F E (L.imp id fun q => ⟨q.1, q.2.1, B.n.trans q.2.2⟩) wi hty hn hf (g := mkF m pc Ls (v :: .ref a :: St)) rfl rfl (B.d hd)
  exact Go.step st (K T' h' X' e' W)
theorem g_getS (X : Stand p l e R s m args below meth c T locs cells slots) (B : Bdy p s m meth c Z a0 own nm bytes maxL rt tabs) {i : Nat} {R0 O n d : String} {v : Value} (w : (Jvm.Cond.fieldLink own i R0 n d).before a0 Z = true) (via : Via Z R0 O n d) (eT : T.heap = h) (F : Sta Z h O n d v) (hd : decode bytes pc = .ok (.getstatic i, 3)) (hp : pc + 3 = pc')
    (K : ∀ T' : State, Stand p l e R s m args below meth c T' locs cells slots → T'.heap = h → Go p e below s nc ns Q (T'.setTop (mkF m pc' Ls (v :: St)))) : Go p e below s nc ns Q (T.setTop (mkF m pc Ls St)) := by
  subst hp
  obtain ⟨T', X', e', st⟩ := getS X B.x B.z B.o (host := "") w via eT F (g := mkF m pc Ls St) rfl (B.d hd)
  exact Go.step st (K T' X' e')
theorem g_new (X : Stand p l e R s m args below meth c T locs cells slots) (B : Bdy p s m meth c Z a0 own nm bytes maxL rt tabs) {i n : Nat} {C : String} (w : (Jvm.Cond.classLink own i C).before a0 Z = true) (wi : (Jvm.Cond.instantiable C n).before a0 Z = true) (wz : (Jvm.Cond.initialized C).before a0 Z = true) (eT : T.heap = h) (hd : decode bytes pc = .ok (.new i, 3)) (hp : pc + 3 = pc') (hc : cells + 1 ≤ R.cells) (hl : slots + n ≤ R.slots)
    (K : ∀ (T' : State) (h' : Heap) (a : Addr), a = h.size → Stand p l e R s m args below meth c T' locs (cells + 1) (slots + n) → T'.heap = h' → Ext h h' → Exa Z h' a C → (∀ {O nm d : String} {ty : FieldType}, Laid Z a0 C O nm d → parseFieldDescriptor d = some ty → Fld Z h' a O nm d (defaultValue ty)) → Go p e below s nc ns Q (T'.setTop (mkF m pc' Ls (.ref a :: St)))) : Go p e below s nc ns Q (T.setTop (mkF m pc Ls St)) := by
  subst hp
  obtain ⟨T', h', X', e', E, A, D, -, st⟩ := newO X B.x B.z B.o w wi wz eT (g := mkF m pc Ls St) rfl (B.d hd) hc hl
  exact Go.step st (K T' h' _ rfl X' e' E A D)
theorem g_newA (X : Stand p l e R s m args below meth c T locs cells slots) (B : Bdy p s m meth c Z a0 own nm bytes maxL rt tabs) {aty : ArrayType} {z : Int32} (k cap : Nat) (w : (Jvm.Cond.arrayClass (newarray.typeOf aty)).before a0 Z = true) (eT : T.heap = h) (hz : z.toInt = (k : Int)) (hcap : k ≤ cap) (hb : cap * 8 ≤ 536870912) (hd : decode bytes pc = .ok (.newarray aty, 2)) (hp : pc + 2 = pc') (hc : cells + 1 ≤ R.cells) (hl : slots + cap ≤ R.slots)
    (K : ∀ (T' : State) (h' : Heap) (a : Addr), a = h.size → Stand p l e R s m args below meth c T' locs (cells + 1) (slots + cap) → T'.heap = h' → Ext h h' → Ax Z h' a (newarray.typeOf aty) k (fun _ => defaultValue (newarray.typeOf aty)) → Go p e below s nc ns Q (T'.setTop (mkF m pc' Ls (.ref a :: St)))) : Go p e below s nc ns Q (T.setTop (mkF m pc Ls (.int z :: St))) := by
  subst hp
  have e1 : z.toNatClampNeg = k := by show z.toInt.toNat = k; omega
  have e0 : (0 : Int32).toInt = 0 := rfl
  have hlt := z.toInt_lt
  obtain ⟨T', h', cA, X', e', E, A, st⟩ := newP X B.x B.z w eT (g := mkF m pc Ls (.int z :: St)) rfl (B.d hd) rfl (by rw [Int32.lt_iff_toInt_lt, e0]; omega) (cap := cap) (by omega) hb hc hl
  refine Go.step st (K T' h' _ rfl X' e' E ⟨by omega, _, A, (sz_new _ _ _).trans e1, fun j hj => ?_⟩)
  simp [newA, e1, hj]
theorem g_arrlen (X : Stand p l e R s m args below meth c T locs cells slots) (B : Bdy p s m meth c Z a0 own nm bytes maxL rt tabs) {a : Addr} {ty : FieldType} {n : Nat} {w : Nat → Value} (z : Int32) (eT : T.heap = h) (F : Ax Z h a ty n w) (hz : z.toInt = (n : Int)) (hd : decode bytes pc = .ok (.arraylength, 1)) (hp : pc + 1 = pc') (K : Go p e below s nc ns Q (T.setTop (mkF m pc' Ls (.int z :: St)))) : Go p e below s nc ns Q (T.setTop (mkF m pc Ls (.ref a :: St))) := by
  subst hp
  obtain ⟨h0, c, A, r1, -⟩ := F
  have ez : c.slots.size.toInt32 = z := by
    apply Int32.toInt_inj.mp; rw [hz, r1]; exact Int32.toInt_ofNat_small (by omega)
  refine Go.step (fun t q => X.arraylength B.x (by rw [eT]; exact A.1) (State.isArrayOf_alike B.z.alike A.2.1) (g := mkF m pc Ls (.ref a :: St)) rfl rfl (B.d hd) t (by rw [ez]; exact q)) K
theorem g_iaload (X : Stand p l e R s m args below meth c T locs cells slots) (B : Bdy p s m meth c Z a0 own nm bytes maxL rt tabs) {a : Addr} {n : Nat} {w : Nat → Value} {j : Int32} {v : Value} (k : Nat) (eT : T.heap = h) (F : Ax Z h a .int n w) (hk : j.toInt = (k : Int)) (hn : k < n) (hv : w k = v) (hd : decode bytes pc = .ok (.iaload, 1)) (hp : pc + 1 = pc') (K : Go p e below s nc ns Q (T.setTop (mkF m pc' Ls (v :: St)))) : Go p e below s nc ns Q (T.setTop (mkF m pc Ls (.int j :: .ref a :: St))) := by
  subst hp
  obtain ⟨h0, c, A, r1, r2⟩ := F
  obtain ⟨q1, q2⟩ := own_idx hk hn
  exact Go.step (fun t q => X.iaload B.x (v := v) (by rw [eT]; exact A.1) (State.isArrayOf_alike B.z.alike A.2.1) A.2.2 (by rw [r1]; exact q1) (by rw [q2, ← hv]; exact r2 k hn) (g := mkF m pc Ls (.int j :: .ref a :: St)) rfl rfl (B.d hd) t q) K
theorem g_laload (X : Stand p l e R s m args below meth c T locs cells slots) (B : Bdy p s m meth c Z a0 own nm bytes maxL rt tabs) {a : Addr} {n : Nat} {w : Nat → Value} {j : Int32} {v : Value} (k : Nat) (eT : T.heap = h) (F : Ax Z h a .long n w) (hk : j.toInt = (k : Int)) (hn : k < n) (hv : w k = v) (hd : decode bytes pc = .ok (.laload, 1)) (hp : pc + 1 = pc') (K : Go p e below s nc ns Q (T.setTop (mkF m pc' Ls (v :: St)))) : Go p e below s nc ns Q (T.setTop (mkF m pc Ls (.int j :: .ref a :: St))) := by
  subst hp
  obtain ⟨h0, c, A, r1, r2⟩ := F
  obtain ⟨q1, q2⟩ := own_idx hk hn
  exact Go.step (fun t q => X.laload B.x (v := v) (by rw [eT]; exact A.1) (State.isArrayOf_alike B.z.alike A.2.1) A.2.2 (by rw [r1]; exact q1) (by rw [q2, ← hv]; exact r2 k hn) (g := mkF m pc Ls (.int j :: .ref a :: St)) rfl rfl (B.d hd) t q) K
theorem g_baloadB (X : Stand p l e R s m args below meth c T locs cells slots) (B : Bdy p s m meth c Z a0 own nm bytes maxL rt tabs) {a : Addr} {n : Nat} {w : Nat → Value} {j : Int32} {v : Value} (k : Nat) (eT : T.heap = h) (F : Ax Z h a .byte n w) (hk : j.toInt = (k : Int)) (hn : k < n) (hv : w k = v) (hd : decode bytes pc = .ok (.baload, 1)) (hp : pc + 1 = pc') (K : Go p e below s nc ns Q (T.setTop (mkF m pc' Ls (v :: St)))) : Go p e below s nc ns Q (T.setTop (mkF m pc Ls (.int j :: .ref a :: St))) := by
  subst hp
  obtain ⟨h0, c, A, r1, r2⟩ := F
  obtain ⟨q1, q2⟩ := own_idx hk hn
  exact Go.step (fun t q => X.baloadBytes B.x (v := v) (by rw [eT]; exact A.1) (State.isArrayOf_alike B.z.alike A.2.1) A.2.2 (by rw [r1]; exact q1) (by rw [q2, ← hv]; exact r2 k hn) (g := mkF m pc Ls (.int j :: .ref a :: St)) rfl rfl (B.d hd) t q) K
theorem g_baloadZ (X : Stand p l e R s m args below meth c T locs cells slots) (B : Bdy p s m meth c Z a0 own nm bytes maxL rt tabs) {a : Addr} {n : Nat} {w : Nat → Value} {j : Int32} {v : Value} (k : Nat) (eT : T.heap = h) (F : Ax Z h a .boolean n w) (hk : j.toInt = (k : Int)) (hn : k < n) (hv : w k = v) (hd : decode bytes pc = .ok (.baload, 1)) (hp : pc + 1 = pc') (K : Go p e below s nc ns Q (T.setTop (mkF m pc' Ls (v :: St)))) : Go p e below s nc ns Q (T.setTop (mkF m pc Ls (.int j :: .ref a :: St))) := by
  subst hp
  obtain ⟨h0, c, A, r1, r2⟩ := F
  obtain ⟨q1, q2⟩ := own_idx hk hn
  exact Go.step (fun t q => X.baloadBooleans B.x (v := v) (by rw [eT]; exact A.1) (State.isArrayOf_alike B.z.alike A.2.1) A.2.2 (by rw [r1]; exact q1) (by rw [q2, ← hv]; exact r2 k hn) (g := mkF m pc Ls (.int j :: .ref a :: St)) rfl rfl (B.d hd) t q) K
theorem g_iastore (X : Stand p l e R s m args below meth c T locs cells slots) (B : Bdy p s m meth c Z a0 own nm bytes maxL rt tabs) {a : Addr} {n : Nat} {w : Nat → Value} {j x : Int32} (k : Nat) (eT : T.heap = h) (F : Ax Z h a .int n w) (hk : j.toInt = (k : Int)) (hn : k < n) (hd : decode bytes pc = .ok (.iastore, 1)) (hp : pc + 1 = pc')
    (K : ∀ (T' : State) (h' : Heap), Stand p l e R s m args below meth c T' (locs ++ [⟨a, k⟩]) cells slots → T'.heap = h' → Wr h h' a k (.int x) → Go p e below s nc ns Q (T'.setTop (mkF m pc' Ls St))) : Go p e below s nc ns Q (T.setTop (mkF m pc Ls (.int x :: .int j :: .ref a :: St))) := by
  subst hp
  obtain ⟨h0, c, A, r1, r2⟩ := F
  obtain ⟨q1, q2⟩ := own_idx hk hn
  obtain ⟨T', h', X', e', W, st⟩ := stI X B.x B.z eT A (j := j) (x := x) (by rw [r1]; exact q1) (g := mkF m pc Ls (.int x :: .int j :: .ref a :: St)) rfl rfl (B.d hd)
  rw [q2] at X' W
  exact Go.step st (K T' h' X' e' W)
theorem g_lastore (X : Stand p l e R s m args below meth c T locs cells slots) (B : Bdy p s m meth c Z a0 own nm bytes maxL rt tabs) {a : Addr} {n : Nat} {w : Nat → Value} {j : Int32} {x : Int64} (k : Nat) (eT : T.heap = h) (F : Ax Z h a .long n w) (hk : j.toInt = (k : Int)) (hn : k < n) (hd : decode bytes pc = .ok (.lastore, 1)) (hp : pc + 1 = pc')
    (K : ∀ (T' : State) (h' : Heap), Stand p l e R s m args below meth c T' (locs ++ [⟨a, k⟩]) cells slots → T'.heap = h' → Wr h h' a k (.long x) → Go p e below s nc ns Q (T'.setTop (mkF m pc' Ls St))) : Go p e below s nc ns Q (T.setTop (mkF m pc Ls (.long x :: .int j :: .ref a :: St))) := by
  subst hp
  obtain ⟨h0, c, A, r1, r2⟩ := F
  obtain ⟨q1, q2⟩ := own_idx hk hn
  obtain ⟨T', h', X', e', W, st⟩ := stJ X B.x B.z eT A (j := j) (x := x) (by rw [r1]; exact q1) (g := mkF m pc Ls (.long x :: .int j :: .ref a :: St)) rfl rfl (B.d hd)
  rw [q2] at X' W
  exact Go.step st (K T' h' X' e' W)
theorem g_bastoreB (X : Stand p l e R s m args below meth c T locs cells slots) (B : Bdy p s m meth c Z a0 own nm bytes maxL rt tabs) {a : Addr} {n : Nat} {w : Nat → Value} {j x : Int32} (k : Nat) (eT : T.heap = h) (F : Ax Z h a .byte n w) (hk : j.toInt = (k : Int)) (hn : k < n) (hd : decode bytes pc = .ok (.bastore, 1)) (hp : pc + 1 = pc')
    (K : ∀ (T' : State) (h' : Heap), Stand p l e R s m args below meth c T' (locs ++ [⟨a, k⟩]) cells slots → T'.heap = h' → Wr h h' a k (.int (nar .byte x)) → Go p e below s nc ns Q (T'.setTop (mkF m pc' Ls St))) : Go p e below s nc ns Q (T.setTop (mkF m pc Ls (.int x :: .int j :: .ref a :: St))) := by
  subst hp
  obtain ⟨h0, c, A, r1, r2⟩ := F
  obtain ⟨q1, q2⟩ := own_idx hk hn
  obtain ⟨T', h', X', e', W, st⟩ := stB X B.x B.z eT A (j := j) (x := x) (by rw [r1]; exact q1) (g := mkF m pc Ls (.int x :: .int j :: .ref a :: St)) rfl rfl (B.d hd)
  rw [q2] at X' W
  exact Go.step st (K T' h' X' e' W)
theorem g_bastoreZ (X : Stand p l e R s m args below meth c T locs cells slots) (B : Bdy p s m meth c Z a0 own nm bytes maxL rt tabs) {a : Addr} {n : Nat} {w : Nat → Value} {j x : Int32} (k : Nat) (eT : T.heap = h) (F : Ax Z h a .boolean n w) (hk : j.toInt = (k : Int)) (hn : k < n) (hd : decode bytes pc = .ok (.bastore, 1)) (hp : pc + 1 = pc')
    (K : ∀ (T' : State) (h' : Heap), Stand p l e R s m args below meth c T' (locs ++ [⟨a, k⟩]) cells slots → T'.heap = h' → Wr h h' a k (.int (nar .boolean x)) → Go p e below s nc ns Q (T'.setTop (mkF m pc' Ls St))) : Go p e below s nc ns Q (T.setTop (mkF m pc Ls (.int x :: .int j :: .ref a :: St))) := by
  subst hp
  obtain ⟨h0, c, A, r1, r2⟩ := F
  obtain ⟨q1, q2⟩ := own_idx hk hn
  obtain ⟨T', h', X', e', W, st⟩ := stZ X B.x B.z eT A (j := j) (x := x) (by rw [r1]; exact q1) (g := mkF m pc Ls (.int x :: .int j :: .ref a :: St)) rfl rfl (B.d hd)
  rw [q2] at X' W
  exact Go.step st (K T' h' X' e' W)
theorem g_castore (X : Stand p l e R s m args below meth c T locs cells slots) (B : Bdy p s m meth c Z a0 own nm bytes maxL rt tabs) {a : Addr} {n : Nat} {w : Nat → Value} {j x : Int32} (k : Nat) (eT : T.heap = h) (F : Ax Z h a .char n w) (hk : j.toInt = (k : Int)) (hn : k < n) (hd : decode bytes pc = .ok (.castore, 1)) (hp : pc + 1 = pc')
    (K : ∀ (T' : State) (h' : Heap), Stand p l e R s m args below meth c T' (locs ++ [⟨a, k⟩]) cells slots → T'.heap = h' → Wr h h' a k (.int (nar .char x)) → Go p e below s nc ns Q (T'.setTop (mkF m pc' Ls St))) : Go p e below s nc ns Q (T.setTop (mkF m pc Ls (.int x :: .int j :: .ref a :: St))) := by
  subst hp
  obtain ⟨h0, c, A, r1, r2⟩ := F
  obtain ⟨q1, q2⟩ := own_idx hk hn
  obtain ⟨T', h', X', e', W, st⟩ := stC X B.x B.z eT A (j := j) (x := x) (by rw [r1]; exact q1) (g := mkF m pc Ls (.int x :: .int j :: .ref a :: St)) rfl rfl (B.d hd)
  rw [q2] at X' W
  exact Go.step st (K T' h' X' e' W)
theorem g_sastore (X : Stand p l e R s m args below meth c T locs cells slots) (B : Bdy p s m meth c Z a0 own nm bytes maxL rt tabs) {a : Addr} {n : Nat} {w : Nat → Value} {j x : Int32} (k : Nat) (eT : T.heap = h) (F : Ax Z h a .short n w) (hk : j.toInt = (k : Int)) (hn : k < n) (hd : decode bytes pc = .ok (.sastore, 1)) (hp : pc + 1 = pc')
    (K : ∀ (T' : State) (h' : Heap), Stand p l e R s m args below meth c T' (locs ++ [⟨a, k⟩]) cells slots → T'.heap = h' → Wr h h' a k (.int (nar .short x)) → Go p e below s nc ns Q (T'.setTop (mkF m pc' Ls St))) : Go p e below s nc ns Q (T.setTop (mkF m pc Ls (.int x :: .int j :: .ref a :: St))) := by
  subst hp
  obtain ⟨h0, c, A, r1, r2⟩ := F
  obtain ⟨q1, q2⟩ := own_idx hk hn
  obtain ⟨T', h', X', e', W, st⟩ := stS X B.x B.z eT A (j := j) (x := x) (by rw [r1]; exact q1) (g := mkF m pc Ls (.int x :: .int j :: .ref a :: St)) rfl rfl (B.d hd)
  rw [q2] at X' W
  exact Go.step st (K T' h' X' e' W)
theorem g_initO (X : Stand p l e R s m args below meth c T locs cells slots) (B : Bdy p s m meth c Z a0 own nm bytes maxL rt tabs) {i : Nat} {a : Addr} (W : Nat) (w1 : (Jvm.Cond.methodLink own i Lib.objectInit).before a0 Z = true) (w2 : (Jvm.Cond.instanceMethod Lib.objectInit).before a0 Z = true) (w3 : (Jvm.Cond.code Lib.objectInit ⟨#[0xb1]⟩ 1 none).before a0 Z = true) (eT : T.heap = h) (hsz : Ls.size = maxL) (hd : decode bytes pc = .ok (.invokespecial i, 3)) (hp : pc + 3 = pc')
    (hf : 1 ≤ R.frames) (hW : (St.map fun v => v.category).sum ≤ W) (hl : W + 12 ≤ R.locals) (K : ∀ T' : State, Stand p l e R s m args below meth c T' locs cells slots → T'.heap = h → Go p e below s nc ns Q (T'.setTop (mkF m pc' Ls St))) : Go p e below s nc ns Q (T.setTop (mkF m pc Ls (.ref a :: St))) := by
  subst hp
  obtain ⟨T', X', e', st⟩ := initO X B.x B.z B.o w1 w2 w3 eT (g := mkF m pc Ls (.ref a :: St)) rfl (by rw [B.ml]; exact hsz) rfl (B.d hd) hf (W := W) (by show 2 * 0 + _ ≤ _; omega) hl
  exact Go.step st (K T' X' e')
theorem g_special (X : Stand p l e R s m args below meth c T locs cells slots) (B : Bdy p s m meth c Z a0 own nm bytes maxL rt tabs) {y : MethodName} {i : Nat} {yb : ByteArray} {ym : Nat} {rm : Room} {a : Addr} {argsL rest : List Value} {Qc : Option Value → Heap → List Loc → Prop} (eT : T.heap = h) (W : Nat) (hy1 : y.name = "<init>")
    (w1 : (Jvm.Cond.methodLink own i y).before a0 Z = true) (w2 : (Jvm.Cond.instanceMethod y).before a0 Z = true) (w3 : (Jvm.Cond.initialized y.cls).before a0 Z = true) (w4 : (Jvm.Cond.code y yb ym none).before a0 Z = true) (hy : y.cls ≠ "java/lang/invoke/MethodHandle" ∧ y.cls ≠ "java/lang/invoke/VarHandle")
    (M : Met l Z y yb ym none [] rm (.ref a :: argsL).toArray h Qc) (hf : rm.frames + 1 ≤ R.frames) (hl : W + (ym + 11) + rm.locals ≤ R.locals) (hc : cells + rm.cells ≤ R.cells) (hs : slots + rm.slots ≤ R.slots)
    (hsz : Ls.size = maxL) (hlen : ∀ sig, parseMethodDescriptor y.desc = some sig → argsL.length = sig.parameters.length) (hst : St = argsL.reverse ++ .ref a :: rest) (hW : (rest.map fun v => v.category).sum ≤ W) (hd : decode bytes pc = .ok (.invokespecial i, 3)) (hp : pc + 3 = pc')
    (K : ∀ (T' : State) (v : Option Value) (L : List Loc), Stand p l e R s m args below meth c T' (locs ++ L) (cells + rm.cells) (slots + rm.slots) → Qc v T'.heap L → Go p e below s nc ns Q (T'.setTop (mkF m pc' Ls (v.toList ++ rest)))) : Go p e below s nc ns Q (T.setTop (mkF m pc Ls St)) := by
  subst hp
  obtain ⟨v, _, ⟨T', L', k', n'⟩, -, X', ⟨Lc, hQ, l', y', z'⟩, st⟩ := X.specialBack B.x (y := y) hy1 B.o (mvT B.z w1) (mvT B.z w2) (mvT B.z w4) hy (backOf (W := W) M B.z w4 w3 hf hl) (g := mkF m pc Ls St) rfl (by rw [B.ml]; exact hsz) (Steps.refl _) (a := a) (argsL := argsL) (rest := rest) hlen hst (by show 2 * 0 + _ ≤ _; omega) (B.d hd) (fun _ _ => ⟨rfl, eT, hc, hs⟩)
  dsimp only [Pt.U, Pt.locs, Pt.cells, Pt.slots] at X' l' y' z' st hQ
  subst l' y' z'
  exact Go.step (fun t q => st.trans q) (K T' v Lc X' hQ)
theorem g_virtual (X : Stand p l e R s m args below meth c T locs cells slots) (B : Bdy p s m meth c Z a0 own nm bytes maxL rt tabs) {y : MethodName} {C : String} {i : Nat} {yb : ByteArray} {ym : Nat} {yr : Option FieldType} {rm : Room} {a : Addr} {argsL rest : List Value} {Qc : Option Value → Heap → List Loc → Prop} (eT : T.heap = h) (W : Nat) (E : Exa Z h a C)
    (w1 : (Jvm.Cond.methodLink own i y).before a0 Z = true) (wd : (Jvm.Cond.declares y).before a0 Z = true) (wsel : (Jvm.Cond.selects C y y).before a0 Z = true) (w2 : (Jvm.Cond.instanceMethod y).before a0 Z = true) (w3 : (Jvm.Cond.initialized y.cls).before a0 Z = true) (w4 : (Jvm.Cond.code y yb ym yr).before a0 Z = true) (hy : y.cls ≠ "java/lang/invoke/MethodHandle" ∧ y.cls ≠ "java/lang/invoke/VarHandle")
    (M : Met l Z y yb ym yr [] rm (.ref a :: argsL).toArray h Qc) (hf : rm.frames + 1 ≤ R.frames) (hl : W + (ym + 11) + rm.locals ≤ R.locals) (hc : cells + rm.cells ≤ R.cells) (hs : slots + rm.slots ≤ R.slots)
    (hsz : Ls.size = maxL) (hlen : ∀ sig, parseMethodDescriptor y.desc = some sig → argsL.length = sig.parameters.length) (hst : St = argsL.reverse ++ .ref a :: rest) (hW : (rest.map fun v => v.category).sum ≤ W) (hd : decode bytes pc = .ok (.invokevirtual i, 3)) (hp : pc + 3 = pc')
    (K : ∀ (T' : State) (v : Option Value) (L : List Loc), Stand p l e R s m args below meth c T' (locs ++ L) (cells + rm.cells) (slots + rm.slots) → Qc v T'.heap L → Go p e below s nc ns Q (T'.setTop (mkF m pc' Ls (v.toList ++ rest)))) : Go p e below s nc ns Q (T.setTop (mkF m pc Ls St)) := by
  subst hp
  obtain ⟨cq, kq, q1, q2, q3⟩ := isOf B.z eT E
  obtain ⟨v, _, ⟨T', L', k', n'⟩, -, X', ⟨Lc, hQ, l', y', z'⟩, st⟩ := X.virtualBack B.x (y := y) (z := y) B.o (mvT B.z w1) (mvT B.z wd) (notFace_of_selects (args := #[]) (mvT B.z wsel)) (mvT B.z wsel) (mvT B.z w2) hy (backOf (W := W) M B.z w4 w3 hf hl) q1 q3 (g := mkF m pc Ls St) rfl (by rw [B.ml]; exact hsz) (Steps.refl _) (argsL := argsL) (rest := rest) hlen hst (by show 2 * 0 + _ ≤ _; omega) (B.d hd) (fun _ _ => ⟨rfl, eT, hc, hs⟩)
  dsimp only [Pt.U, Pt.locs, Pt.cells, Pt.slots] at X' l' y' z' st hQ
  subst l' y' z'
  exact Go.step (fun t q => st.trans q) (K T' v Lc X' hQ)
theorem g_ifnullR (X : Stand p l e R s m args below meth c T locs cells slots) (B : Bdy p s m meth c Z a0 own nm bytes maxL rt tabs) {a : Addr} {o : Int} (hd : decode bytes pc = .ok (.ifnull o, 3)) (hp : pc + 3 = pc') (K : Go p e below s nc ns Q (T.setTop (mkF m pc' Ls St))) : Go p e below s nc ns Q (T.setTop (mkF m pc Ls (.ref a :: St))) := by
  subst hp; exact Go.step (fun t q => XS.ifnullNo X.here B.x (g := mkF m pc Ls (.ref a :: St)) rfl (B.d hd) rfl q) K
theorem g_ifnullN (X : Stand p l e R s m args below meth c T locs cells slots) (B : Bdy p s m meth c Z a0 own nm bytes maxL rt tabs) {o : Int} (hd : decode bytes pc = .ok (.ifnull o, 3)) (ho : 0 ≤ (pc : Int) + o) (hp : ((pc : Int) + o).toNat = pc') (K : Go p e below s nc ns Q (T.setTop (mkF m pc' Ls St))) : Go p e below s nc ns Q (T.setTop (mkF m pc Ls (.null :: St))) :=
  Go.step (fun t q => XS.ifnullYes X.here B.x (g := mkF m pc Ls (.null :: St)) rfl rfl (B.d hd) rfl ho hp q) K
theorem g_ifnonnullR (X : Stand p l e R s m args below meth c T locs cells slots) (B : Bdy p s m meth c Z a0 own nm bytes maxL rt tabs) {a : Addr} {o : Int} (hd : decode bytes pc = .ok (.ifnonnull o, 3)) (ho : 0 ≤ (pc : Int) + o) (hp : ((pc : Int) + o).toNat = pc') (K : Go p e below s nc ns Q (T.setTop (mkF m pc' Ls St))) : Go p e below s nc ns Q (T.setTop (mkF m pc Ls (.ref a :: St))) :=
  Go.step (fun t q => XS.ifnonnullYes X.here B.x (g := mkF m pc Ls (.ref a :: St)) rfl rfl (B.d hd) rfl ho hp q) K
theorem g_ifnonnullN (X : Stand p l e R s m args below meth c T locs cells slots) (B : Bdy p s m meth c Z a0 own nm bytes maxL rt tabs) {o : Int} (hd : decode bytes pc = .ok (.ifnonnull o, 3)) (hp : pc + 3 = pc') (K : Go p e below s nc ns Q (T.setTop (mkF m pc' Ls St))) : Go p e below s nc ns Q (T.setTop (mkF m pc Ls (.null :: St))) := by
  subst hp; exact Go.step (fun t q => XS.ifnonnullNo X.here B.x (g := mkF m pc Ls (.null :: St)) rfl (B.d hd) rfl q) K
theorem g_acmp_eq (X : Stand p l e R s m args below meth c T locs cells slots) (B : Bdy p s m meth c Z a0 own nm bytes maxL rt tabs) {a b : Addr} {o : Int} {pcT pcF : Nat} (hd : decode bytes pc = .ok (.if_acmp .eq o, 3)) (ho : 0 ≤ (pc : Int) + o) (hT : ((pc : Int) + o).toNat = pcT) (hF : pc + 3 = pcF) (K1 : a = b → Go p e below s nc ns Q (T.setTop (mkF m pcT Ls St))) (K2 : ¬ a = b → Go p e below s nc ns Q (T.setTop (mkF m pcF Ls St))) : Go p e below s nc ns Q (T.setTop (mkF m pc Ls (.ref b :: .ref a :: St))) := by
  by_cases q : a = b
  · exact Go.step (fun t k => XS.acmpYes X.here B.x (g := mkF m pc Ls (.ref b :: .ref a :: St)) rfl rfl (B.d hd) rfl (by simp [if_acmp.holds, q]) ho hT k) (K1 q)
  · subst hF; exact Go.step (fun t k => XS.acmpNo X.here B.x (g := mkF m pc Ls (.ref b :: .ref a :: St)) rfl (B.d hd) rfl (by simp [if_acmp.holds, q]) k) (K2 q)
theorem g_acmp_ne (X : Stand p l e R s m args below meth c T locs cells slots) (B : Bdy p s m meth c Z a0 own nm bytes maxL rt tabs) {a b : Addr} {o : Int} {pcT pcF : Nat} (hd : decode bytes pc = .ok (.if_acmp .ne o, 3)) (ho : 0 ≤ (pc : Int) + o) (hT : ((pc : Int) + o).toNat = pcT) (hF : pc + 3 = pcF) (K1 : a = b → Go p e below s nc ns Q (T.setTop (mkF m pcF Ls St))) (K2 : ¬ a = b → Go p e below s nc ns Q (T.setTop (mkF m pcT Ls St))) : Go p e below s nc ns Q (T.setTop (mkF m pc Ls (.ref b :: .ref a :: St))) := by
  by_cases q : a = b
  · subst hF; exact Go.step (fun t k => XS.acmpNo X.here B.x (g := mkF m pc Ls (.ref b :: .ref a :: St)) rfl (B.d hd) rfl (by simp [if_acmp.holds, q]) k) (K1 q)
  · exact Go.step (fun t k => XS.acmpYes X.here B.x (g := mkF m pc Ls (.ref b :: .ref a :: St)) rfl rfl (B.d hd) rfl (by simp [if_acmp.holds, q]) ho hT k) (K2 q)
theorem own_fuq {a : Addr} {C n d : String} {v w : Value} (F : Fld Z h a C n d v) (G : Fld Z h a C n d w) : v = w := by
  obtain ⟨c1, _, _, _, _, h1, h2, -, -, -, -, h3⟩ := F
  obtain ⟨c2, _, _, _, _, g1, g2, -, -, -, -, g3⟩ := G
  cases h1.symm.trans g1
  cases h2.symm.trans g2
  exact Option.some.inj (h3.symm.trans g3)
theorem own_fl {x : Addr} {t : Term} {C n d : String} {k : Int32} {as : Array Value} (ht : t.eval as s none [] s = some (.ref x)) (q : (Jvm.Cond.eq (.field t C n d) (.int k)).value as s none s [] = some true) : s.fieldOf? x C n d = some (.int k) := by
  obtain ⟨x', y', e1, e2, k1, k2⟩ := cmp_v (Or.inl q)
  have e3 : y' = .int k := (Option.some.inj ((Term.int_eval k).symm.trans e2)).symm
  subst e3
  obtain ⟨z, rfl⟩ := k2
  have e4 := gotT (Cond.eq_ints e1 e2) q
  subst e4
  rw [← fld_at (C := C) (n := n) (dd := d) ht]; exact e1
end HeapKit
theorem own_ints_nil (x : Int32) : ∀ j : Nat, ∃ v : Int32, (fun _ : Nat => Value.int x) j = .int v := fun _ => ⟨x, rfl⟩
theorem own_ints_set {w : Nat → Value} (H : ∀ j : Nat, ∃ v : Int32, w j = .int v) (k : Nat) (x : Int32) : ∀ j : Nat, ∃ v : Int32, (fun j => if j = k then Value.int x else w j) j = .int v := fun j => by
  by_cases q : j = k
  · exact ⟨x, by simp [q]⟩
  · obtain ⟨v, hv⟩ := H j; exact ⟨v, by simp [q, hv]⟩
section HeapKit2
variable {p : Program} {l : Launch} {e : Env} {R : Room} {s : State} {m : MethodId} {args : Array Value} {below : List Frame} {meth : Method} {c : Code} {T : State} {locs : List Loc} {cells slots : Nat} {Z : State} {a0 : Array Value} {h h' : Heap} {nc ns : Nat} {Q Q' : Option Value → Heap → List Loc → Prop} {pc pc' : Nat} {Ls Ls' : Array Slot} {St : List Value} {own nm : String} {bytes : ByteArray} {maxL : Nat} {rt : Option FieldType} {tabs : List Jvm.Cond}
theorem g_iaload_any (X : Stand p l e R s m args below meth c T locs cells slots) (B : Bdy p s m meth c Z a0 own nm bytes maxL rt tabs) {a : Addr} {n : Nat} {w : Nat → Value} {j : Int32} (k : Nat) (eT : T.heap = h) (F : Ax Z h a .int n w) (hk : j.toInt = (k : Int)) (hn : k < n) (hall : ∀ j : Nat, ∃ v : Int32, w j = .int v) (hd : decode bytes pc = .ok (.iaload, 1)) (hp : pc + 1 = pc') (K : ∀ v : Int32, Go p e below s nc ns Q (T.setTop (mkF m pc' Ls (.int v :: St)))) : Go p e below s nc ns Q (T.setTop (mkF m pc Ls (.int j :: .ref a :: St))) := by
  obtain ⟨v, hv⟩ := hall k
  exact g_iaload X B k eT F hk hn hv hd hp (K v)
end HeapKit2
section HeapKit3
variable {p : Program} {l : Launch} {e : Env} {R : Room} {s : State} {m : MethodId} {args : Array Value} {below : List Frame} {meth : Method} {c : Code} {T : State} {locs : List Loc} {cells slots : Nat} {Z : State} {a0 : Array Value} {h h' : Heap} {nc ns : Nat} {Q Q' : Option Value → Heap → List Loc → Prop} {pc pc' : Nat} {Ls Ls' : Array Slot} {St : List Value} {own nm : String} {bytes : ByteArray} {maxL : Nat} {rt : Option FieldType} {tabs : List Jvm.Cond}
theorem g_private (X : Stand p l e R s m args below meth c T locs cells slots) (B : Bdy p s m meth c Z a0 own nm bytes maxL rt tabs) {y : MethodName} {C : String} {i kk : Nat} {yb : ByteArray} {ym : Nat} {yr : Option FieldType} {rm : Room} {a : Addr} {argsL rest : List Value} {Qc : Option Value → Heap → List Loc → Prop} (eT : T.heap = h) (W : Nat) (E : Exa Z h a C)
    (w1 : (Jvm.Cond.methodLink own i y).before a0 Z = true) (wi : (Jvm.Cond.instantiable y.cls kk).before a0 Z = true) (wp : (Jvm.Cond.privateMethod y).before a0 Z = true) (w2 : (Jvm.Cond.instanceMethod y).before a0 Z = true) (w3 : (Jvm.Cond.initialized y.cls).before a0 Z = true) (w4 : (Jvm.Cond.code y yb ym yr).before a0 Z = true) (hy : y.cls ≠ "java/lang/invoke/MethodHandle" ∧ y.cls ≠ "java/lang/invoke/VarHandle")
    (M : Met l Z y yb ym yr [] rm (.ref a :: argsL).toArray h Qc) (hf : rm.frames + 1 ≤ R.frames) (hl : W + (ym + 11) + rm.locals ≤ R.locals) (hc : cells + rm.cells ≤ R.cells) (hs : slots + rm.slots ≤ R.slots)
    (hsz : Ls.size = maxL) (hlen : ∀ sig, parseMethodDescriptor y.desc = some sig → argsL.length = sig.parameters.length) (hst : St = argsL.reverse ++ .ref a :: rest) (hW : (rest.map fun v => v.category).sum ≤ W) (hd : decode bytes pc = .ok (.invokevirtual i, 3)) (hp : pc + 3 = pc')
    (K : ∀ (T' : State) (v : Option Value) (L : List Loc), Stand p l e R s m args below meth c T' (locs ++ L) (cells + rm.cells) (slots + rm.slots) → Qc v T'.heap L → Go p e below s nc ns Q (T'.setTop (mkF m pc' Ls (v.toList ++ rest)))) : Go p e below s nc ns Q (T.setTop (mkF m pc Ls St)) := by
  subst hp
  obtain ⟨cq, q1, q2⟩ := E.cell
  have wi' : (Jvm.Cond.instantiable y.cls kk).before args s = true := mvT B.z wi
  have w2' : (Jvm.Cond.instanceMethod y).before args s = true := mvT B.z w2
  obtain ⟨c2, k2, i1, i2, i3, i4, -⟩ := Cond.instantiable_spec wi'
  have i5 : k2.isInterface = false := by
    cases hq : k2.isInterface with
    | false => rfl
    | true => rw [hq] at i4; cases i4
  have hpv := Cond.privateMethod_at (mvP B.z wp (args := #[]))
  obtain ⟨v, _, ⟨T', L', k', n'⟩, -, X', ⟨Lc, hQ, l', y', z'⟩, st⟩ := X.privateBack B.x (y := y) B.o (mvT B.z w1) w2' (selects_self_of_private i1 i2 i5 hpv w2' hy) hpv (mvT B.z w4) hy (backOf (W := W) M B.z w4 w3 hf hl) (g := mkF m pc Ls St) rfl (by rw [B.ml]; exact hsz) (Steps.refl _) (a := a) (by rw [eT]; exact q1) q2 (argsL := argsL) (rest := rest) hlen hst (by show 2 * 0 + _ ≤ _; omega) (B.d hd) (fun _ _ => ⟨rfl, eT, hc, hs⟩)
  dsimp only [Pt.U, Pt.locs, Pt.cells, Pt.slots] at X' l' y' z' st hQ
  subst l' y' z'
  exact Go.step (fun t q => st.trans q) (K T' v Lc X' hQ)
theorem g_pop2L (X : Stand p l e R s m args below meth c T locs cells slots) (B : Bdy p s m meth c Z a0 own nm bytes maxL rt tabs) {x : Int64} (hd : decode bytes pc = .ok (.pop2, 1)) (hp : pc + 1 = pc') (K : Go p e below s nc ns Q (T.setTop (mkF m pc' Ls St))) : Go p e below s nc ns Q (T.setTop (mkF m pc Ls (.long x :: St))) := by
  subst hp
  have hd' := B.d hd
  have hx := B.x
  refine Go.step (fun t q => ?_) K
  jvm_step X.here [X.here.top, hx, hd', Value.category]
  exact q
theorem g_instY (X : Stand p l e R s m args below meth c T locs cells slots) (B : Bdy p s m meth c Z a0 own nm bytes maxL rt tabs) {i : Nat} {C : String} {a : Addr} (w : (Jvm.Cond.classLink own i C).before a0 Z = true) (eT : T.heap = h) (F : Ins Z h a C true) (hd : decode bytes pc = .ok (.instanceof i, 3)) (hp : pc + 3 = pc')
    (K : ∀ T' : State, Stand p l e R s m args below meth c T' locs cells slots → T'.heap = h → Go p e below s nc ns Q (T'.setTop (mkF m pc' Ls (.int (1 : Int32) :: St)))) : Go p e below s nc ns Q (T.setTop (mkF m pc Ls (.ref a :: St))) := by
  subst hp
  obtain ⟨T', X', e', st⟩ := instY X B.x B.z B.o w eT F (g := mkF m pc Ls (.ref a :: St)) rfl rfl (B.d hd)
  exact Go.step st (K T' X' e')
theorem g_instN (X : Stand p l e R s m args below meth c T locs cells slots) (B : Bdy p s m meth c Z a0 own nm bytes maxL rt tabs) {i : Nat} {K' C : String} {a : Addr} (w : (Jvm.Cond.classLink own i K').before a0 Z = true) (eT : T.heap = h) (E : Exa Z h a C) (F : ∃ c t, Z.vm.findClass C = some c ∧ Z.vm.findClass K' = some t ∧ Z.vm.assignable c t = false) (hd : decode bytes pc = .ok (.instanceof i, 3)) (hp : pc + 3 = pc')
    (K : ∀ T' : State, Stand p l e R s m args below meth c T' locs cells slots → T'.heap = h → Go p e below s nc ns Q (T'.setTop (mkF m pc' Ls (.int (0 : Int32) :: St)))) : Go p e below s nc ns Q (T.setTop (mkF m pc Ls (.ref a :: St))) := by
  subst hp
  obtain ⟨T', X', e', st⟩ := instNo X B.x B.z B.o w eT E F (g := mkF m pc Ls (.ref a :: St)) rfl rfl (B.d hd)
  exact Go.step st (K T' X' e')
theorem g_castY (X : Stand p l e R s m args below meth c T locs cells slots) (B : Bdy p s m meth c Z a0 own nm bytes maxL rt tabs) {i : Nat} {C : String} {a : Addr} (w : (Jvm.Cond.classLink own i C).before a0 Z = true) (eT : T.heap = h) (F : Ins Z h a C true) (hd : decode bytes pc = .ok (.checkcast i, 3)) (hp : pc + 3 = pc')
    (K : ∀ T' : State, Stand p l e R s m args below meth c T' locs cells slots → T'.heap = h → Go p e below s nc ns Q (T'.setTop (mkF m pc' Ls (.ref a :: St)))) : Go p e below s nc ns Q (T.setTop (mkF m pc Ls (.ref a :: St))) := by
  subst hp
  obtain ⟨T', X', e', st⟩ := castY X B.x B.z B.o w eT F (g := mkF m pc Ls (.ref a :: St)) rfl rfl (B.d hd)
  exact Go.step st (K T' X' e')
end HeapKit3
theorem own_pd0 : parseMethodDescriptor "([II)Z" = some ⟨[(.array .int), .int], some .boolean⟩ := by decide +kernel
theorem own_pd1 : parseMethodDescriptor "([III)Z" = some ⟨[(.array .int), .int, .int], some .boolean⟩ := by decide +kernel
theorem own_pd2 : parseMethodDescriptor "(II)V" = some ⟨[.int, .int], none⟩ := by decide +kernel
theorem ini_d0 : decode prog_24_method_1_code 0 = .ok (.aload_n 0, 1) := by decide +kernel
theorem ini_d1 : decode prog_24_method_1_code 1 = .ok (.invokespecial 1, 3) := by decide +kernel
theorem ini_d4 : decode prog_24_method_1_code 4 = .ok (.iload_n 1, 1) := by decide +kernel
theorem ini_d5 : decode prog_24_method_1_code 5 = .ok (.iconst 2, 1) := by decide +kernel
theorem ini_d6 : decode prog_24_method_1_code 6 = .ok (.if_icmp .ge 17, 3) := by decide +kernel
theorem ini_d23 : decode prog_24_method_1_code 23 = .ok (.iload_n 2, 1) := by decide +kernel
theorem ini_d24 : decode prog_24_method_1_code 24 = .ok (.iconst 2, 1) := by decide +kernel
theorem ini_d25 : decode prog_24_method_1_code 25 = .ok (.if_icmp .ge 17, 3) := by decide +kernel
theorem ini_d42 : decode prog_24_method_1_code 42 = .ok (.aload_n 0, 1) := by decide +kernel
theorem ini_d43 : decode prog_24_method_1_code 43 = .ok (.iload_n 1, 1) := by decide +kernel
theorem ini_d44 : decode prog_24_method_1_code 44 = .ok (.putfield 17, 3) := by decide +kernel
theorem ini_d47 : decode prog_24_method_1_code 47 = .ok (.aload_n 0, 1) := by decide +kernel
theorem ini_d48 : decode prog_24_method_1_code 48 = .ok (.iload_n 2, 1) := by decide +kernel
theorem ini_d49 : decode prog_24_method_1_code 49 = .ok (.putfield 23, 3) := by decide +kernel
theorem ini_d52 : decode prog_24_method_1_code 52 = .ok (.return_, 1) := by decide +kernel
theorem own_pn_ini : plainFor (⟨"com/example/omni_stabilizer/omnistabilizer/protocols/DijkstraRing", "<init>", "(II)V"⟩ : MethodName) = true := plainFor_of_name (by first | (simp [plainName, overriddenIn]; done) | decide +kernel)
theorem own_ef_ini (m : MethodId) (o0 : Addr) (i1 : Int32) (i2 : Int32) : entryFrame m #[(.ref o0), (.int i1), (.int i2)] 3 = (mkF m 0 #[.val (.ref o0), .val (.int i1), .val (.int i2)] []) := by first | (simp [entryFrame, mkF, argsToLocals, Value.category]; done) | rfl
set_option maxRecDepth 65536 in
set_option maxHeartbeats 40000000 in
theorem ini_go {p : Program} {l : Launch} {e : Env} {s : State} {m : MethodId} {args : Array Value} {below : List Frame} {meth : Method} {c : Code} {T : State} {Z : State} {a0 : Array Value} {h : Heap} (X : Stand p l e (⟨1, 0, 0, 12⟩ : Room) s m args below meth c T [] 0 0) (B : Bdy p s m meth c Z a0 "com/example/omni_stabilizer/omnistabilizer/protocols/DijkstraRing" "<init>" prog_24_method_1_code 3 none tables_1) (eT : T.heap = h) (o0 : Addr) (i1 : Int32) (i2 : Int32) (n0 : Nat) (Zs : n0 ≤ h.size) (hE : Exa Z h o0 "com/example/omni_stabilizer/omnistabilizer/protocols/DijkstraRing") (f_machines : Fld Z h o0 "com/example/omni_stabilizer/omnistabilizer/protocols/DijkstraRing" "machines" "I" (.int (0 : Int32))) (f_k : Fld Z h o0 "com/example/omni_stabilizer/omnistabilizer/protocols/DijkstraRing" "k" "I" (.int (0 : Int32))) (g : n0 ≤ o0) (hm : ¬ i1 < (2 : Int32)) (hk : ¬ i2 < (2 : Int32)) :
    Go p e below s 0 0 (fun v h2 L => v = none ∧ Fr n0 L ∧ Keep h h2 [o0] ∧ Fld Z h2 o0 "com/example/omni_stabilizer/omnistabilizer/protocols/DijkstraRing" "machines" "I" (.int i1) ∧ Fld Z h2 o0 "com/example/omni_stabilizer/omnistabilizer/protocols/DijkstraRing" "k" "I" (.int i2)) (T.setTop (mkF m 0 #[.val (.ref o0), .val (.int i1), .val (.int i2)] [])) := by
  have N := Fr.nil n0
  have K := Keep.refl h [o0]
  refine g_aloadN X B ini_d0 (pc' := 1) rfl (v := (.ref o0)) rfl rfl ?_
  refine g_initO X B 0 (B.w 9 rfl) (B.w 10 rfl) (B.w 11 rfl) eT rfl ini_d1 (pc' := 4) rfl (by decide) (Nat.le_of_eq rfl) (by decide) (fun T1 X1 e1 => ?_)
  refine g_iloadN X1 B ini_d4 (pc' := 5) rfl (v := i1) rfl ?_
  refine g_iconst X1 B ini_d5 (pc' := 6) rfl (v := (2 : Int32)) (by decide) ?_
  refine g_icmp_ge X1 B ini_d6 (pcT := 23) (pcF := 9) (by decide) rfl rfl (fun c6_0 => ?_) (fun c6_0 => ?_)
  · exact absurd c6_0 hm
  · refine g_iloadN X1 B ini_d23 (pc' := 24) rfl (v := i2) rfl ?_
    refine g_iconst X1 B ini_d24 (pc' := 25) rfl (v := (2 : Int32)) (by decide) ?_
    refine g_icmp_ge X1 B ini_d25 (pcT := 42) (pcF := 28) (by decide) rfl rfl (fun c25_1 => ?_) (fun c25_1 => ?_)
    · exact absurd c25_1 hk
    · refine g_aloadN X1 B ini_d42 (pc' := 43) rfl (v := (.ref o0)) rfl rfl ?_
      refine g_iloadN X1 B ini_d43 (pc' := 44) rfl (v := i1) rfl ?_
      refine g_putF X1 B (B.w 12 rfl) Via.refl e1 f_machines hE (Or.inr ⟨B.w 13 rfl, rfl, rfl⟩) (B.w 4 rfl) (ty := .int) (by decide) rfl rfl ini_d44 (pc' := 47) rfl (fun T2 h2 X2 e2 W2 => ?_)
      have N2 := Fr.snoc X2 N g
      have E_o0_2 := hE.wr W2
      have F_o0_machines_2 := f_machines.same W2
      have F_o0_k_2 := f_k.other W2 (Or.inr (slot_ne (Or.inr (B.w 15 rfl)) (Or.inr (B.w 13 rfl)) (by decide) (t := .int) (t' := .int) (by decide) (by decide)))
      have Zs_2 := Nat.le_trans Zs (Keep.of_wr W2).1
      have K_2 := K.wr W2 (Or.inl (List.mem_of_getElem? (i := 0) rfl))
      refine g_aloadN X2 B ini_d47 (pc' := 48) rfl (v := (.ref o0)) rfl rfl ?_
      refine g_iloadN X2 B ini_d48 (pc' := 49) rfl (v := i2) rfl ?_
      refine g_putF X2 B (B.w 14 rfl) Via.refl e2 F_o0_k_2 E_o0_2 (Or.inr ⟨B.w 15 rfl, rfl, rfl⟩) (B.w 4 rfl) (ty := .int) (by decide) rfl rfl ini_d49 (pc' := 52) rfl (fun T3 h3 X3 e3 W3 => ?_)
      have N3 := Fr.snoc X3 N2 g
      have E_o0_3 := E_o0_2.wr W3
      have F_o0_machines_3 := F_o0_machines_2.other W3 (Or.inr (slot_ne (Or.inr (B.w 13 rfl)) (Or.inr (B.w 15 rfl)) (by decide) (t := .int) (t' := .int) (by decide) (by decide)))
      have F_o0_k_3 := F_o0_k_2.same W3
      have Zs_3 := Nat.le_trans Zs_2 (Keep.of_wr W3).1
      have K_3 := K_2.wr W3 (Or.inl (List.mem_of_getElem? (i := 0) rfl))
      exact g_ret0 X3 B rfl ini_d52 (by decide) (by decide) (by rw [e3]; exact ⟨rfl, N3, K_3, F_o0_machines_3, F_o0_k_3⟩)
theorem ini_met (l : Launch) (Z : State) (a0 : Array Value) (hw : ∀ d ∈ tables_1, d.before a0 Z = true) (ws : List Jvm.Cond) (h : Heap) (o0 : Addr) (i1 : Int32) (i2 : Int32) (n0 : Nat) (Zs : n0 ≤ h.size) (hE : Exa Z h o0 "com/example/omni_stabilizer/omnistabilizer/protocols/DijkstraRing") (f_machines : Fld Z h o0 "com/example/omni_stabilizer/omnistabilizer/protocols/DijkstraRing" "machines" "I" (.int (0 : Int32))) (f_k : Fld Z h o0 "com/example/omni_stabilizer/omnistabilizer/protocols/DijkstraRing" "k" "I" (.int (0 : Int32))) (g : n0 ≤ o0) (hm : ¬ i1 < (2 : Int32)) (hk : ¬ i2 < (2 : Int32)) :
    Met l Z (⟨"com/example/omni_stabilizer/omnistabilizer/protocols/DijkstraRing", "<init>", "(II)V"⟩ : MethodName) prog_24_method_1_code 3 none ws (⟨1, 0, 0, 12⟩ : Room) #[(.ref o0), (.int i1), (.int i2)] h (fun v h2 L => v = none ∧ Fr n0 L ∧ Keep h h2 [o0] ∧ Fld Z h2 o0 "com/example/omni_stabilizer/omnistabilizer/protocols/DijkstraRing" "machines" "I" (.int i1) ∧ Fld Z h2 o0 "com/example/omni_stabilizer/omnistabilizer/protocols/DijkstraRing" "k" "I" (.int i2)) :=
  met_of own_pn_ini hw fun p e s m below meth c T X B eT => Go.top (own_ef_ini m o0 i1 i2) (ini_go X B eT o0 i1 i2 n0 Zs hE f_machines f_k g hm hk)
theorem own_k0 : (0 : Int32).toInt = 0 := by decide
theorem own_k1 : (1 : Int32).toInt = 1 := by decide
theorem own_k2 : (2 : Int32).toInt = 2 := by decide
theorem own_k3 : (3 : Int32).toInt = 3 := by decide
theorem own_k4 : (4 : Int32).toInt = 4 := by decide
theorem own_k5 : (5 : Int32).toInt = 5 := by decide
def own_pr (i x y : Int32) : Int32 := if i = (0 : Int32) then (if x = y then 1 else 0) else (if x = y then 0 else 1)
theorem own_prn (i x y : Int32) : nar .boolean (own_pr i x y) = own_pr i x y := by
  unfold own_pr
  repeat' split
  all_goals decide
theorem own_im {i : Int32} {k : Nat} (hi : i.toInt = (k : Int)) (hk : 0 < k) : (i - (1 : Int32)).toInt = ((k - 1 : Nat) : Int) := by
  have e := c_isub i 1; have q := own_k1; have r1 := (i - 1).toInt_lt; have r2 := (i - 1).le_toInt; have r3 := i.toInt_lt
  omega
theorem own_left {i M : Int32} {k n : Nat} (hi : i.toInt = (k : Int)) (hM : M.toInt = (n : Int)) (hk : k < n) (hn : n ≤ 5) : (((i + M) - (1 : Int32)) % M).toInt = ((if k = 0 then n - 1 else k - 1 : Nat) : Int) := by
  have q := own_k1
  have e1 := c_iadd i M; have e2 := c_isub (i + M) 1
  have r1 := (i + M).toInt_lt; have r2 := (i + M).le_toInt; have r3 := (i + M - 1).toInt_lt; have r4 := (i + M - 1).le_toInt
  have q1 := (c_iremV (i + M - 1) M).1 (by omega) (by omega)
  split <;> omega
theorem own_mnz {M : Int32} {n : Nat} (hM : M.toInt = (n : Int)) (h : 0 < n) : M ≠ 0 := fun q => by rw [q, own_k0] at hM; omega
theorem pv_d0 : decode prog_24_method_5_code 0 = .ok (.iload_n 2, 1) := by decide +kernel
theorem pv_d1 : decode prog_24_method_5_code 1 = .ok (.ifCond .ne 23, 3) := by decide +kernel
theorem pv_d4 : decode prog_24_method_5_code 4 = .ok (.aload_n 1, 1) := by decide +kernel
theorem pv_d5 : decode prog_24_method_5_code 5 = .ok (.iconst 0, 1) := by decide +kernel
theorem pv_d6 : decode prog_24_method_5_code 6 = .ok (.iaload, 1) := by decide +kernel
theorem pv_d7 : decode prog_24_method_5_code 7 = .ok (.aload_n 1, 1) := by decide +kernel
theorem pv_d8 : decode prog_24_method_5_code 8 = .ok (.aload_n 0, 1) := by decide +kernel
theorem pv_d9 : decode prog_24_method_5_code 9 = .ok (.getfield 17, 3) := by decide +kernel
theorem pv_d12 : decode prog_24_method_5_code 12 = .ok (.iconst 1, 1) := by decide +kernel
theorem pv_d13 : decode prog_24_method_5_code 13 = .ok (.isub, 1) := by decide +kernel
theorem pv_d14 : decode prog_24_method_5_code 14 = .ok (.iaload, 1) := by decide +kernel
theorem pv_d15 : decode prog_24_method_5_code 15 = .ok (.if_icmp .ne 7, 3) := by decide +kernel
theorem pv_d18 : decode prog_24_method_5_code 18 = .ok (.iconst 1, 1) := by decide +kernel
theorem pv_d19 : decode prog_24_method_5_code 19 = .ok (.goto 4, 3) := by decide +kernel
theorem pv_d22 : decode prog_24_method_5_code 22 = .ok (.iconst 0, 1) := by decide +kernel
theorem pv_d23 : decode prog_24_method_5_code 23 = .ok (.ireturn, 1) := by decide +kernel
theorem pv_d24 : decode prog_24_method_5_code 24 = .ok (.aload_n 1, 1) := by decide +kernel
theorem pv_d25 : decode prog_24_method_5_code 25 = .ok (.iload_n 2, 1) := by decide +kernel
theorem pv_d26 : decode prog_24_method_5_code 26 = .ok (.iaload, 1) := by decide +kernel
theorem pv_d27 : decode prog_24_method_5_code 27 = .ok (.aload_n 1, 1) := by decide +kernel
theorem pv_d28 : decode prog_24_method_5_code 28 = .ok (.iload_n 2, 1) := by decide +kernel
theorem pv_d29 : decode prog_24_method_5_code 29 = .ok (.iconst 1, 1) := by decide +kernel
theorem pv_d30 : decode prog_24_method_5_code 30 = .ok (.isub, 1) := by decide +kernel
theorem pv_d31 : decode prog_24_method_5_code 31 = .ok (.iaload, 1) := by decide +kernel
theorem pv_d32 : decode prog_24_method_5_code 32 = .ok (.if_icmp .eq 7, 3) := by decide +kernel
theorem pv_d35 : decode prog_24_method_5_code 35 = .ok (.iconst 1, 1) := by decide +kernel
theorem pv_d36 : decode prog_24_method_5_code 36 = .ok (.goto 4, 3) := by decide +kernel
theorem pv_d39 : decode prog_24_method_5_code 39 = .ok (.iconst 0, 1) := by decide +kernel
theorem pv_d40 : decode prog_24_method_5_code 40 = .ok (.ireturn, 1) := by decide +kernel
theorem own_pn_pv : plainFor (⟨"com/example/omni_stabilizer/omnistabilizer/protocols/DijkstraRing", "privileged", "([II)Z"⟩ : MethodName) = true := plainFor_of_name (by first | (simp [plainName, overriddenIn]; done) | decide +kernel)
theorem own_ef_pv (m : MethodId) (o0 : Addr) (o1 : Addr) (i2 : Int32) : entryFrame m #[(.ref o0), (.ref o1), (.int i2)] 3 = (mkF m 0 #[.val (.ref o0), .val (.ref o1), .val (.int i2)] []) := by first | (simp [entryFrame, mkF, argsToLocals, Value.category]; done) | rfl
set_option maxRecDepth 65536 in
set_option maxHeartbeats 40000000 in
theorem pv_go {p : Program} {l : Launch} {e : Env} {s : State} {m : MethodId} {args : Array Value} {below : List Frame} {meth : Method} {c : Code} {T : State} {Z : State} {a0 : Array Value} {h : Heap} (X : Stand p l e (⟨0, 0, 0, 0⟩ : Room) s m args below meth c T [] 0 0) (B : Bdy p s m meth c Z a0 "com/example/omni_stabilizer/omnistabilizer/protocols/DijkstraRing" "privileged" prog_24_method_5_code 3 (some .boolean) tables_1) (eT : T.heap = h) (o0 : Addr) (o1 : Addr) (i2 : Int32) (M : Int32) (n : Nat) (k : Nat) (w : Nat → Value) (x : Int32) (y : Int32) (V : Ax Z h o1 .int n w) (F : Fld Z h o0 "com/example/omni_stabilizer/omnistabilizer/protocols/DijkstraRing" "machines" "I" (.int M)) (hM : M.toInt = (n : Int)) (hk : i2.toInt = (k : Int)) (hkn : k < n) (hx : w k = .int x) (hy : w (if k = 0 then n - 1 else k - 1) = .int y) :
    Go p e below s 0 0 (PQ (some (.int (own_pr i2 x y))) h []) (T.setTop (mkF m 0 #[.val (.ref o0), .val (.ref o1), .val (.int i2)] [])) := by
  refine g_iloadN X B pv_d0 (pc' := 1) rfl (v := i2) rfl ?_
  refine g_if_ne X B pv_d1 (pcT := 24) (pcF := 4) (by decide) rfl rfl (fun c1_0 => ?_) (fun c1_0 => ?_)
  · have hk0 : k = 0 := by rw [c1_0, own_k0] at hk; omega
    refine g_aloadN X B pv_d4 (pc' := 5) rfl (v := (.ref o1)) rfl rfl ?_
    refine g_iconst X B pv_d5 (pc' := 6) rfl (v := (0 : Int32)) (by decide) ?_
    refine g_iaload X B 0 eT V (by decide) (by omega) (v := (.int x)) (by rw [hk0] at hx; exact hx) pv_d6 (pc' := 7) rfl ?_
    refine g_aloadN X B pv_d7 (pc' := 8) rfl (v := (.ref o1)) rfl rfl ?_
    refine g_aloadN X B pv_d8 (pc' := 9) rfl (v := (.ref o0)) rfl rfl ?_
    refine g_getF X B (B.w 12 rfl) Via.refl eT F pv_d9 (pc' := 12) rfl (fun T1 X1 e1 => ?_)
    refine g_iconst X1 B pv_d12 (pc' := 13) rfl (v := (1 : Int32)) (by decide) ?_
    refine g_isub X1 B pv_d13 (pc' := 14) rfl ?_
    refine g_iaload X1 B (n - 1) e1 V (own_im hM (by omega)) (by omega) (v := (.int y)) (by rw [hk0] at hy; exact hy) pv_d14 (pc' := 15) rfl ?_
    refine g_icmp_ne X1 B pv_d15 (pcT := 22) (pcF := 18) (by decide) rfl rfl (fun c15_1 => ?_) (fun c15_1 => ?_)
    · refine g_iconst X1 B pv_d18 (pc' := 19) rfl (v := (1 : Int32)) (by decide) ?_
      refine g_goto X1 B pv_d19 (pc' := 23) (by decide) rfl ?_
      exact g_retN X1 B (t := .boolean) rfl (by simp) pv_d23 (by decide) (by decide) ⟨congrArg (fun z => some (Value.int z)) (show nar .boolean (1 : Int32) = own_pr i2 x y by rw [own_pr, if_pos c1_0, if_pos c15_1]; decide), e1, rfl⟩
    · refine g_iconst X1 B pv_d22 (pc' := 23) rfl (v := (0 : Int32)) (by decide) ?_
      exact g_retN X1 B (t := .boolean) rfl (by simp) pv_d23 (by decide) (by decide) ⟨congrArg (fun z => some (Value.int z)) (show nar .boolean (0 : Int32) = own_pr i2 x y by rw [own_pr, if_pos c1_0, if_neg c15_1]; decide), e1, rfl⟩
  · have hk0 : ¬ k = 0 := fun q => c1_0 (Int32.toInt_inj.mp (by rw [hk, q, own_k0]; rfl))
    refine g_aloadN X B pv_d24 (pc' := 25) rfl (v := (.ref o1)) rfl rfl ?_
    refine g_iloadN X B pv_d25 (pc' := 26) rfl (v := i2) rfl ?_
    refine g_iaload X B k eT V hk hkn (v := (.int x)) hx pv_d26 (pc' := 27) rfl ?_
    refine g_aloadN X B pv_d27 (pc' := 28) rfl (v := (.ref o1)) rfl rfl ?_
    refine g_iloadN X B pv_d28 (pc' := 29) rfl (v := i2) rfl ?_
    refine g_iconst X B pv_d29 (pc' := 30) rfl (v := (1 : Int32)) (by decide) ?_
    refine g_isub X B pv_d30 (pc' := 31) rfl ?_
    refine g_iaload X B (k - 1) eT V (own_im hk (by omega)) (by omega) (v := (.int y)) (by rw [if_neg hk0] at hy; exact hy) pv_d31 (pc' := 32) rfl ?_
    refine g_icmp_eq X B pv_d32 (pcT := 39) (pcF := 35) (by decide) rfl rfl (fun c32_1 => ?_) (fun c32_1 => ?_)
    · refine g_iconst X B pv_d39 (pc' := 40) rfl (v := (0 : Int32)) (by decide) ?_
      exact g_retN X B (t := .boolean) rfl (by simp) pv_d40 (by decide) (by decide) ⟨congrArg (fun z => some (Value.int z)) (show nar .boolean (0 : Int32) = own_pr i2 x y by rw [own_pr, if_neg c1_0, if_pos c32_1]; decide), eT, rfl⟩
    · refine g_iconst X B pv_d35 (pc' := 36) rfl (v := (1 : Int32)) (by decide) ?_
      refine g_goto X B pv_d36 (pc' := 40) (by decide) rfl ?_
      exact g_retN X B (t := .boolean) rfl (by simp) pv_d40 (by decide) (by decide) ⟨congrArg (fun z => some (Value.int z)) (show nar .boolean (1 : Int32) = own_pr i2 x y by rw [own_pr, if_neg c1_0, if_neg c32_1]; decide), eT, rfl⟩
theorem pv_met (l : Launch) (Z : State) (a0 : Array Value) (hw : ∀ d ∈ tables_1, d.before a0 Z = true) (ws : List Jvm.Cond) (h : Heap) (o0 : Addr) (o1 : Addr) (i2 : Int32) (M : Int32) (n : Nat) (k : Nat) (w : Nat → Value) (x : Int32) (y : Int32) (V : Ax Z h o1 .int n w) (F : Fld Z h o0 "com/example/omni_stabilizer/omnistabilizer/protocols/DijkstraRing" "machines" "I" (.int M)) (hM : M.toInt = (n : Int)) (hk : i2.toInt = (k : Int)) (hkn : k < n) (hx : w k = .int x) (hy : w (if k = 0 then n - 1 else k - 1) = .int y) :
    Met l Z (⟨"com/example/omni_stabilizer/omnistabilizer/protocols/DijkstraRing", "privileged", "([II)Z"⟩ : MethodName) prog_24_method_5_code 3 (some .boolean) ws (⟨0, 0, 0, 0⟩ : Room) #[(.ref o0), (.ref o1), (.int i2)] h (PQ (some (.int (own_pr i2 x y))) h []) :=
  met_of own_pn_pv hw fun p e s m below meth c T X B eT => Go.top (own_ef_pv m o0 o1 i2) (pv_go X B eT o0 o1 i2 M n k w x y V F hM hk hkn hx hy)
theorem rf_d0 : decode method_2_code 0 = .ok (.iload_n 1, 1) := by decide +kernel
theorem rf_d1 : decode method_2_code 1 = .ok (.iload_n 2, 1) := by decide +kernel
theorem rf_d2 : decode method_2_code 2 = .ok (.iadd, 1) := by decide +kernel
theorem rf_d3 : decode method_2_code 3 = .ok (.iconst 1, 1) := by decide +kernel
theorem rf_d4 : decode method_2_code 4 = .ok (.isub, 1) := by decide +kernel
theorem rf_d5 : decode method_2_code 5 = .ok (.iload_n 2, 1) := by decide +kernel
theorem rf_d6 : decode method_2_code 6 = .ok (.irem, 1) := by decide +kernel
theorem rf_d7 : decode method_2_code 7 = .ok (.istore_n 3, 1) := by decide +kernel
theorem rf_d8 : decode method_2_code 8 = .ok (.aload_n 0, 1) := by decide +kernel
theorem rf_d9 : decode method_2_code 9 = .ok (.iload_n 1, 1) := by decide +kernel
theorem rf_d10 : decode method_2_code 10 = .ok (.iaload, 1) := by decide +kernel
theorem rf_d11 : decode method_2_code 11 = .ok (.aload_n 0, 1) := by decide +kernel
theorem rf_d12 : decode method_2_code 12 = .ok (.iload_n 3, 1) := by decide +kernel
theorem rf_d13 : decode method_2_code 13 = .ok (.iaload, 1) := by decide +kernel
theorem rf_d14 : decode method_2_code 14 = .ok (.if_icmp .ne 7, 3) := by decide +kernel
theorem rf_d17 : decode method_2_code 17 = .ok (.iconst 1, 1) := by decide +kernel
theorem rf_d18 : decode method_2_code 18 = .ok (.goto 4, 3) := by decide +kernel
theorem rf_d21 : decode method_2_code 21 = .ok (.iconst 0, 1) := by decide +kernel
theorem rf_d22 : decode method_2_code 22 = .ok (.istore 4, 2) := by decide +kernel
theorem rf_d24 : decode method_2_code 24 = .ok (.iload_n 1, 1) := by decide +kernel
theorem rf_d25 : decode method_2_code 25 = .ok (.ifCond .ne 6, 3) := by decide +kernel
theorem rf_d28 : decode method_2_code 28 = .ok (.iload 4, 2) := by decide +kernel
theorem rf_d30 : decode method_2_code 30 = .ok (.ireturn, 1) := by decide +kernel
theorem rf_d31 : decode method_2_code 31 = .ok (.iload 4, 2) := by decide +kernel
theorem rf_d33 : decode method_2_code 33 = .ok (.ifCond .ne 7, 3) := by decide +kernel
theorem rf_d36 : decode method_2_code 36 = .ok (.iconst 1, 1) := by decide +kernel
theorem rf_d37 : decode method_2_code 37 = .ok (.goto 4, 3) := by decide +kernel
theorem rf_d40 : decode method_2_code 40 = .ok (.iconst 0, 1) := by decide +kernel
theorem rf_d41 : decode method_2_code 41 = .ok (.ireturn, 1) := by decide +kernel
theorem own_pn_rf : plainFor (⟨"com/example/omni_stabilizer/omnistabilizer/protocols/DijkstraRingPrivilegedPinLaw", "ref", "([III)Z"⟩ : MethodName) = true := plainFor_of_name (by first | (simp [plainName, overriddenIn]; done) | decide +kernel)
theorem own_ef_rf (m : MethodId) (o0 : Addr) (i1 : Int32) (i2 : Int32) : entryFrame m #[(.ref o0), (.int i1), (.int i2)] 5 = (mkF m 0 #[.val (.ref o0), .val (.int i1), .val (.int i2), .unset, .unset] []) := by first | (simp [entryFrame, mkF, argsToLocals, Value.category]; done) | rfl
set_option maxRecDepth 65536 in
set_option maxHeartbeats 40000000 in
theorem rf_go {p : Program} {l : Launch} {e : Env} {s : State} {m : MethodId} {args : Array Value} {below : List Frame} {meth : Method} {c : Code} {T : State} {Z : State} {a0 : Array Value} {h : Heap} (X : Stand p l e (⟨0, 0, 0, 0⟩ : Room) s m args below meth c T [] 0 0) (B : Bdy p s m meth c Z a0 "com/example/omni_stabilizer/omnistabilizer/protocols/DijkstraRingPrivilegedPinLaw" "ref" method_2_code 5 (some .boolean) tables_1) (eT : T.heap = h) (o0 : Addr) (i1 : Int32) (i2 : Int32) (n : Nat) (k : Nat) (w : Nat → Value) (x : Int32) (y : Int32) (V : Ax Z h o0 .int n w) (hM : i2.toInt = (n : Int)) (hn5 : n ≤ 5) (hk : i1.toInt = (k : Int)) (hkn : k < n) (hx : w k = .int x) (hy : w (if k = 0 then n - 1 else k - 1) = .int y) :
    Go p e below s 0 0 (PQ (some (.int (own_pr i1 x y))) h []) (T.setTop (mkF m 0 #[.val (.ref o0), .val (.int i1), .val (.int i2), .unset, .unset] [])) := by
  refine g_iloadN X B rf_d0 (pc' := 1) rfl (v := i1) rfl ?_
  refine g_iloadN X B rf_d1 (pc' := 2) rfl (v := i2) rfl ?_
  refine g_iadd X B rf_d2 (pc' := 3) rfl ?_
  refine g_iconst X B rf_d3 (pc' := 4) rfl (v := (1 : Int32)) (by decide) ?_
  refine g_isub X B rf_d4 (pc' := 5) rfl ?_
  refine g_iloadN X B rf_d5 (pc' := 6) rfl (v := i2) rfl ?_
  refine g_irem X B (own_mnz hM (by omega)) rf_d6 (pc' := 7) rfl ?_
  refine g_istoreN X B rf_d7 (pc' := 8) rfl (Ls' := #[.val (.ref o0), .val (.int i1), .val (.int i2), .val (.int (((i1 + i2) - (1 : Int32)) % i2)), .unset]) rfl ?_
  refine g_aloadN X B rf_d8 (pc' := 9) rfl (v := (.ref o0)) rfl rfl ?_
  refine g_iloadN X B rf_d9 (pc' := 10) rfl (v := i1) rfl ?_
  refine g_iaload X B k eT V hk hkn (v := (.int x)) hx rf_d10 (pc' := 11) rfl ?_
  refine g_aloadN X B rf_d11 (pc' := 12) rfl (v := (.ref o0)) rfl rfl ?_
  refine g_iloadN X B rf_d12 (pc' := 13) rfl (v := (((i1 + i2) - (1 : Int32)) % i2)) rfl ?_
  refine g_iaload X B (if k = 0 then n - 1 else k - 1) eT V (own_left hk hM hkn hn5) (by split <;> omega) (v := (.int y)) hy rf_d13 (pc' := 14) rfl ?_
  refine g_icmp_ne X B rf_d14 (pcT := 21) (pcF := 17) (by decide) rfl rfl (fun c14_0 => ?_) (fun c14_0 => ?_)
  · refine g_iconst X B rf_d17 (pc' := 18) rfl (v := (1 : Int32)) (by decide) ?_
    refine g_goto X B rf_d18 (pc' := 22) (by decide) rfl ?_
    refine g_istore X B rf_d22 (pc' := 24) rfl (Ls' := #[.val (.ref o0), .val (.int i1), .val (.int i2), .val (.int (((i1 + i2) - (1 : Int32)) % i2)), .val (.int (1 : Int32))]) rfl ?_
    refine g_iloadN X B rf_d24 (pc' := 25) rfl (v := i1) rfl ?_
    refine g_if_ne X B rf_d25 (pcT := 31) (pcF := 28) (by decide) rfl rfl (fun c25_1 => ?_) (fun c25_1 => ?_)
    · refine g_iload X B rf_d28 (pc' := 30) rfl (v := (1 : Int32)) rfl ?_
      exact g_retN X B (t := .boolean) rfl (by simp) rf_d30 (by decide) (by decide) ⟨congrArg (fun z => some (Value.int z)) (show nar .boolean (1 : Int32) = own_pr i1 x y by rw [own_pr, if_pos c25_1, if_pos c14_0]; decide), eT, rfl⟩
    · refine g_iload X B rf_d31 (pc' := 33) rfl (v := (1 : Int32)) rfl ?_
      refine g_if_ne X B rf_d33 (pcT := 40) (pcF := 36) (by decide) rfl rfl (fun c33_2 => ?_) (fun c33_2 => ?_)
      · exact absurd c33_2 (by decide)
      · refine g_iconst X B rf_d40 (pc' := 41) rfl (v := (0 : Int32)) (by decide) ?_
        exact g_retN X B (t := .boolean) rfl (by simp) rf_d41 (by decide) (by decide) ⟨congrArg (fun z => some (Value.int z)) (show nar .boolean (0 : Int32) = own_pr i1 x y by rw [own_pr, if_neg c25_1, if_pos c14_0]; decide), eT, rfl⟩
  · refine g_iconst X B rf_d21 (pc' := 22) rfl (v := (0 : Int32)) (by decide) ?_
    refine g_istore X B rf_d22 (pc' := 24) rfl (Ls' := #[.val (.ref o0), .val (.int i1), .val (.int i2), .val (.int (((i1 + i2) - (1 : Int32)) % i2)), .val (.int (0 : Int32))]) rfl ?_
    refine g_iloadN X B rf_d24 (pc' := 25) rfl (v := i1) rfl ?_
    refine g_if_ne X B rf_d25 (pcT := 31) (pcF := 28) (by decide) rfl rfl (fun c25_1 => ?_) (fun c25_1 => ?_)
    · refine g_iload X B rf_d28 (pc' := 30) rfl (v := (0 : Int32)) rfl ?_
      exact g_retN X B (t := .boolean) rfl (by simp) rf_d30 (by decide) (by decide) ⟨congrArg (fun z => some (Value.int z)) (show nar .boolean (0 : Int32) = own_pr i1 x y by rw [own_pr, if_pos c25_1, if_neg c14_0]; decide), eT, rfl⟩
    · refine g_iload X B rf_d31 (pc' := 33) rfl (v := (0 : Int32)) rfl ?_
      refine g_if_ne X B rf_d33 (pcT := 40) (pcF := 36) (by decide) rfl rfl (fun c33_2 => ?_) (fun c33_2 => ?_)
      · refine g_iconst X B rf_d36 (pc' := 37) rfl (v := (1 : Int32)) (by decide) ?_
        refine g_goto X B rf_d37 (pc' := 41) (by decide) rfl ?_
        exact g_retN X B (t := .boolean) rfl (by simp) rf_d41 (by decide) (by decide) ⟨congrArg (fun z => some (Value.int z)) (show nar .boolean (1 : Int32) = own_pr i1 x y by rw [own_pr, if_neg c25_1, if_neg c14_0]; decide), eT, rfl⟩
      · exact absurd (by decide) c33_2
theorem rf_met (l : Launch) (Z : State) (a0 : Array Value) (hw : ∀ d ∈ tables_1, d.before a0 Z = true) (ws : List Jvm.Cond) (h : Heap) (o0 : Addr) (i1 : Int32) (i2 : Int32) (n : Nat) (k : Nat) (w : Nat → Value) (x : Int32) (y : Int32) (V : Ax Z h o0 .int n w) (hM : i2.toInt = (n : Int)) (hn5 : n ≤ 5) (hk : i1.toInt = (k : Int)) (hkn : k < n) (hx : w k = .int x) (hy : w (if k = 0 then n - 1 else k - 1) = .int y) :
    Met l Z (⟨"com/example/omni_stabilizer/omnistabilizer/protocols/DijkstraRingPrivilegedPinLaw", "ref", "([III)Z"⟩ : MethodName) method_2_code 5 (some .boolean) ws (⟨0, 0, 0, 0⟩ : Room) #[(.ref o0), (.int i1), (.int i2)] h (PQ (some (.int (own_pr i1 x y))) h []) :=
  met_of own_pn_rf hw fun p e s m below meth c T X B eT => Go.top (own_ef_rf m o0 i1 i2) (rf_go X B eT o0 i1 i2 n k w x y V hM hn5 hk hkn hx hy)
theorem own_pr_0 {x y : Int32} (h : own_pr (0 : Int32) x y = 0) : ¬ x = y := fun q => by rw [own_pr, if_pos rfl, if_pos q] at h; exact absurd h (by decide)
theorem own_pr_f {k : Int32} {x y : Int32} (hk : ¬ k = 0) (h : own_pr k x y = 0) : x = y := by
  by_cases q : x = y
  · exact q
  · rw [own_pr, if_neg hk, if_neg q] at h; exact absurd h (by decide)
theorem own_and1 {A : Prop} (a : A) : A := a
theorem own_and2 {A B : Prop} (a : A) (b : B) : A ∧ B := ⟨a, b⟩
theorem own_and3 {A B C : Prop} (a : A ∧ B) (c : C) : A ∧ B ∧ C := ⟨a.1, a.2, c⟩
theorem own_and4 {A B C D : Prop} (a : A ∧ B ∧ C) (d : D) : A ∧ B ∧ C ∧ D := ⟨a.1, a.2.1, a.2.2, d⟩
theorem own_m (x : Int32) : ∃ n : Nat, ((2 : Int32) + (x &&& (3 : Int32))).toInt = (n : Int) ∧ 2 ≤ n ∧ n ≤ 5 := by
  have e1 := c_mask x 3 2 (by decide) (by decide)
  have e2 := c_iadd 2 (x &&& 3); have q := own_k2
  have r1 := (2 + (x &&& 3)).toInt_lt; have r2 := (2 + (x &&& 3)).le_toInt
  exact ⟨(2 + (x &&& 3)).toInt.toNat, by omega, by omega, by omega⟩
theorem own_kk (x : Int32) : 2 ≤ ((2 : Int32) + (x &&& (15 : Int32))).toInt := by
  have e1 := c_mask x 15 4 (by decide) (by decide)
  have e2 := c_iadd 2 (x &&& 15); have q := own_k2
  have r1 := (2 + (x &&& 15)).toInt_lt; have r2 := (2 + (x &&& 15)).le_toInt
  omega
theorem own_k2z {m : Int32} (h : 2 ≤ m.toInt) : m ≠ 0 := fun q => by rw [q, own_k0] at h; omega
set_option maxRecDepth 65536 in
set_option maxHeartbeats 40000000 in
theorem law_t2 {p : Program} {l : Launch} {e : Env} {s : State} {m : MethodId} {args : Array Value} {below : List Frame} {meth : Method} {c : Code} {T : State} {Z : State} {a0 : Array Value} {h : Heap} {locs : List Loc} (X : Stand p l e room_1 s m args below meth c T locs 2 7) (B : Bdy p s m meth c Z a0 "com/example/omni_stabilizer/omnistabilizer/protocols/DijkstraRingPrivilegedPinLaw" "law" code 20 (some .boolean) tables_1) (eT : T.heap = h) (n0 : Nat) (Zs : n0 ≤ h.size) (N : Fr n0 locs) (i0 : Int32) (i1 : Int32) (i2 : Int32) (i3 : Int32) (i4 : Int32) (i5 : Int32) (i6 : Int32) (i7 : Int32) (i8 : Int32) (i9 : Int32) (i10 : Int32) (i11 : Int32) (i12 : Int32) (o13 : Addr) (o14 : Addr) (i15 : Int32) (i16 : Int32) (i17 : Int32) (i18 : Int32) (n : Nat) (w : Nat → Value) (yl : Int32) (hE : Exa Z h o14 "com/example/omni_stabilizer/omnistabilizer/protocols/DijkstraRing") (hF : Fld Z h o14 "com/example/omni_stabilizer/omnistabilizer/protocols/DijkstraRing" "machines" "I" (.int i6)) (hV : Ax Z h o13 .int n w) (hM : i6.toInt = (n : Int)) (hn2 : 2 ≤ n) (hn5 : n ≤ 5) (w0 : w 0 = .int i8) (w1 : w 1 = .int i9) (w2 : 2 < n → w 2 = .int i10) (w3 : 3 < n → w 3 = .int i11) (w4 : 4 < n → w 4 = .int i12) (wl : w (n - 1) = .int yl) (hok : i15 = 1) (ha : i16 = 1) (h2 : n = 2) :
    Go p e below s room_1.cells room_1.slots (fun v _ L => v = some (.int 1) ∧ Fr n0 L) (T.setTop (mkF m 417 #[.val (.int i0), .val (.int i1), .val (.int i2), .val (.int i3), .val (.int i4), .val (.int i5), .val (.int i6), .val (.int i7), .val (.int i8), .val (.int i9), .val (.int i10), .val (.int i11), .val (.int i12), .val (.ref o13), .val (.ref o14), .val (.int i15), .val (.int i16), .val (.int i17), .val (.int i18), .unset] [])) := by
  subst hok
  refine g_aload X B at_417 (pc' := 419) rfl (v := (.ref o13)) rfl rfl ?_
  refine g_iconst X B at_419 (pc' := 420) rfl (v := (0 : Int32)) (by decide) ?_
  refine g_iaload X B 0 eT hV (by decide) (by omega) (v := (.int i8)) w0 at_420 (pc' := 421) rfl ?_
  refine g_iload X B at_421 (pc' := 423) rfl (v := i8) rfl ?_
  refine g_icmp_ne X B at_423 (pcT := 439) (pcF := 426) (by decide) rfl rfl (fun c423_0 => ?_) (fun c423_0 => ?_)
  · refine g_aload X B at_426 (pc' := 428) rfl (v := (.ref o13)) rfl rfl ?_
    refine g_iconst X B at_428 (pc' := 429) rfl (v := (1 : Int32)) (by decide) ?_
    refine g_iaload X B 1 eT hV (by decide) (by omega) (v := (.int i9)) w1 at_429 (pc' := 430) rfl ?_
    refine g_iload X B at_430 (pc' := 432) rfl (v := i9) rfl ?_
    refine g_icmp_ne X B at_432 (pcT := 439) (pcF := 435) (by decide) rfl rfl (fun c432_1 => ?_) (fun c432_1 => ?_)
    · refine g_iconst X B at_435 (pc' := 436) rfl (v := (1 : Int32)) (by decide) ?_
      refine g_goto X B at_436 (pc' := 440) (by decide) rfl ?_
      refine g_istore X B at_440 (pc' := 442) rfl (Ls' := #[.val (.int i0), .val (.int i1), .val (.int i2), .val (.int i3), .val (.int i4), .val (.int i5), .val (.int i6), .val (.int i7), .val (.int i8), .val (.int i9), .val (.int i10), .val (.int i11), .val (.int i12), .val (.ref o13), .val (.ref o14), .val (.int (1 : Int32)), .val (.int i16), .val (.int i17), .val (.int i18), .val (.int (1 : Int32))]) rfl ?_
      refine g_iload X B at_442 (pc' := 444) rfl (v := i6) rfl ?_
      refine g_iconst X B at_444 (pc' := 445) rfl (v := (2 : Int32)) (by decide) ?_
      refine g_icmp_le X B at_445 (pcT := 469) (pcF := 448) (by decide) rfl rfl (fun c445_2 => ?_) (fun c445_2 => ?_)
      · exfalso; simp only [Int32.lt_iff_toInt_lt, own_k2] at c445_2; omega
      · have hl2 : n ≤ 2 := by rw [Int32.lt_iff_toInt_lt, own_k2] at c445_2; omega
        refine g_iload X B at_469 (pc' := 471) rfl (v := i6) rfl ?_
        refine g_iconst X B at_471 (pc' := 472) rfl (v := (3 : Int32)) (by decide) ?_
        refine g_icmp_le X B at_472 (pcT := 496) (pcF := 475) (by decide) rfl rfl (fun c472_3 => ?_) (fun c472_3 => ?_)
        · exfalso; simp only [Int32.lt_iff_toInt_lt, own_k3] at c472_3; omega
        · have hl3 : n ≤ 3 := by rw [Int32.lt_iff_toInt_lt, own_k3] at c472_3; omega
          refine g_iload X B at_496 (pc' := 498) rfl (v := i6) rfl ?_
          refine g_iconst X B at_498 (pc' := 499) rfl (v := (4 : Int32)) (by decide) ?_
          refine g_icmp_le X B at_499 (pcT := 523) (pcF := 502) (by decide) rfl rfl (fun c499_4 => ?_) (fun c499_4 => ?_)
          · exfalso; simp only [Int32.lt_iff_toInt_lt, own_k4] at c499_4; omega
          · have hl4 : n ≤ 4 := by rw [Int32.lt_iff_toInt_lt, own_k4] at c499_4; omega
            refine g_iload X B at_523 (pc' := 525) rfl (v := (1 : Int32)) rfl ?_
            refine g_if_eq X B at_525 (pcT := 542) (pcF := 528) (by decide) rfl rfl (fun c525_5 => ?_) (fun c525_5 => ?_)
            · exact absurd c525_5 (by decide)
            · refine g_iload X B at_528 (pc' := 530) rfl (v := i16) rfl ?_
              refine g_if_eq X B at_530 (pcT := 542) (pcF := 533) (by decide) rfl rfl (fun c530_6 => ?_) (fun c530_6 => ?_)
              · exact absurd c530_6 (by rw [ha]; decide)
              · refine g_iload X B at_533 (pc' := 535) rfl (v := (1 : Int32)) rfl ?_
                refine g_if_eq X B at_535 (pcT := 542) (pcF := 538) (by decide) rfl rfl (fun c535_7 => ?_) (fun c535_7 => ?_)
                · exact absurd c535_7 (by decide)
                · refine g_iconst X B at_538 (pc' := 539) rfl (v := (1 : Int32)) (by decide) ?_
                  refine g_goto X B at_539 (pc' := 543) (by decide) rfl ?_
                  exact g_retN X B (t := .boolean) rfl (by simp) at_543 (by decide) (by decide) ⟨congrArg (fun z => some (Value.int z)) (by decide : nar .boolean (1 : Int32) = 1), N⟩
    · exact absurd rfl c432_1
  · exact absurd rfl c423_0
set_option maxRecDepth 65536 in
set_option maxHeartbeats 40000000 in
theorem law_t3 {p : Program} {l : Launch} {e : Env} {s : State} {m : MethodId} {args : Array Value} {below : List Frame} {meth : Method} {c : Code} {T : State} {Z : State} {a0 : Array Value} {h : Heap} {locs : List Loc} (X : Stand p l e room_1 s m args below meth c T locs 2 7) (B : Bdy p s m meth c Z a0 "com/example/omni_stabilizer/omnistabilizer/protocols/DijkstraRingPrivilegedPinLaw" "law" code 20 (some .boolean) tables_1) (eT : T.heap = h) (n0 : Nat) (Zs : n0 ≤ h.size) (N : Fr n0 locs) (i0 : Int32) (i1 : Int32) (i2 : Int32) (i3 : Int32) (i4 : Int32) (i5 : Int32) (i6 : Int32) (i7 : Int32) (i8 : Int32) (i9 : Int32) (i10 : Int32) (i11 : Int32) (i12 : Int32) (o13 : Addr) (o14 : Addr) (i15 : Int32) (i16 : Int32) (i17 : Int32) (i18 : Int32) (i19 : Int32) (n : Nat) (w : Nat → Value) (yl : Int32) (hE : Exa Z h o14 "com/example/omni_stabilizer/omnistabilizer/protocols/DijkstraRing") (hF : Fld Z h o14 "com/example/omni_stabilizer/omnistabilizer/protocols/DijkstraRing" "machines" "I" (.int i6)) (hV : Ax Z h o13 .int n w) (hM : i6.toInt = (n : Int)) (hn2 : 2 ≤ n) (hn5 : n ≤ 5) (w0 : w 0 = .int i8) (w1 : w 1 = .int i9) (w2 : 2 < n → w 2 = .int i10) (w3 : 3 < n → w 3 = .int i11) (w4 : 4 < n → w 4 = .int i12) (wl : w (n - 1) = .int yl) (hok : i15 = 1) (ha : i16 = 1) (h3 : 3 ≤ n) :
    Go p e below s room_1.cells room_1.slots (fun v _ L => v = some (.int 1) ∧ Fr n0 L) (T.setTop (mkF m 417 #[.val (.int i0), .val (.int i1), .val (.int i2), .val (.int i3), .val (.int i4), .val (.int i5), .val (.int i6), .val (.int i7), .val (.int i8), .val (.int i9), .val (.int i10), .val (.int i11), .val (.int i12), .val (.ref o13), .val (.ref o14), .val (.int i15), .val (.int i16), .val (.int i17), .val (.int i18), .val (.int i19)] [])) := by
  subst hok
  refine g_aload X B at_417 (pc' := 419) rfl (v := (.ref o13)) rfl rfl ?_
  refine g_iconst X B at_419 (pc' := 420) rfl (v := (0 : Int32)) (by decide) ?_
  refine g_iaload X B 0 eT hV (by decide) (by omega) (v := (.int i8)) w0 at_420 (pc' := 421) rfl ?_
  refine g_iload X B at_421 (pc' := 423) rfl (v := i8) rfl ?_
  refine g_icmp_ne X B at_423 (pcT := 439) (pcF := 426) (by decide) rfl rfl (fun c423_0 => ?_) (fun c423_0 => ?_)
  · refine g_aload X B at_426 (pc' := 428) rfl (v := (.ref o13)) rfl rfl ?_
    refine g_iconst X B at_428 (pc' := 429) rfl (v := (1 : Int32)) (by decide) ?_
    refine g_iaload X B 1 eT hV (by decide) (by omega) (v := (.int i9)) w1 at_429 (pc' := 430) rfl ?_
    refine g_iload X B at_430 (pc' := 432) rfl (v := i9) rfl ?_
    refine g_icmp_ne X B at_432 (pcT := 439) (pcF := 435) (by decide) rfl rfl (fun c432_1 => ?_) (fun c432_1 => ?_)
    · refine g_iconst X B at_435 (pc' := 436) rfl (v := (1 : Int32)) (by decide) ?_
      refine g_goto X B at_436 (pc' := 440) (by decide) rfl ?_
      refine g_istore X B at_440 (pc' := 442) rfl (Ls' := #[.val (.int i0), .val (.int i1), .val (.int i2), .val (.int i3), .val (.int i4), .val (.int i5), .val (.int i6), .val (.int i7), .val (.int i8), .val (.int i9), .val (.int i10), .val (.int i11), .val (.int i12), .val (.ref o13), .val (.ref o14), .val (.int (1 : Int32)), .val (.int i16), .val (.int i17), .val (.int i18), .val (.int (1 : Int32))]) rfl ?_
      refine g_iload X B at_442 (pc' := 444) rfl (v := i6) rfl ?_
      refine g_iconst X B at_444 (pc' := 445) rfl (v := (2 : Int32)) (by decide) ?_
      refine g_icmp_le X B at_445 (pcT := 469) (pcF := 448) (by decide) rfl rfl (fun c445_2 => ?_) (fun c445_2 => ?_)
      · have hg2 : 2 < n := by rw [Int32.lt_iff_toInt_lt, own_k2] at c445_2; omega
        refine g_iload X B at_448 (pc' := 450) rfl (v := (1 : Int32)) rfl ?_
        refine g_if_eq X B at_450 (pcT := 466) (pcF := 453) (by decide) rfl rfl (fun c450_3 => ?_) (fun c450_3 => ?_)
        · exact absurd c450_3 (by decide)
        · refine g_aload X B at_453 (pc' := 455) rfl (v := (.ref o13)) rfl rfl ?_
          refine g_iconst X B at_455 (pc' := 456) rfl (v := (2 : Int32)) (by decide) ?_
          refine g_iaload X B 2 eT hV (by decide) (by omega) (v := (.int i10)) (w2 (by omega)) at_456 (pc' := 457) rfl ?_
          refine g_iload X B at_457 (pc' := 459) rfl (v := i10) rfl ?_
          refine g_icmp_ne X B at_459 (pcT := 466) (pcF := 462) (by decide) rfl rfl (fun c459_4 => ?_) (fun c459_4 => ?_)
          · refine g_iconst X B at_462 (pc' := 463) rfl (v := (1 : Int32)) (by decide) ?_
            refine g_goto X B at_463 (pc' := 467) (by decide) rfl ?_
            refine g_istore X B at_467 (pc' := 469) rfl (Ls' := #[.val (.int i0), .val (.int i1), .val (.int i2), .val (.int i3), .val (.int i4), .val (.int i5), .val (.int i6), .val (.int i7), .val (.int i8), .val (.int i9), .val (.int i10), .val (.int i11), .val (.int i12), .val (.ref o13), .val (.ref o14), .val (.int (1 : Int32)), .val (.int i16), .val (.int i17), .val (.int i18), .val (.int (1 : Int32))]) rfl ?_
            refine g_iload X B at_469 (pc' := 471) rfl (v := i6) rfl ?_
            refine g_iconst X B at_471 (pc' := 472) rfl (v := (3 : Int32)) (by decide) ?_
            refine g_icmp_le X B at_472 (pcT := 496) (pcF := 475) (by decide) rfl rfl (fun c472_5 => ?_) (fun c472_5 => ?_)
            · have hg3 : 3 < n := by rw [Int32.lt_iff_toInt_lt, own_k3] at c472_5; omega
              refine g_iload X B at_475 (pc' := 477) rfl (v := (1 : Int32)) rfl ?_
              refine g_if_eq X B at_477 (pcT := 493) (pcF := 480) (by decide) rfl rfl (fun c477_6 => ?_) (fun c477_6 => ?_)
              · exact absurd c477_6 (by decide)
              · refine g_aload X B at_480 (pc' := 482) rfl (v := (.ref o13)) rfl rfl ?_
                refine g_iconst X B at_482 (pc' := 483) rfl (v := (3 : Int32)) (by decide) ?_
                refine g_iaload X B 3 eT hV (by decide) (by omega) (v := (.int i11)) (w3 (by omega)) at_483 (pc' := 484) rfl ?_
                refine g_iload X B at_484 (pc' := 486) rfl (v := i11) rfl ?_
                refine g_icmp_ne X B at_486 (pcT := 493) (pcF := 489) (by decide) rfl rfl (fun c486_7 => ?_) (fun c486_7 => ?_)
                · refine g_iconst X B at_489 (pc' := 490) rfl (v := (1 : Int32)) (by decide) ?_
                  refine g_goto X B at_490 (pc' := 494) (by decide) rfl ?_
                  refine g_istore X B at_494 (pc' := 496) rfl (Ls' := #[.val (.int i0), .val (.int i1), .val (.int i2), .val (.int i3), .val (.int i4), .val (.int i5), .val (.int i6), .val (.int i7), .val (.int i8), .val (.int i9), .val (.int i10), .val (.int i11), .val (.int i12), .val (.ref o13), .val (.ref o14), .val (.int (1 : Int32)), .val (.int i16), .val (.int i17), .val (.int i18), .val (.int (1 : Int32))]) rfl ?_
                  refine g_iload X B at_496 (pc' := 498) rfl (v := i6) rfl ?_
                  refine g_iconst X B at_498 (pc' := 499) rfl (v := (4 : Int32)) (by decide) ?_
                  refine g_icmp_le X B at_499 (pcT := 523) (pcF := 502) (by decide) rfl rfl (fun c499_8 => ?_) (fun c499_8 => ?_)
                  · have hg4 : 4 < n := by rw [Int32.lt_iff_toInt_lt, own_k4] at c499_8; omega
                    refine g_iload X B at_502 (pc' := 504) rfl (v := (1 : Int32)) rfl ?_
                    refine g_if_eq X B at_504 (pcT := 520) (pcF := 507) (by decide) rfl rfl (fun c504_9 => ?_) (fun c504_9 => ?_)
                    · exact absurd c504_9 (by decide)
                    · refine g_aload X B at_507 (pc' := 509) rfl (v := (.ref o13)) rfl rfl ?_
                      refine g_iconst X B at_509 (pc' := 510) rfl (v := (4 : Int32)) (by decide) ?_
                      refine g_iaload X B 4 eT hV (by decide) (by omega) (v := (.int i12)) (w4 (by omega)) at_510 (pc' := 511) rfl ?_
                      refine g_iload X B at_511 (pc' := 513) rfl (v := i12) rfl ?_
                      refine g_icmp_ne X B at_513 (pcT := 520) (pcF := 516) (by decide) rfl rfl (fun c513_10 => ?_) (fun c513_10 => ?_)
                      · refine g_iconst X B at_516 (pc' := 517) rfl (v := (1 : Int32)) (by decide) ?_
                        refine g_goto X B at_517 (pc' := 521) (by decide) rfl ?_
                        refine g_istore X B at_521 (pc' := 523) rfl (Ls' := #[.val (.int i0), .val (.int i1), .val (.int i2), .val (.int i3), .val (.int i4), .val (.int i5), .val (.int i6), .val (.int i7), .val (.int i8), .val (.int i9), .val (.int i10), .val (.int i11), .val (.int i12), .val (.ref o13), .val (.ref o14), .val (.int (1 : Int32)), .val (.int i16), .val (.int i17), .val (.int i18), .val (.int (1 : Int32))]) rfl ?_
                        refine g_iload X B at_523 (pc' := 525) rfl (v := (1 : Int32)) rfl ?_
                        refine g_if_eq X B at_525 (pcT := 542) (pcF := 528) (by decide) rfl rfl (fun c525_11 => ?_) (fun c525_11 => ?_)
                        · exact absurd c525_11 (by decide)
                        · refine g_iload X B at_528 (pc' := 530) rfl (v := i16) rfl ?_
                          refine g_if_eq X B at_530 (pcT := 542) (pcF := 533) (by decide) rfl rfl (fun c530_12 => ?_) (fun c530_12 => ?_)
                          · exact absurd c530_12 (by rw [ha]; decide)
                          · refine g_iload X B at_533 (pc' := 535) rfl (v := (1 : Int32)) rfl ?_
                            refine g_if_eq X B at_535 (pcT := 542) (pcF := 538) (by decide) rfl rfl (fun c535_13 => ?_) (fun c535_13 => ?_)
                            · exact absurd c535_13 (by decide)
                            · refine g_iconst X B at_538 (pc' := 539) rfl (v := (1 : Int32)) (by decide) ?_
                              refine g_goto X B at_539 (pc' := 543) (by decide) rfl ?_
                              exact g_retN X B (t := .boolean) rfl (by simp) at_543 (by decide) (by decide) ⟨congrArg (fun z => some (Value.int z)) (by decide : nar .boolean (1 : Int32) = 1), N⟩
                      · exact absurd rfl c513_10
                  · have hl4 : n ≤ 4 := by rw [Int32.lt_iff_toInt_lt, own_k4] at c499_8; omega
                    refine g_iload X B at_523 (pc' := 525) rfl (v := (1 : Int32)) rfl ?_
                    refine g_if_eq X B at_525 (pcT := 542) (pcF := 528) (by decide) rfl rfl (fun c525_9 => ?_) (fun c525_9 => ?_)
                    · exact absurd c525_9 (by decide)
                    · refine g_iload X B at_528 (pc' := 530) rfl (v := i16) rfl ?_
                      refine g_if_eq X B at_530 (pcT := 542) (pcF := 533) (by decide) rfl rfl (fun c530_10 => ?_) (fun c530_10 => ?_)
                      · exact absurd c530_10 (by rw [ha]; decide)
                      · refine g_iload X B at_533 (pc' := 535) rfl (v := (1 : Int32)) rfl ?_
                        refine g_if_eq X B at_535 (pcT := 542) (pcF := 538) (by decide) rfl rfl (fun c535_11 => ?_) (fun c535_11 => ?_)
                        · exact absurd c535_11 (by decide)
                        · refine g_iconst X B at_538 (pc' := 539) rfl (v := (1 : Int32)) (by decide) ?_
                          refine g_goto X B at_539 (pc' := 543) (by decide) rfl ?_
                          exact g_retN X B (t := .boolean) rfl (by simp) at_543 (by decide) (by decide) ⟨congrArg (fun z => some (Value.int z)) (by decide : nar .boolean (1 : Int32) = 1), N⟩
                · exact absurd rfl c486_7
            · have hl3 : n ≤ 3 := by rw [Int32.lt_iff_toInt_lt, own_k3] at c472_5; omega
              refine g_iload X B at_496 (pc' := 498) rfl (v := i6) rfl ?_
              refine g_iconst X B at_498 (pc' := 499) rfl (v := (4 : Int32)) (by decide) ?_
              refine g_icmp_le X B at_499 (pcT := 523) (pcF := 502) (by decide) rfl rfl (fun c499_6 => ?_) (fun c499_6 => ?_)
              · have hg4 : 4 < n := by rw [Int32.lt_iff_toInt_lt, own_k4] at c499_6; omega
                refine g_iload X B at_502 (pc' := 504) rfl (v := (1 : Int32)) rfl ?_
                refine g_if_eq X B at_504 (pcT := 520) (pcF := 507) (by decide) rfl rfl (fun c504_7 => ?_) (fun c504_7 => ?_)
                · exact absurd c504_7 (by decide)
                · refine g_aload X B at_507 (pc' := 509) rfl (v := (.ref o13)) rfl rfl ?_
                  refine g_iconst X B at_509 (pc' := 510) rfl (v := (4 : Int32)) (by decide) ?_
                  refine g_iaload X B 4 eT hV (by decide) (by omega) (v := (.int i12)) (w4 (by omega)) at_510 (pc' := 511) rfl ?_
                  refine g_iload X B at_511 (pc' := 513) rfl (v := i12) rfl ?_
                  refine g_icmp_ne X B at_513 (pcT := 520) (pcF := 516) (by decide) rfl rfl (fun c513_8 => ?_) (fun c513_8 => ?_)
                  · refine g_iconst X B at_516 (pc' := 517) rfl (v := (1 : Int32)) (by decide) ?_
                    refine g_goto X B at_517 (pc' := 521) (by decide) rfl ?_
                    refine g_istore X B at_521 (pc' := 523) rfl (Ls' := #[.val (.int i0), .val (.int i1), .val (.int i2), .val (.int i3), .val (.int i4), .val (.int i5), .val (.int i6), .val (.int i7), .val (.int i8), .val (.int i9), .val (.int i10), .val (.int i11), .val (.int i12), .val (.ref o13), .val (.ref o14), .val (.int (1 : Int32)), .val (.int i16), .val (.int i17), .val (.int i18), .val (.int (1 : Int32))]) rfl ?_
                    refine g_iload X B at_523 (pc' := 525) rfl (v := (1 : Int32)) rfl ?_
                    refine g_if_eq X B at_525 (pcT := 542) (pcF := 528) (by decide) rfl rfl (fun c525_9 => ?_) (fun c525_9 => ?_)
                    · exact absurd c525_9 (by decide)
                    · refine g_iload X B at_528 (pc' := 530) rfl (v := i16) rfl ?_
                      refine g_if_eq X B at_530 (pcT := 542) (pcF := 533) (by decide) rfl rfl (fun c530_10 => ?_) (fun c530_10 => ?_)
                      · exact absurd c530_10 (by rw [ha]; decide)
                      · refine g_iload X B at_533 (pc' := 535) rfl (v := (1 : Int32)) rfl ?_
                        refine g_if_eq X B at_535 (pcT := 542) (pcF := 538) (by decide) rfl rfl (fun c535_11 => ?_) (fun c535_11 => ?_)
                        · exact absurd c535_11 (by decide)
                        · refine g_iconst X B at_538 (pc' := 539) rfl (v := (1 : Int32)) (by decide) ?_
                          refine g_goto X B at_539 (pc' := 543) (by decide) rfl ?_
                          exact g_retN X B (t := .boolean) rfl (by simp) at_543 (by decide) (by decide) ⟨congrArg (fun z => some (Value.int z)) (by decide : nar .boolean (1 : Int32) = 1), N⟩
                  · exact absurd rfl c513_8
              · have hl4 : n ≤ 4 := by rw [Int32.lt_iff_toInt_lt, own_k4] at c499_6; omega
                refine g_iload X B at_523 (pc' := 525) rfl (v := (1 : Int32)) rfl ?_
                refine g_if_eq X B at_525 (pcT := 542) (pcF := 528) (by decide) rfl rfl (fun c525_7 => ?_) (fun c525_7 => ?_)
                · exact absurd c525_7 (by decide)
                · refine g_iload X B at_528 (pc' := 530) rfl (v := i16) rfl ?_
                  refine g_if_eq X B at_530 (pcT := 542) (pcF := 533) (by decide) rfl rfl (fun c530_8 => ?_) (fun c530_8 => ?_)
                  · exact absurd c530_8 (by rw [ha]; decide)
                  · refine g_iload X B at_533 (pc' := 535) rfl (v := (1 : Int32)) rfl ?_
                    refine g_if_eq X B at_535 (pcT := 542) (pcF := 538) (by decide) rfl rfl (fun c535_9 => ?_) (fun c535_9 => ?_)
                    · exact absurd c535_9 (by decide)
                    · refine g_iconst X B at_538 (pc' := 539) rfl (v := (1 : Int32)) (by decide) ?_
                      refine g_goto X B at_539 (pc' := 543) (by decide) rfl ?_
                      exact g_retN X B (t := .boolean) rfl (by simp) at_543 (by decide) (by decide) ⟨congrArg (fun z => some (Value.int z)) (by decide : nar .boolean (1 : Int32) = 1), N⟩
          · exact absurd rfl c459_4
      · exfalso; simp only [Int32.lt_iff_toInt_lt, own_k2] at c445_2; omega
    · exact absurd rfl c432_1
  · exact absurd rfl c423_0
set_option maxRecDepth 65536 in
set_option maxHeartbeats 40000000 in
theorem law_r4_0 {p : Program} {l : Launch} {e : Env} {s : State} {m : MethodId} {args : Array Value} {below : List Frame} {meth : Method} {c : Code} {T : State} {Z : State} {a0 : Array Value} {h : Heap} {locs : List Loc} (X : Stand p l e room_1 s m args below meth c T locs 2 7) (B : Bdy p s m meth c Z a0 "com/example/omni_stabilizer/omnistabilizer/protocols/DijkstraRingPrivilegedPinLaw" "law" code 20 (some .boolean) tables_1) (eT : T.heap = h) (n0 : Nat) (Zs : n0 ≤ h.size) (N : Fr n0 locs) (i0 : Int32) (i1 : Int32) (i2 : Int32) (i3 : Int32) (i4 : Int32) (i5 : Int32) (i6 : Int32) (i7 : Int32) (i8 : Int32) (i9 : Int32) (i10 : Int32) (i11 : Int32) (i12 : Int32) (o13 : Addr) (o14 : Addr) (i15 : Int32) (i16 : Int32) (i17 : Int32) (i18 : Int32) (i19 : Int32) (n : Nat) (w : Nat → Value) (yl : Int32) (hE : Exa Z h o14 "com/example/omni_stabilizer/omnistabilizer/protocols/DijkstraRing") (hF : Fld Z h o14 "com/example/omni_stabilizer/omnistabilizer/protocols/DijkstraRing" "machines" "I" (.int i6)) (hV : Ax Z h o13 .int n w) (hM : i6.toInt = (n : Int)) (hn2 : 2 ≤ n) (hn5 : n ≤ 5) (w0 : w 0 = .int i8) (w1 : w 1 = .int i9) (w2 : 2 < n → w 2 = .int i10) (w3 : 3 < n → w 3 = .int i11) (w4 : 4 < n → w 4 = .int i12) (wl : w (n - 1) = .int yl) (hok : i15 = 1) (ha : i16 = 0) (hc : ¬ i8 = yl ∧ i9 = i8 ∧ i10 = i9 ∧ i11 = i10) (h5 : 5 ≤ n) :
    Go p e below s room_1.cells room_1.slots (fun v _ L => v = some (.int 1) ∧ Fr n0 L) (T.setTop (mkF m 365 #[.val (.int i0), .val (.int i1), .val (.int i2), .val (.int i3), .val (.int i4), .val (.int i5), .val (.int i6), .val (.int i7), .val (.int i8), .val (.int i9), .val (.int i10), .val (.int i11), .val (.int i12), .val (.ref o13), .val (.ref o14), .val (.int i15), .val (.int i16), .val (.int i17), .val (.int i18), .val (.int i19)] [])) := by
  subst hok
  subst ha
  refine g_aload X B at_365 (pc' := 367) rfl (v := (.ref o14)) rfl rfl ?_
  refine g_aload X B at_367 (pc' := 369) rfl (v := (.ref o13)) rfl rfl ?_
  refine g_iconst X B at_369 (pc' := 370) rfl (v := (4 : Int32)) (by decide) ?_
  refine g_virtual X B eT 0 hE (y := (⟨"com/example/omni_stabilizer/omnistabilizer/protocols/DijkstraRing", "privileged", "([II)Z"⟩ : MethodName)) (argsL := [(.ref o13), (.int (4 : Int32))]) (rest := []) (a := o14) (B.w 16 rfl) (B.w 17 rfl) (B.w 19 rfl) (B.w 18 rfl) (B.w 5 rfl) (B.w 20 rfl) (by decide) (pv_met l Z a0 B.2.2.1 [] h o14 o13 (4 : Int32) i6 n 4 w i12 i11 hV hF hM (by decide) (by omega) (w4 (by omega)) (w3 (by omega))) (by decide) (by decide) (by decide) (by decide) rfl (lenOf own_pd0 rfl) rfl (Nat.le_of_eq rfl) at_370 (pc' := 373) rfl (fun T1 v1 L1 X1 Q1 => ?_)
  obtain ⟨rfl, hh1, rfl⟩ := Q1
  rw [List.append_nil] at X1
  show Go p e below s _ _ _ (T1.setTop (mkF m 373 #[.val (.int i0), .val (.int i1), .val (.int i2), .val (.int i3), .val (.int i4), .val (.int i5), .val (.int i6), .val (.int i7), .val (.int i8), .val (.int i9), .val (.int i10), .val (.int i11), .val (.int i12), .val (.ref o13), .val (.ref o14), .val (.int (1 : Int32)), .val (.int (0 : Int32)), .val (.int i17), .val (.int i18), .val (.int i19)] [(.int (own_pr (4 : Int32) i12 i11))]))
  refine g_istore X1 B at_373 (pc' := 375) rfl (Ls' := #[.val (.int i0), .val (.int i1), .val (.int i2), .val (.int i3), .val (.int i4), .val (.int i5), .val (.int i6), .val (.int i7), .val (.int i8), .val (.int i9), .val (.int i10), .val (.int i11), .val (.int i12), .val (.ref o13), .val (.ref o14), .val (.int (1 : Int32)), .val (.int (0 : Int32)), .val (.int i17), .val (.int i18), .val (.int (own_pr (4 : Int32) i12 i11))]) rfl ?_
  refine g_iload X1 B at_375 (pc' := 377) rfl (v := (1 : Int32)) rfl ?_
  refine g_if_eq X1 B at_377 (pcT := 397) (pcF := 380) (by decide) rfl rfl (fun c377_0 => ?_) (fun c377_0 => ?_)
  · exact absurd c377_0 (by decide)
  · refine g_iload X1 B at_380 (pc' := 382) rfl (v := (own_pr (4 : Int32) i12 i11)) rfl ?_
    refine g_aload X1 B at_382 (pc' := 384) rfl (v := (.ref o13)) rfl rfl ?_
    refine g_iconst X1 B at_384 (pc' := 385) rfl (v := (4 : Int32)) (by decide) ?_
    refine g_iload X1 B at_385 (pc' := 387) rfl (v := i6) rfl ?_
    refine g_callP X1 B hh1 1 (y := (⟨"com/example/omni_stabilizer/omnistabilizer/protocols/DijkstraRingPrivilegedPinLaw", "ref", "([III)Z"⟩ : MethodName)) (argsL := [(.ref o13), (.int (4 : Int32)), (.int i6)]) (rest := [(.int (own_pr (4 : Int32) i12 i11))]) (w := (.int (own_pr (4 : Int32) i12 i11))) (B.w 21 rfl) (B.w 22 rfl) (B.w 23 rfl) (B.w 24 rfl) (by decide) (rf_met l Z a0 B.2.2.1 [] h o13 (4 : Int32) i6 n 4 w i12 i11 hV hM (by omega) (by decide) (by omega) (w4 (by omega)) (w3 (by omega))) (by decide) (by decide) (by decide) (by decide) rfl (lenOf own_pd1 rfl) rfl (Nat.le_of_eq rfl) at_387 (pc' := 390) rfl (fun T2 X2 e2 => ?_)
    refine g_icmp_ne X2 B at_390 (pcT := 397) (pcF := 393) (by decide) rfl rfl (fun c390_1 => ?_) (fun c390_1 => ?_)
    · refine g_iconst X2 B at_393 (pc' := 394) rfl (v := (1 : Int32)) (by decide) ?_
      refine g_goto X2 B at_394 (pc' := 398) (by decide) rfl ?_
      refine g_istore X2 B at_398 (pc' := 400) rfl (Ls' := #[.val (.int i0), .val (.int i1), .val (.int i2), .val (.int i3), .val (.int i4), .val (.int i5), .val (.int i6), .val (.int i7), .val (.int i8), .val (.int i9), .val (.int i10), .val (.int i11), .val (.int i12), .val (.ref o13), .val (.ref o14), .val (.int (1 : Int32)), .val (.int (0 : Int32)), .val (.int i17), .val (.int i18), .val (.int (own_pr (4 : Int32) i12 i11))]) rfl ?_
      refine g_iload X2 B at_400 (pc' := 402) rfl (v := (0 : Int32)) rfl ?_
      refine g_if_ne X2 B at_402 (pcT := 410) (pcF := 405) (by decide) rfl rfl (fun c402_2 => ?_) (fun c402_2 => ?_)
      · refine g_iload X2 B at_405 (pc' := 407) rfl (v := (own_pr (4 : Int32) i12 i11)) rfl ?_
        refine g_if_eq X2 B at_407 (pcT := 414) (pcF := 410) (by decide) rfl rfl (fun c407_3 => ?_) (fun c407_3 => ?_)
        · refine g_iconst X2 B at_414 (pc' := 415) rfl (v := (0 : Int32)) (by decide) ?_
          refine g_istore X2 B at_415 (pc' := 417) rfl (Ls' := #[.val (.int i0), .val (.int i1), .val (.int i2), .val (.int i3), .val (.int i4), .val (.int i5), .val (.int i6), .val (.int i7), .val (.int i8), .val (.int i9), .val (.int i10), .val (.int i11), .val (.int i12), .val (.ref o13), .val (.ref o14), .val (.int (1 : Int32)), .val (.int (0 : Int32)), .val (.int i17), .val (.int i18), .val (.int (own_pr (4 : Int32) i12 i11))]) rfl ?_
          have hz := (⟨hc, (own_pr_f (k := 4) (by decide) c407_3)⟩ : _ ∧ _)
          have hq : yl = i12 := by have q := wl; rw [show n - 1 = 4 by omega, (w4 (by omega))] at q; exact (Value.int.inj q).symm
          exfalso; simp_all
        · refine g_iconst X2 B at_410 (pc' := 411) rfl (v := (1 : Int32)) (by decide) ?_
          refine g_goto X2 B at_411 (pc' := 415) (by decide) rfl ?_
          refine g_istore X2 B at_415 (pc' := 417) rfl (Ls' := #[.val (.int i0), .val (.int i1), .val (.int i2), .val (.int i3), .val (.int i4), .val (.int i5), .val (.int i6), .val (.int i7), .val (.int i8), .val (.int i9), .val (.int i10), .val (.int i11), .val (.int i12), .val (.ref o13), .val (.ref o14), .val (.int (1 : Int32)), .val (.int (1 : Int32)), .val (.int i17), .val (.int i18), .val (.int (own_pr (4 : Int32) i12 i11))]) rfl ?_
          exact law_t3 X2 B e2 n0 Zs N (i0) (i1) (i2) (i3) (i4) (i5) (i6) (i7) (i8) (i9) (i10) (i11) (i12) (o13) (o14) ((1 : Int32)) ((1 : Int32)) (i17) (i18) ((own_pr (4 : Int32) i12 i11)) n w yl hE hF hV hM hn2 hn5 w0 w1 w2 w3 w4 wl rfl rfl (by omega)
      · exact absurd (by decide) c402_2
    · exact absurd rfl c390_1
set_option maxRecDepth 65536 in
set_option maxHeartbeats 40000000 in
theorem law_r4_1 {p : Program} {l : Launch} {e : Env} {s : State} {m : MethodId} {args : Array Value} {below : List Frame} {meth : Method} {c : Code} {T : State} {Z : State} {a0 : Array Value} {h : Heap} {locs : List Loc} (X : Stand p l e room_1 s m args below meth c T locs 2 7) (B : Bdy p s m meth c Z a0 "com/example/omni_stabilizer/omnistabilizer/protocols/DijkstraRingPrivilegedPinLaw" "law" code 20 (some .boolean) tables_1) (eT : T.heap = h) (n0 : Nat) (Zs : n0 ≤ h.size) (N : Fr n0 locs) (i0 : Int32) (i1 : Int32) (i2 : Int32) (i3 : Int32) (i4 : Int32) (i5 : Int32) (i6 : Int32) (i7 : Int32) (i8 : Int32) (i9 : Int32) (i10 : Int32) (i11 : Int32) (i12 : Int32) (o13 : Addr) (o14 : Addr) (i15 : Int32) (i16 : Int32) (i17 : Int32) (i18 : Int32) (i19 : Int32) (n : Nat) (w : Nat → Value) (yl : Int32) (hE : Exa Z h o14 "com/example/omni_stabilizer/omnistabilizer/protocols/DijkstraRing") (hF : Fld Z h o14 "com/example/omni_stabilizer/omnistabilizer/protocols/DijkstraRing" "machines" "I" (.int i6)) (hV : Ax Z h o13 .int n w) (hM : i6.toInt = (n : Int)) (hn2 : 2 ≤ n) (hn5 : n ≤ 5) (w0 : w 0 = .int i8) (w1 : w 1 = .int i9) (w2 : 2 < n → w 2 = .int i10) (w3 : 3 < n → w 3 = .int i11) (w4 : 4 < n → w 4 = .int i12) (wl : w (n - 1) = .int yl) (hok : i15 = 1) (ha : i16 = 1) (h5 : 5 ≤ n) :
    Go p e below s room_1.cells room_1.slots (fun v _ L => v = some (.int 1) ∧ Fr n0 L) (T.setTop (mkF m 365 #[.val (.int i0), .val (.int i1), .val (.int i2), .val (.int i3), .val (.int i4), .val (.int i5), .val (.int i6), .val (.int i7), .val (.int i8), .val (.int i9), .val (.int i10), .val (.int i11), .val (.int i12), .val (.ref o13), .val (.ref o14), .val (.int i15), .val (.int i16), .val (.int i17), .val (.int i18), .val (.int i19)] [])) := by
  subst hok
  subst ha
  refine g_aload X B at_365 (pc' := 367) rfl (v := (.ref o14)) rfl rfl ?_
  refine g_aload X B at_367 (pc' := 369) rfl (v := (.ref o13)) rfl rfl ?_
  refine g_iconst X B at_369 (pc' := 370) rfl (v := (4 : Int32)) (by decide) ?_
  refine g_virtual X B eT 0 hE (y := (⟨"com/example/omni_stabilizer/omnistabilizer/protocols/DijkstraRing", "privileged", "([II)Z"⟩ : MethodName)) (argsL := [(.ref o13), (.int (4 : Int32))]) (rest := []) (a := o14) (B.w 16 rfl) (B.w 17 rfl) (B.w 19 rfl) (B.w 18 rfl) (B.w 5 rfl) (B.w 20 rfl) (by decide) (pv_met l Z a0 B.2.2.1 [] h o14 o13 (4 : Int32) i6 n 4 w i12 i11 hV hF hM (by decide) (by omega) (w4 (by omega)) (w3 (by omega))) (by decide) (by decide) (by decide) (by decide) rfl (lenOf own_pd0 rfl) rfl (Nat.le_of_eq rfl) at_370 (pc' := 373) rfl (fun T3 v3 L3 X3 Q3 => ?_)
  obtain ⟨rfl, hh3, rfl⟩ := Q3
  rw [List.append_nil] at X3
  show Go p e below s _ _ _ (T3.setTop (mkF m 373 #[.val (.int i0), .val (.int i1), .val (.int i2), .val (.int i3), .val (.int i4), .val (.int i5), .val (.int i6), .val (.int i7), .val (.int i8), .val (.int i9), .val (.int i10), .val (.int i11), .val (.int i12), .val (.ref o13), .val (.ref o14), .val (.int (1 : Int32)), .val (.int (1 : Int32)), .val (.int i17), .val (.int i18), .val (.int i19)] [(.int (own_pr (4 : Int32) i12 i11))]))
  refine g_istore X3 B at_373 (pc' := 375) rfl (Ls' := #[.val (.int i0), .val (.int i1), .val (.int i2), .val (.int i3), .val (.int i4), .val (.int i5), .val (.int i6), .val (.int i7), .val (.int i8), .val (.int i9), .val (.int i10), .val (.int i11), .val (.int i12), .val (.ref o13), .val (.ref o14), .val (.int (1 : Int32)), .val (.int (1 : Int32)), .val (.int i17), .val (.int i18), .val (.int (own_pr (4 : Int32) i12 i11))]) rfl ?_
  refine g_iload X3 B at_375 (pc' := 377) rfl (v := (1 : Int32)) rfl ?_
  refine g_if_eq X3 B at_377 (pcT := 397) (pcF := 380) (by decide) rfl rfl (fun c377_0 => ?_) (fun c377_0 => ?_)
  · exact absurd c377_0 (by decide)
  · refine g_iload X3 B at_380 (pc' := 382) rfl (v := (own_pr (4 : Int32) i12 i11)) rfl ?_
    refine g_aload X3 B at_382 (pc' := 384) rfl (v := (.ref o13)) rfl rfl ?_
    refine g_iconst X3 B at_384 (pc' := 385) rfl (v := (4 : Int32)) (by decide) ?_
    refine g_iload X3 B at_385 (pc' := 387) rfl (v := i6) rfl ?_
    refine g_callP X3 B hh3 1 (y := (⟨"com/example/omni_stabilizer/omnistabilizer/protocols/DijkstraRingPrivilegedPinLaw", "ref", "([III)Z"⟩ : MethodName)) (argsL := [(.ref o13), (.int (4 : Int32)), (.int i6)]) (rest := [(.int (own_pr (4 : Int32) i12 i11))]) (w := (.int (own_pr (4 : Int32) i12 i11))) (B.w 21 rfl) (B.w 22 rfl) (B.w 23 rfl) (B.w 24 rfl) (by decide) (rf_met l Z a0 B.2.2.1 [] h o13 (4 : Int32) i6 n 4 w i12 i11 hV hM (by omega) (by decide) (by omega) (w4 (by omega)) (w3 (by omega))) (by decide) (by decide) (by decide) (by decide) rfl (lenOf own_pd1 rfl) rfl (Nat.le_of_eq rfl) at_387 (pc' := 390) rfl (fun T4 X4 e4 => ?_)
    refine g_icmp_ne X4 B at_390 (pcT := 397) (pcF := 393) (by decide) rfl rfl (fun c390_1 => ?_) (fun c390_1 => ?_)
    · refine g_iconst X4 B at_393 (pc' := 394) rfl (v := (1 : Int32)) (by decide) ?_
      refine g_goto X4 B at_394 (pc' := 398) (by decide) rfl ?_
      refine g_istore X4 B at_398 (pc' := 400) rfl (Ls' := #[.val (.int i0), .val (.int i1), .val (.int i2), .val (.int i3), .val (.int i4), .val (.int i5), .val (.int i6), .val (.int i7), .val (.int i8), .val (.int i9), .val (.int i10), .val (.int i11), .val (.int i12), .val (.ref o13), .val (.ref o14), .val (.int (1 : Int32)), .val (.int (1 : Int32)), .val (.int i17), .val (.int i18), .val (.int (own_pr (4 : Int32) i12 i11))]) rfl ?_
      refine g_iload X4 B at_400 (pc' := 402) rfl (v := (1 : Int32)) rfl ?_
      refine g_if_ne X4 B at_402 (pcT := 410) (pcF := 405) (by decide) rfl rfl (fun c402_2 => ?_) (fun c402_2 => ?_)
      · exact absurd c402_2 (by decide)
      · refine g_iconst X4 B at_410 (pc' := 411) rfl (v := (1 : Int32)) (by decide) ?_
        refine g_goto X4 B at_411 (pc' := 415) (by decide) rfl ?_
        refine g_istore X4 B at_415 (pc' := 417) rfl (Ls' := #[.val (.int i0), .val (.int i1), .val (.int i2), .val (.int i3), .val (.int i4), .val (.int i5), .val (.int i6), .val (.int i7), .val (.int i8), .val (.int i9), .val (.int i10), .val (.int i11), .val (.int i12), .val (.ref o13), .val (.ref o14), .val (.int (1 : Int32)), .val (.int (1 : Int32)), .val (.int i17), .val (.int i18), .val (.int (own_pr (4 : Int32) i12 i11))]) rfl ?_
        exact law_t3 X4 B e4 n0 Zs N (i0) (i1) (i2) (i3) (i4) (i5) (i6) (i7) (i8) (i9) (i10) (i11) (i12) (o13) (o14) ((1 : Int32)) ((1 : Int32)) (i17) (i18) ((own_pr (4 : Int32) i12 i11)) n w yl hE hF hV hM hn2 hn5 w0 w1 w2 w3 w4 wl rfl rfl (by omega)
    · exact absurd rfl c390_1
set_option maxRecDepth 65536 in
set_option maxHeartbeats 40000000 in
theorem law_r3_0 {p : Program} {l : Launch} {e : Env} {s : State} {m : MethodId} {args : Array Value} {below : List Frame} {meth : Method} {c : Code} {T : State} {Z : State} {a0 : Array Value} {h : Heap} {locs : List Loc} (X : Stand p l e room_1 s m args below meth c T locs 2 7) (B : Bdy p s m meth c Z a0 "com/example/omni_stabilizer/omnistabilizer/protocols/DijkstraRingPrivilegedPinLaw" "law" code 20 (some .boolean) tables_1) (eT : T.heap = h) (n0 : Nat) (Zs : n0 ≤ h.size) (N : Fr n0 locs) (i0 : Int32) (i1 : Int32) (i2 : Int32) (i3 : Int32) (i4 : Int32) (i5 : Int32) (i6 : Int32) (i7 : Int32) (i8 : Int32) (i9 : Int32) (i10 : Int32) (i11 : Int32) (i12 : Int32) (o13 : Addr) (o14 : Addr) (i15 : Int32) (i16 : Int32) (i17 : Int32) (i18 : Int32) (i19 : Int32) (n : Nat) (w : Nat → Value) (yl : Int32) (hE : Exa Z h o14 "com/example/omni_stabilizer/omnistabilizer/protocols/DijkstraRing") (hF : Fld Z h o14 "com/example/omni_stabilizer/omnistabilizer/protocols/DijkstraRing" "machines" "I" (.int i6)) (hV : Ax Z h o13 .int n w) (hM : i6.toInt = (n : Int)) (hn2 : 2 ≤ n) (hn5 : n ≤ 5) (w0 : w 0 = .int i8) (w1 : w 1 = .int i9) (w2 : 2 < n → w 2 = .int i10) (w3 : 3 < n → w 3 = .int i11) (w4 : 4 < n → w 4 = .int i12) (wl : w (n - 1) = .int yl) (hok : i15 = 1) (ha : i16 = 0) (hc : ¬ i8 = yl ∧ i9 = i8 ∧ i10 = i9) (h4 : 4 ≤ n) :
    Go p e below s room_1.cells room_1.slots (fun v _ L => v = some (.int 1) ∧ Fr n0 L) (T.setTop (mkF m 307 #[.val (.int i0), .val (.int i1), .val (.int i2), .val (.int i3), .val (.int i4), .val (.int i5), .val (.int i6), .val (.int i7), .val (.int i8), .val (.int i9), .val (.int i10), .val (.int i11), .val (.int i12), .val (.ref o13), .val (.ref o14), .val (.int i15), .val (.int i16), .val (.int i17), .val (.int i18), .val (.int i19)] [])) := by
  subst hok
  subst ha
  refine g_aload X B at_307 (pc' := 309) rfl (v := (.ref o14)) rfl rfl ?_
  refine g_aload X B at_309 (pc' := 311) rfl (v := (.ref o13)) rfl rfl ?_
  refine g_iconst X B at_311 (pc' := 312) rfl (v := (3 : Int32)) (by decide) ?_
  refine g_virtual X B eT 0 hE (y := (⟨"com/example/omni_stabilizer/omnistabilizer/protocols/DijkstraRing", "privileged", "([II)Z"⟩ : MethodName)) (argsL := [(.ref o13), (.int (3 : Int32))]) (rest := []) (a := o14) (B.w 16 rfl) (B.w 17 rfl) (B.w 19 rfl) (B.w 18 rfl) (B.w 5 rfl) (B.w 20 rfl) (by decide) (pv_met l Z a0 B.2.2.1 [] h o14 o13 (3 : Int32) i6 n 3 w i11 i10 hV hF hM (by decide) (by omega) (w3 (by omega)) (w2 (by omega))) (by decide) (by decide) (by decide) (by decide) rfl (lenOf own_pd0 rfl) rfl (Nat.le_of_eq rfl) at_312 (pc' := 315) rfl (fun T5 v5 L5 X5 Q5 => ?_)
  obtain ⟨rfl, hh5, rfl⟩ := Q5
  rw [List.append_nil] at X5
  show Go p e below s _ _ _ (T5.setTop (mkF m 315 #[.val (.int i0), .val (.int i1), .val (.int i2), .val (.int i3), .val (.int i4), .val (.int i5), .val (.int i6), .val (.int i7), .val (.int i8), .val (.int i9), .val (.int i10), .val (.int i11), .val (.int i12), .val (.ref o13), .val (.ref o14), .val (.int (1 : Int32)), .val (.int (0 : Int32)), .val (.int i17), .val (.int i18), .val (.int i19)] [(.int (own_pr (3 : Int32) i11 i10))]))
  refine g_istore X5 B at_315 (pc' := 317) rfl (Ls' := #[.val (.int i0), .val (.int i1), .val (.int i2), .val (.int i3), .val (.int i4), .val (.int i5), .val (.int i6), .val (.int i7), .val (.int i8), .val (.int i9), .val (.int i10), .val (.int i11), .val (.int i12), .val (.ref o13), .val (.ref o14), .val (.int (1 : Int32)), .val (.int (0 : Int32)), .val (.int i17), .val (.int i18), .val (.int (own_pr (3 : Int32) i11 i10))]) rfl ?_
  refine g_iload X5 B at_317 (pc' := 319) rfl (v := (1 : Int32)) rfl ?_
  refine g_if_eq X5 B at_319 (pcT := 339) (pcF := 322) (by decide) rfl rfl (fun c319_0 => ?_) (fun c319_0 => ?_)
  · exact absurd c319_0 (by decide)
  · refine g_iload X5 B at_322 (pc' := 324) rfl (v := (own_pr (3 : Int32) i11 i10)) rfl ?_
    refine g_aload X5 B at_324 (pc' := 326) rfl (v := (.ref o13)) rfl rfl ?_
    refine g_iconst X5 B at_326 (pc' := 327) rfl (v := (3 : Int32)) (by decide) ?_
    refine g_iload X5 B at_327 (pc' := 329) rfl (v := i6) rfl ?_
    refine g_callP X5 B hh5 1 (y := (⟨"com/example/omni_stabilizer/omnistabilizer/protocols/DijkstraRingPrivilegedPinLaw", "ref", "([III)Z"⟩ : MethodName)) (argsL := [(.ref o13), (.int (3 : Int32)), (.int i6)]) (rest := [(.int (own_pr (3 : Int32) i11 i10))]) (w := (.int (own_pr (3 : Int32) i11 i10))) (B.w 21 rfl) (B.w 22 rfl) (B.w 23 rfl) (B.w 24 rfl) (by decide) (rf_met l Z a0 B.2.2.1 [] h o13 (3 : Int32) i6 n 3 w i11 i10 hV hM (by omega) (by decide) (by omega) (w3 (by omega)) (w2 (by omega))) (by decide) (by decide) (by decide) (by decide) rfl (lenOf own_pd1 rfl) rfl (Nat.le_of_eq rfl) at_329 (pc' := 332) rfl (fun T6 X6 e6 => ?_)
    refine g_icmp_ne X6 B at_332 (pcT := 339) (pcF := 335) (by decide) rfl rfl (fun c332_1 => ?_) (fun c332_1 => ?_)
    · refine g_iconst X6 B at_335 (pc' := 336) rfl (v := (1 : Int32)) (by decide) ?_
      refine g_goto X6 B at_336 (pc' := 340) (by decide) rfl ?_
      refine g_istore X6 B at_340 (pc' := 342) rfl (Ls' := #[.val (.int i0), .val (.int i1), .val (.int i2), .val (.int i3), .val (.int i4), .val (.int i5), .val (.int i6), .val (.int i7), .val (.int i8), .val (.int i9), .val (.int i10), .val (.int i11), .val (.int i12), .val (.ref o13), .val (.ref o14), .val (.int (1 : Int32)), .val (.int (0 : Int32)), .val (.int i17), .val (.int i18), .val (.int (own_pr (3 : Int32) i11 i10))]) rfl ?_
      refine g_iload X6 B at_342 (pc' := 344) rfl (v := (0 : Int32)) rfl ?_
      refine g_if_ne X6 B at_344 (pcT := 352) (pcF := 347) (by decide) rfl rfl (fun c344_2 => ?_) (fun c344_2 => ?_)
      · refine g_iload X6 B at_347 (pc' := 349) rfl (v := (own_pr (3 : Int32) i11 i10)) rfl ?_
        refine g_if_eq X6 B at_349 (pcT := 356) (pcF := 352) (by decide) rfl rfl (fun c349_3 => ?_) (fun c349_3 => ?_)
        · refine g_iconst X6 B at_356 (pc' := 357) rfl (v := (0 : Int32)) (by decide) ?_
          refine g_istore X6 B at_357 (pc' := 359) rfl (Ls' := #[.val (.int i0), .val (.int i1), .val (.int i2), .val (.int i3), .val (.int i4), .val (.int i5), .val (.int i6), .val (.int i7), .val (.int i8), .val (.int i9), .val (.int i10), .val (.int i11), .val (.int i12), .val (.ref o13), .val (.ref o14), .val (.int (1 : Int32)), .val (.int (0 : Int32)), .val (.int i17), .val (.int i18), .val (.int (own_pr (3 : Int32) i11 i10))]) rfl ?_
          refine g_iload X6 B at_359 (pc' := 361) rfl (v := i6) rfl ?_
          refine g_iconst X6 B at_361 (pc' := 362) rfl (v := (4 : Int32)) (by decide) ?_
          refine g_icmp_le X6 B at_362 (pcT := 417) (pcF := 365) (by decide) rfl rfl (fun c362_4 => ?_) (fun c362_4 => ?_)
          · have hg4 : 4 < n := by rw [Int32.lt_iff_toInt_lt, own_k4] at c362_4; omega
            exact law_r4_0 X6 B e6 n0 Zs N (i0) (i1) (i2) (i3) (i4) (i5) (i6) (i7) (i8) (i9) (i10) (i11) (i12) (o13) (o14) ((1 : Int32)) ((0 : Int32)) (i17) (i18) ((own_pr (3 : Int32) i11 i10)) n w yl hE hF hV hM hn2 hn5 w0 w1 w2 w3 w4 wl rfl rfl (own_and4 hc (own_pr_f (k := 3) (by decide) c349_3)) (by omega)
          · have hl4 : n ≤ 4 := by rw [Int32.lt_iff_toInt_lt, own_k4] at c362_4; omega
            have hz := own_and4 hc (own_pr_f (k := 3) (by decide) c349_3)
            have hq : yl = i11 := by have q := wl; rw [show n - 1 = 3 by omega, (w3 (by omega))] at q; exact (Value.int.inj q).symm
            exfalso; simp_all
        · refine g_iconst X6 B at_352 (pc' := 353) rfl (v := (1 : Int32)) (by decide) ?_
          refine g_goto X6 B at_353 (pc' := 357) (by decide) rfl ?_
          refine g_istore X6 B at_357 (pc' := 359) rfl (Ls' := #[.val (.int i0), .val (.int i1), .val (.int i2), .val (.int i3), .val (.int i4), .val (.int i5), .val (.int i6), .val (.int i7), .val (.int i8), .val (.int i9), .val (.int i10), .val (.int i11), .val (.int i12), .val (.ref o13), .val (.ref o14), .val (.int (1 : Int32)), .val (.int (1 : Int32)), .val (.int i17), .val (.int i18), .val (.int (own_pr (3 : Int32) i11 i10))]) rfl ?_
          refine g_iload X6 B at_359 (pc' := 361) rfl (v := i6) rfl ?_
          refine g_iconst X6 B at_361 (pc' := 362) rfl (v := (4 : Int32)) (by decide) ?_
          refine g_icmp_le X6 B at_362 (pcT := 417) (pcF := 365) (by decide) rfl rfl (fun c362_4 => ?_) (fun c362_4 => ?_)
          · have hg4 : 4 < n := by rw [Int32.lt_iff_toInt_lt, own_k4] at c362_4; omega
            exact law_r4_1 X6 B e6 n0 Zs N (i0) (i1) (i2) (i3) (i4) (i5) (i6) (i7) (i8) (i9) (i10) (i11) (i12) (o13) (o14) ((1 : Int32)) ((1 : Int32)) (i17) (i18) ((own_pr (3 : Int32) i11 i10)) n w yl hE hF hV hM hn2 hn5 w0 w1 w2 w3 w4 wl rfl rfl (by omega)
          · have hl4 : n ≤ 4 := by rw [Int32.lt_iff_toInt_lt, own_k4] at c362_4; omega
            exact law_t3 X6 B e6 n0 Zs N (i0) (i1) (i2) (i3) (i4) (i5) (i6) (i7) (i8) (i9) (i10) (i11) (i12) (o13) (o14) ((1 : Int32)) ((1 : Int32)) (i17) (i18) ((own_pr (3 : Int32) i11 i10)) n w yl hE hF hV hM hn2 hn5 w0 w1 w2 w3 w4 wl rfl rfl (by omega)
      · exact absurd (by decide) c344_2
    · exact absurd rfl c332_1
set_option maxRecDepth 65536 in
set_option maxHeartbeats 40000000 in
theorem law_r3_1 {p : Program} {l : Launch} {e : Env} {s : State} {m : MethodId} {args : Array Value} {below : List Frame} {meth : Method} {c : Code} {T : State} {Z : State} {a0 : Array Value} {h : Heap} {locs : List Loc} (X : Stand p l e room_1 s m args below meth c T locs 2 7) (B : Bdy p s m meth c Z a0 "com/example/omni_stabilizer/omnistabilizer/protocols/DijkstraRingPrivilegedPinLaw" "law" code 20 (some .boolean) tables_1) (eT : T.heap = h) (n0 : Nat) (Zs : n0 ≤ h.size) (N : Fr n0 locs) (i0 : Int32) (i1 : Int32) (i2 : Int32) (i3 : Int32) (i4 : Int32) (i5 : Int32) (i6 : Int32) (i7 : Int32) (i8 : Int32) (i9 : Int32) (i10 : Int32) (i11 : Int32) (i12 : Int32) (o13 : Addr) (o14 : Addr) (i15 : Int32) (i16 : Int32) (i17 : Int32) (i18 : Int32) (i19 : Int32) (n : Nat) (w : Nat → Value) (yl : Int32) (hE : Exa Z h o14 "com/example/omni_stabilizer/omnistabilizer/protocols/DijkstraRing") (hF : Fld Z h o14 "com/example/omni_stabilizer/omnistabilizer/protocols/DijkstraRing" "machines" "I" (.int i6)) (hV : Ax Z h o13 .int n w) (hM : i6.toInt = (n : Int)) (hn2 : 2 ≤ n) (hn5 : n ≤ 5) (w0 : w 0 = .int i8) (w1 : w 1 = .int i9) (w2 : 2 < n → w 2 = .int i10) (w3 : 3 < n → w 3 = .int i11) (w4 : 4 < n → w 4 = .int i12) (wl : w (n - 1) = .int yl) (hok : i15 = 1) (ha : i16 = 1) (h4 : 4 ≤ n) :
    Go p e below s room_1.cells room_1.slots (fun v _ L => v = some (.int 1) ∧ Fr n0 L) (T.setTop (mkF m 307 #[.val (.int i0), .val (.int i1), .val (.int i2), .val (.int i3), .val (.int i4), .val (.int i5), .val (.int i6), .val (.int i7), .val (.int i8), .val (.int i9), .val (.int i10), .val (.int i11), .val (.int i12), .val (.ref o13), .val (.ref o14), .val (.int i15), .val (.int i16), .val (.int i17), .val (.int i18), .val (.int i19)] [])) := by
  subst hok
  subst ha
  refine g_aload X B at_307 (pc' := 309) rfl (v := (.ref o14)) rfl rfl ?_
  refine g_aload X B at_309 (pc' := 311) rfl (v := (.ref o13)) rfl rfl ?_
  refine g_iconst X B at_311 (pc' := 312) rfl (v := (3 : Int32)) (by decide) ?_
  refine g_virtual X B eT 0 hE (y := (⟨"com/example/omni_stabilizer/omnistabilizer/protocols/DijkstraRing", "privileged", "([II)Z"⟩ : MethodName)) (argsL := [(.ref o13), (.int (3 : Int32))]) (rest := []) (a := o14) (B.w 16 rfl) (B.w 17 rfl) (B.w 19 rfl) (B.w 18 rfl) (B.w 5 rfl) (B.w 20 rfl) (by decide) (pv_met l Z a0 B.2.2.1 [] h o14 o13 (3 : Int32) i6 n 3 w i11 i10 hV hF hM (by decide) (by omega) (w3 (by omega)) (w2 (by omega))) (by decide) (by decide) (by decide) (by decide) rfl (lenOf own_pd0 rfl) rfl (Nat.le_of_eq rfl) at_312 (pc' := 315) rfl (fun T7 v7 L7 X7 Q7 => ?_)
  obtain ⟨rfl, hh7, rfl⟩ := Q7
  rw [List.append_nil] at X7
  show Go p e below s _ _ _ (T7.setTop (mkF m 315 #[.val (.int i0), .val (.int i1), .val (.int i2), .val (.int i3), .val (.int i4), .val (.int i5), .val (.int i6), .val (.int i7), .val (.int i8), .val (.int i9), .val (.int i10), .val (.int i11), .val (.int i12), .val (.ref o13), .val (.ref o14), .val (.int (1 : Int32)), .val (.int (1 : Int32)), .val (.int i17), .val (.int i18), .val (.int i19)] [(.int (own_pr (3 : Int32) i11 i10))]))
  refine g_istore X7 B at_315 (pc' := 317) rfl (Ls' := #[.val (.int i0), .val (.int i1), .val (.int i2), .val (.int i3), .val (.int i4), .val (.int i5), .val (.int i6), .val (.int i7), .val (.int i8), .val (.int i9), .val (.int i10), .val (.int i11), .val (.int i12), .val (.ref o13), .val (.ref o14), .val (.int (1 : Int32)), .val (.int (1 : Int32)), .val (.int i17), .val (.int i18), .val (.int (own_pr (3 : Int32) i11 i10))]) rfl ?_
  refine g_iload X7 B at_317 (pc' := 319) rfl (v := (1 : Int32)) rfl ?_
  refine g_if_eq X7 B at_319 (pcT := 339) (pcF := 322) (by decide) rfl rfl (fun c319_0 => ?_) (fun c319_0 => ?_)
  · exact absurd c319_0 (by decide)
  · refine g_iload X7 B at_322 (pc' := 324) rfl (v := (own_pr (3 : Int32) i11 i10)) rfl ?_
    refine g_aload X7 B at_324 (pc' := 326) rfl (v := (.ref o13)) rfl rfl ?_
    refine g_iconst X7 B at_326 (pc' := 327) rfl (v := (3 : Int32)) (by decide) ?_
    refine g_iload X7 B at_327 (pc' := 329) rfl (v := i6) rfl ?_
    refine g_callP X7 B hh7 1 (y := (⟨"com/example/omni_stabilizer/omnistabilizer/protocols/DijkstraRingPrivilegedPinLaw", "ref", "([III)Z"⟩ : MethodName)) (argsL := [(.ref o13), (.int (3 : Int32)), (.int i6)]) (rest := [(.int (own_pr (3 : Int32) i11 i10))]) (w := (.int (own_pr (3 : Int32) i11 i10))) (B.w 21 rfl) (B.w 22 rfl) (B.w 23 rfl) (B.w 24 rfl) (by decide) (rf_met l Z a0 B.2.2.1 [] h o13 (3 : Int32) i6 n 3 w i11 i10 hV hM (by omega) (by decide) (by omega) (w3 (by omega)) (w2 (by omega))) (by decide) (by decide) (by decide) (by decide) rfl (lenOf own_pd1 rfl) rfl (Nat.le_of_eq rfl) at_329 (pc' := 332) rfl (fun T8 X8 e8 => ?_)
    refine g_icmp_ne X8 B at_332 (pcT := 339) (pcF := 335) (by decide) rfl rfl (fun c332_1 => ?_) (fun c332_1 => ?_)
    · refine g_iconst X8 B at_335 (pc' := 336) rfl (v := (1 : Int32)) (by decide) ?_
      refine g_goto X8 B at_336 (pc' := 340) (by decide) rfl ?_
      refine g_istore X8 B at_340 (pc' := 342) rfl (Ls' := #[.val (.int i0), .val (.int i1), .val (.int i2), .val (.int i3), .val (.int i4), .val (.int i5), .val (.int i6), .val (.int i7), .val (.int i8), .val (.int i9), .val (.int i10), .val (.int i11), .val (.int i12), .val (.ref o13), .val (.ref o14), .val (.int (1 : Int32)), .val (.int (1 : Int32)), .val (.int i17), .val (.int i18), .val (.int (own_pr (3 : Int32) i11 i10))]) rfl ?_
      refine g_iload X8 B at_342 (pc' := 344) rfl (v := (1 : Int32)) rfl ?_
      refine g_if_ne X8 B at_344 (pcT := 352) (pcF := 347) (by decide) rfl rfl (fun c344_2 => ?_) (fun c344_2 => ?_)
      · exact absurd c344_2 (by decide)
      · refine g_iconst X8 B at_352 (pc' := 353) rfl (v := (1 : Int32)) (by decide) ?_
        refine g_goto X8 B at_353 (pc' := 357) (by decide) rfl ?_
        refine g_istore X8 B at_357 (pc' := 359) rfl (Ls' := #[.val (.int i0), .val (.int i1), .val (.int i2), .val (.int i3), .val (.int i4), .val (.int i5), .val (.int i6), .val (.int i7), .val (.int i8), .val (.int i9), .val (.int i10), .val (.int i11), .val (.int i12), .val (.ref o13), .val (.ref o14), .val (.int (1 : Int32)), .val (.int (1 : Int32)), .val (.int i17), .val (.int i18), .val (.int (own_pr (3 : Int32) i11 i10))]) rfl ?_
        refine g_iload X8 B at_359 (pc' := 361) rfl (v := i6) rfl ?_
        refine g_iconst X8 B at_361 (pc' := 362) rfl (v := (4 : Int32)) (by decide) ?_
        refine g_icmp_le X8 B at_362 (pcT := 417) (pcF := 365) (by decide) rfl rfl (fun c362_3 => ?_) (fun c362_3 => ?_)
        · have hg4 : 4 < n := by rw [Int32.lt_iff_toInt_lt, own_k4] at c362_3; omega
          exact law_r4_1 X8 B e8 n0 Zs N (i0) (i1) (i2) (i3) (i4) (i5) (i6) (i7) (i8) (i9) (i10) (i11) (i12) (o13) (o14) ((1 : Int32)) ((1 : Int32)) (i17) (i18) ((own_pr (3 : Int32) i11 i10)) n w yl hE hF hV hM hn2 hn5 w0 w1 w2 w3 w4 wl rfl rfl (by omega)
        · have hl4 : n ≤ 4 := by rw [Int32.lt_iff_toInt_lt, own_k4] at c362_3; omega
          exact law_t3 X8 B e8 n0 Zs N (i0) (i1) (i2) (i3) (i4) (i5) (i6) (i7) (i8) (i9) (i10) (i11) (i12) (o13) (o14) ((1 : Int32)) ((1 : Int32)) (i17) (i18) ((own_pr (3 : Int32) i11 i10)) n w yl hE hF hV hM hn2 hn5 w0 w1 w2 w3 w4 wl rfl rfl (by omega)
    · exact absurd rfl c332_1
set_option maxRecDepth 65536 in
set_option maxHeartbeats 40000000 in
theorem law_r2_0 {p : Program} {l : Launch} {e : Env} {s : State} {m : MethodId} {args : Array Value} {below : List Frame} {meth : Method} {c : Code} {T : State} {Z : State} {a0 : Array Value} {h : Heap} {locs : List Loc} (X : Stand p l e room_1 s m args below meth c T locs 2 7) (B : Bdy p s m meth c Z a0 "com/example/omni_stabilizer/omnistabilizer/protocols/DijkstraRingPrivilegedPinLaw" "law" code 20 (some .boolean) tables_1) (eT : T.heap = h) (n0 : Nat) (Zs : n0 ≤ h.size) (N : Fr n0 locs) (i0 : Int32) (i1 : Int32) (i2 : Int32) (i3 : Int32) (i4 : Int32) (i5 : Int32) (i6 : Int32) (i7 : Int32) (i8 : Int32) (i9 : Int32) (i10 : Int32) (i11 : Int32) (i12 : Int32) (o13 : Addr) (o14 : Addr) (i15 : Int32) (i16 : Int32) (i17 : Int32) (i18 : Int32) (n : Nat) (w : Nat → Value) (yl : Int32) (hE : Exa Z h o14 "com/example/omni_stabilizer/omnistabilizer/protocols/DijkstraRing") (hF : Fld Z h o14 "com/example/omni_stabilizer/omnistabilizer/protocols/DijkstraRing" "machines" "I" (.int i6)) (hV : Ax Z h o13 .int n w) (hM : i6.toInt = (n : Int)) (hn2 : 2 ≤ n) (hn5 : n ≤ 5) (w0 : w 0 = .int i8) (w1 : w 1 = .int i9) (w2 : 2 < n → w 2 = .int i10) (w3 : 3 < n → w 3 = .int i11) (w4 : 4 < n → w 4 = .int i12) (wl : w (n - 1) = .int yl) (hok : i15 = 1) (ha : i16 = 0) (hc : ¬ i8 = yl ∧ i9 = i8) (h3 : 3 ≤ n) :
    Go p e below s room_1.cells room_1.slots (fun v _ L => v = some (.int 1) ∧ Fr n0 L) (T.setTop (mkF m 249 #[.val (.int i0), .val (.int i1), .val (.int i2), .val (.int i3), .val (.int i4), .val (.int i5), .val (.int i6), .val (.int i7), .val (.int i8), .val (.int i9), .val (.int i10), .val (.int i11), .val (.int i12), .val (.ref o13), .val (.ref o14), .val (.int i15), .val (.int i16), .val (.int i17), .val (.int i18), .unset] [])) := by
  subst hok
  subst ha
  refine g_aload X B at_249 (pc' := 251) rfl (v := (.ref o14)) rfl rfl ?_
  refine g_aload X B at_251 (pc' := 253) rfl (v := (.ref o13)) rfl rfl ?_
  refine g_iconst X B at_253 (pc' := 254) rfl (v := (2 : Int32)) (by decide) ?_
  refine g_virtual X B eT 0 hE (y := (⟨"com/example/omni_stabilizer/omnistabilizer/protocols/DijkstraRing", "privileged", "([II)Z"⟩ : MethodName)) (argsL := [(.ref o13), (.int (2 : Int32))]) (rest := []) (a := o14) (B.w 16 rfl) (B.w 17 rfl) (B.w 19 rfl) (B.w 18 rfl) (B.w 5 rfl) (B.w 20 rfl) (by decide) (pv_met l Z a0 B.2.2.1 [] h o14 o13 (2 : Int32) i6 n 2 w i10 i9 hV hF hM (by decide) (by omega) (w2 (by omega)) w1) (by decide) (by decide) (by decide) (by decide) rfl (lenOf own_pd0 rfl) rfl (Nat.le_of_eq rfl) at_254 (pc' := 257) rfl (fun T9 v9 L9 X9 Q9 => ?_)
  obtain ⟨rfl, hh9, rfl⟩ := Q9
  rw [List.append_nil] at X9
  show Go p e below s _ _ _ (T9.setTop (mkF m 257 #[.val (.int i0), .val (.int i1), .val (.int i2), .val (.int i3), .val (.int i4), .val (.int i5), .val (.int i6), .val (.int i7), .val (.int i8), .val (.int i9), .val (.int i10), .val (.int i11), .val (.int i12), .val (.ref o13), .val (.ref o14), .val (.int (1 : Int32)), .val (.int (0 : Int32)), .val (.int i17), .val (.int i18), .unset] [(.int (own_pr (2 : Int32) i10 i9))]))
  refine g_istore X9 B at_257 (pc' := 259) rfl (Ls' := #[.val (.int i0), .val (.int i1), .val (.int i2), .val (.int i3), .val (.int i4), .val (.int i5), .val (.int i6), .val (.int i7), .val (.int i8), .val (.int i9), .val (.int i10), .val (.int i11), .val (.int i12), .val (.ref o13), .val (.ref o14), .val (.int (1 : Int32)), .val (.int (0 : Int32)), .val (.int i17), .val (.int i18), .val (.int (own_pr (2 : Int32) i10 i9))]) rfl ?_
  refine g_iload X9 B at_259 (pc' := 261) rfl (v := (1 : Int32)) rfl ?_
  refine g_if_eq X9 B at_261 (pcT := 281) (pcF := 264) (by decide) rfl rfl (fun c261_0 => ?_) (fun c261_0 => ?_)
  · exact absurd c261_0 (by decide)
  · refine g_iload X9 B at_264 (pc' := 266) rfl (v := (own_pr (2 : Int32) i10 i9)) rfl ?_
    refine g_aload X9 B at_266 (pc' := 268) rfl (v := (.ref o13)) rfl rfl ?_
    refine g_iconst X9 B at_268 (pc' := 269) rfl (v := (2 : Int32)) (by decide) ?_
    refine g_iload X9 B at_269 (pc' := 271) rfl (v := i6) rfl ?_
    refine g_callP X9 B hh9 1 (y := (⟨"com/example/omni_stabilizer/omnistabilizer/protocols/DijkstraRingPrivilegedPinLaw", "ref", "([III)Z"⟩ : MethodName)) (argsL := [(.ref o13), (.int (2 : Int32)), (.int i6)]) (rest := [(.int (own_pr (2 : Int32) i10 i9))]) (w := (.int (own_pr (2 : Int32) i10 i9))) (B.w 21 rfl) (B.w 22 rfl) (B.w 23 rfl) (B.w 24 rfl) (by decide) (rf_met l Z a0 B.2.2.1 [] h o13 (2 : Int32) i6 n 2 w i10 i9 hV hM (by omega) (by decide) (by omega) (w2 (by omega)) w1) (by decide) (by decide) (by decide) (by decide) rfl (lenOf own_pd1 rfl) rfl (Nat.le_of_eq rfl) at_271 (pc' := 274) rfl (fun T10 X10 e10 => ?_)
    refine g_icmp_ne X10 B at_274 (pcT := 281) (pcF := 277) (by decide) rfl rfl (fun c274_1 => ?_) (fun c274_1 => ?_)
    · refine g_iconst X10 B at_277 (pc' := 278) rfl (v := (1 : Int32)) (by decide) ?_
      refine g_goto X10 B at_278 (pc' := 282) (by decide) rfl ?_
      refine g_istore X10 B at_282 (pc' := 284) rfl (Ls' := #[.val (.int i0), .val (.int i1), .val (.int i2), .val (.int i3), .val (.int i4), .val (.int i5), .val (.int i6), .val (.int i7), .val (.int i8), .val (.int i9), .val (.int i10), .val (.int i11), .val (.int i12), .val (.ref o13), .val (.ref o14), .val (.int (1 : Int32)), .val (.int (0 : Int32)), .val (.int i17), .val (.int i18), .val (.int (own_pr (2 : Int32) i10 i9))]) rfl ?_
      refine g_iload X10 B at_284 (pc' := 286) rfl (v := (0 : Int32)) rfl ?_
      refine g_if_ne X10 B at_286 (pcT := 294) (pcF := 289) (by decide) rfl rfl (fun c286_2 => ?_) (fun c286_2 => ?_)
      · refine g_iload X10 B at_289 (pc' := 291) rfl (v := (own_pr (2 : Int32) i10 i9)) rfl ?_
        refine g_if_eq X10 B at_291 (pcT := 298) (pcF := 294) (by decide) rfl rfl (fun c291_3 => ?_) (fun c291_3 => ?_)
        · refine g_iconst X10 B at_298 (pc' := 299) rfl (v := (0 : Int32)) (by decide) ?_
          refine g_istore X10 B at_299 (pc' := 301) rfl (Ls' := #[.val (.int i0), .val (.int i1), .val (.int i2), .val (.int i3), .val (.int i4), .val (.int i5), .val (.int i6), .val (.int i7), .val (.int i8), .val (.int i9), .val (.int i10), .val (.int i11), .val (.int i12), .val (.ref o13), .val (.ref o14), .val (.int (1 : Int32)), .val (.int (0 : Int32)), .val (.int i17), .val (.int i18), .val (.int (own_pr (2 : Int32) i10 i9))]) rfl ?_
          refine g_iload X10 B at_301 (pc' := 303) rfl (v := i6) rfl ?_
          refine g_iconst X10 B at_303 (pc' := 304) rfl (v := (3 : Int32)) (by decide) ?_
          refine g_icmp_le X10 B at_304 (pcT := 359) (pcF := 307) (by decide) rfl rfl (fun c304_4 => ?_) (fun c304_4 => ?_)
          · have hg3 : 3 < n := by rw [Int32.lt_iff_toInt_lt, own_k3] at c304_4; omega
            exact law_r3_0 X10 B e10 n0 Zs N (i0) (i1) (i2) (i3) (i4) (i5) (i6) (i7) (i8) (i9) (i10) (i11) (i12) (o13) (o14) ((1 : Int32)) ((0 : Int32)) (i17) (i18) ((own_pr (2 : Int32) i10 i9)) n w yl hE hF hV hM hn2 hn5 w0 w1 w2 w3 w4 wl rfl rfl (own_and3 hc (own_pr_f (k := 2) (by decide) c291_3)) (by omega)
          · have hl3 : n ≤ 3 := by rw [Int32.lt_iff_toInt_lt, own_k3] at c304_4; omega
            refine g_iload X10 B at_359 (pc' := 361) rfl (v := i6) rfl ?_
            refine g_iconst X10 B at_361 (pc' := 362) rfl (v := (4 : Int32)) (by decide) ?_
            refine g_icmp_le X10 B at_362 (pcT := 417) (pcF := 365) (by decide) rfl rfl (fun c362_5 => ?_) (fun c362_5 => ?_)
            · exfalso; simp only [Int32.lt_iff_toInt_lt, own_k4] at c362_5; omega
            · have hl4 : n ≤ 4 := by rw [Int32.lt_iff_toInt_lt, own_k4] at c362_5; omega
              have hz := own_and3 hc (own_pr_f (k := 2) (by decide) c291_3)
              have hq : yl = i10 := by have q := wl; rw [show n - 1 = 2 by omega, (w2 (by omega))] at q; exact (Value.int.inj q).symm
              exfalso; simp_all
        · refine g_iconst X10 B at_294 (pc' := 295) rfl (v := (1 : Int32)) (by decide) ?_
          refine g_goto X10 B at_295 (pc' := 299) (by decide) rfl ?_
          refine g_istore X10 B at_299 (pc' := 301) rfl (Ls' := #[.val (.int i0), .val (.int i1), .val (.int i2), .val (.int i3), .val (.int i4), .val (.int i5), .val (.int i6), .val (.int i7), .val (.int i8), .val (.int i9), .val (.int i10), .val (.int i11), .val (.int i12), .val (.ref o13), .val (.ref o14), .val (.int (1 : Int32)), .val (.int (1 : Int32)), .val (.int i17), .val (.int i18), .val (.int (own_pr (2 : Int32) i10 i9))]) rfl ?_
          refine g_iload X10 B at_301 (pc' := 303) rfl (v := i6) rfl ?_
          refine g_iconst X10 B at_303 (pc' := 304) rfl (v := (3 : Int32)) (by decide) ?_
          refine g_icmp_le X10 B at_304 (pcT := 359) (pcF := 307) (by decide) rfl rfl (fun c304_4 => ?_) (fun c304_4 => ?_)
          · have hg3 : 3 < n := by rw [Int32.lt_iff_toInt_lt, own_k3] at c304_4; omega
            exact law_r3_1 X10 B e10 n0 Zs N (i0) (i1) (i2) (i3) (i4) (i5) (i6) (i7) (i8) (i9) (i10) (i11) (i12) (o13) (o14) ((1 : Int32)) ((1 : Int32)) (i17) (i18) ((own_pr (2 : Int32) i10 i9)) n w yl hE hF hV hM hn2 hn5 w0 w1 w2 w3 w4 wl rfl rfl (by omega)
          · have hl3 : n ≤ 3 := by rw [Int32.lt_iff_toInt_lt, own_k3] at c304_4; omega
            refine g_iload X10 B at_359 (pc' := 361) rfl (v := i6) rfl ?_
            refine g_iconst X10 B at_361 (pc' := 362) rfl (v := (4 : Int32)) (by decide) ?_
            refine g_icmp_le X10 B at_362 (pcT := 417) (pcF := 365) (by decide) rfl rfl (fun c362_5 => ?_) (fun c362_5 => ?_)
            · exfalso; simp only [Int32.lt_iff_toInt_lt, own_k4] at c362_5; omega
            · have hl4 : n ≤ 4 := by rw [Int32.lt_iff_toInt_lt, own_k4] at c362_5; omega
              exact law_t3 X10 B e10 n0 Zs N (i0) (i1) (i2) (i3) (i4) (i5) (i6) (i7) (i8) (i9) (i10) (i11) (i12) (o13) (o14) ((1 : Int32)) ((1 : Int32)) (i17) (i18) ((own_pr (2 : Int32) i10 i9)) n w yl hE hF hV hM hn2 hn5 w0 w1 w2 w3 w4 wl rfl rfl (by omega)
      · exact absurd (by decide) c286_2
    · exact absurd rfl c274_1
set_option maxRecDepth 65536 in
set_option maxHeartbeats 40000000 in
theorem law_r2_1 {p : Program} {l : Launch} {e : Env} {s : State} {m : MethodId} {args : Array Value} {below : List Frame} {meth : Method} {c : Code} {T : State} {Z : State} {a0 : Array Value} {h : Heap} {locs : List Loc} (X : Stand p l e room_1 s m args below meth c T locs 2 7) (B : Bdy p s m meth c Z a0 "com/example/omni_stabilizer/omnistabilizer/protocols/DijkstraRingPrivilegedPinLaw" "law" code 20 (some .boolean) tables_1) (eT : T.heap = h) (n0 : Nat) (Zs : n0 ≤ h.size) (N : Fr n0 locs) (i0 : Int32) (i1 : Int32) (i2 : Int32) (i3 : Int32) (i4 : Int32) (i5 : Int32) (i6 : Int32) (i7 : Int32) (i8 : Int32) (i9 : Int32) (i10 : Int32) (i11 : Int32) (i12 : Int32) (o13 : Addr) (o14 : Addr) (i15 : Int32) (i16 : Int32) (i17 : Int32) (i18 : Int32) (n : Nat) (w : Nat → Value) (yl : Int32) (hE : Exa Z h o14 "com/example/omni_stabilizer/omnistabilizer/protocols/DijkstraRing") (hF : Fld Z h o14 "com/example/omni_stabilizer/omnistabilizer/protocols/DijkstraRing" "machines" "I" (.int i6)) (hV : Ax Z h o13 .int n w) (hM : i6.toInt = (n : Int)) (hn2 : 2 ≤ n) (hn5 : n ≤ 5) (w0 : w 0 = .int i8) (w1 : w 1 = .int i9) (w2 : 2 < n → w 2 = .int i10) (w3 : 3 < n → w 3 = .int i11) (w4 : 4 < n → w 4 = .int i12) (wl : w (n - 1) = .int yl) (hok : i15 = 1) (ha : i16 = 1) (h3 : 3 ≤ n) :
    Go p e below s room_1.cells room_1.slots (fun v _ L => v = some (.int 1) ∧ Fr n0 L) (T.setTop (mkF m 249 #[.val (.int i0), .val (.int i1), .val (.int i2), .val (.int i3), .val (.int i4), .val (.int i5), .val (.int i6), .val (.int i7), .val (.int i8), .val (.int i9), .val (.int i10), .val (.int i11), .val (.int i12), .val (.ref o13), .val (.ref o14), .val (.int i15), .val (.int i16), .val (.int i17), .val (.int i18), .unset] [])) := by
  subst hok
  subst ha
  refine g_aload X B at_249 (pc' := 251) rfl (v := (.ref o14)) rfl rfl ?_
  refine g_aload X B at_251 (pc' := 253) rfl (v := (.ref o13)) rfl rfl ?_
  refine g_iconst X B at_253 (pc' := 254) rfl (v := (2 : Int32)) (by decide) ?_
  refine g_virtual X B eT 0 hE (y := (⟨"com/example/omni_stabilizer/omnistabilizer/protocols/DijkstraRing", "privileged", "([II)Z"⟩ : MethodName)) (argsL := [(.ref o13), (.int (2 : Int32))]) (rest := []) (a := o14) (B.w 16 rfl) (B.w 17 rfl) (B.w 19 rfl) (B.w 18 rfl) (B.w 5 rfl) (B.w 20 rfl) (by decide) (pv_met l Z a0 B.2.2.1 [] h o14 o13 (2 : Int32) i6 n 2 w i10 i9 hV hF hM (by decide) (by omega) (w2 (by omega)) w1) (by decide) (by decide) (by decide) (by decide) rfl (lenOf own_pd0 rfl) rfl (Nat.le_of_eq rfl) at_254 (pc' := 257) rfl (fun T11 v11 L11 X11 Q11 => ?_)
  obtain ⟨rfl, hh11, rfl⟩ := Q11
  rw [List.append_nil] at X11
  show Go p e below s _ _ _ (T11.setTop (mkF m 257 #[.val (.int i0), .val (.int i1), .val (.int i2), .val (.int i3), .val (.int i4), .val (.int i5), .val (.int i6), .val (.int i7), .val (.int i8), .val (.int i9), .val (.int i10), .val (.int i11), .val (.int i12), .val (.ref o13), .val (.ref o14), .val (.int (1 : Int32)), .val (.int (1 : Int32)), .val (.int i17), .val (.int i18), .unset] [(.int (own_pr (2 : Int32) i10 i9))]))
  refine g_istore X11 B at_257 (pc' := 259) rfl (Ls' := #[.val (.int i0), .val (.int i1), .val (.int i2), .val (.int i3), .val (.int i4), .val (.int i5), .val (.int i6), .val (.int i7), .val (.int i8), .val (.int i9), .val (.int i10), .val (.int i11), .val (.int i12), .val (.ref o13), .val (.ref o14), .val (.int (1 : Int32)), .val (.int (1 : Int32)), .val (.int i17), .val (.int i18), .val (.int (own_pr (2 : Int32) i10 i9))]) rfl ?_
  refine g_iload X11 B at_259 (pc' := 261) rfl (v := (1 : Int32)) rfl ?_
  refine g_if_eq X11 B at_261 (pcT := 281) (pcF := 264) (by decide) rfl rfl (fun c261_0 => ?_) (fun c261_0 => ?_)
  · exact absurd c261_0 (by decide)
  · refine g_iload X11 B at_264 (pc' := 266) rfl (v := (own_pr (2 : Int32) i10 i9)) rfl ?_
    refine g_aload X11 B at_266 (pc' := 268) rfl (v := (.ref o13)) rfl rfl ?_
    refine g_iconst X11 B at_268 (pc' := 269) rfl (v := (2 : Int32)) (by decide) ?_
    refine g_iload X11 B at_269 (pc' := 271) rfl (v := i6) rfl ?_
    refine g_callP X11 B hh11 1 (y := (⟨"com/example/omni_stabilizer/omnistabilizer/protocols/DijkstraRingPrivilegedPinLaw", "ref", "([III)Z"⟩ : MethodName)) (argsL := [(.ref o13), (.int (2 : Int32)), (.int i6)]) (rest := [(.int (own_pr (2 : Int32) i10 i9))]) (w := (.int (own_pr (2 : Int32) i10 i9))) (B.w 21 rfl) (B.w 22 rfl) (B.w 23 rfl) (B.w 24 rfl) (by decide) (rf_met l Z a0 B.2.2.1 [] h o13 (2 : Int32) i6 n 2 w i10 i9 hV hM (by omega) (by decide) (by omega) (w2 (by omega)) w1) (by decide) (by decide) (by decide) (by decide) rfl (lenOf own_pd1 rfl) rfl (Nat.le_of_eq rfl) at_271 (pc' := 274) rfl (fun T12 X12 e12 => ?_)
    refine g_icmp_ne X12 B at_274 (pcT := 281) (pcF := 277) (by decide) rfl rfl (fun c274_1 => ?_) (fun c274_1 => ?_)
    · refine g_iconst X12 B at_277 (pc' := 278) rfl (v := (1 : Int32)) (by decide) ?_
      refine g_goto X12 B at_278 (pc' := 282) (by decide) rfl ?_
      refine g_istore X12 B at_282 (pc' := 284) rfl (Ls' := #[.val (.int i0), .val (.int i1), .val (.int i2), .val (.int i3), .val (.int i4), .val (.int i5), .val (.int i6), .val (.int i7), .val (.int i8), .val (.int i9), .val (.int i10), .val (.int i11), .val (.int i12), .val (.ref o13), .val (.ref o14), .val (.int (1 : Int32)), .val (.int (1 : Int32)), .val (.int i17), .val (.int i18), .val (.int (own_pr (2 : Int32) i10 i9))]) rfl ?_
      refine g_iload X12 B at_284 (pc' := 286) rfl (v := (1 : Int32)) rfl ?_
      refine g_if_ne X12 B at_286 (pcT := 294) (pcF := 289) (by decide) rfl rfl (fun c286_2 => ?_) (fun c286_2 => ?_)
      · exact absurd c286_2 (by decide)
      · refine g_iconst X12 B at_294 (pc' := 295) rfl (v := (1 : Int32)) (by decide) ?_
        refine g_goto X12 B at_295 (pc' := 299) (by decide) rfl ?_
        refine g_istore X12 B at_299 (pc' := 301) rfl (Ls' := #[.val (.int i0), .val (.int i1), .val (.int i2), .val (.int i3), .val (.int i4), .val (.int i5), .val (.int i6), .val (.int i7), .val (.int i8), .val (.int i9), .val (.int i10), .val (.int i11), .val (.int i12), .val (.ref o13), .val (.ref o14), .val (.int (1 : Int32)), .val (.int (1 : Int32)), .val (.int i17), .val (.int i18), .val (.int (own_pr (2 : Int32) i10 i9))]) rfl ?_
        refine g_iload X12 B at_301 (pc' := 303) rfl (v := i6) rfl ?_
        refine g_iconst X12 B at_303 (pc' := 304) rfl (v := (3 : Int32)) (by decide) ?_
        refine g_icmp_le X12 B at_304 (pcT := 359) (pcF := 307) (by decide) rfl rfl (fun c304_3 => ?_) (fun c304_3 => ?_)
        · have hg3 : 3 < n := by rw [Int32.lt_iff_toInt_lt, own_k3] at c304_3; omega
          exact law_r3_1 X12 B e12 n0 Zs N (i0) (i1) (i2) (i3) (i4) (i5) (i6) (i7) (i8) (i9) (i10) (i11) (i12) (o13) (o14) ((1 : Int32)) ((1 : Int32)) (i17) (i18) ((own_pr (2 : Int32) i10 i9)) n w yl hE hF hV hM hn2 hn5 w0 w1 w2 w3 w4 wl rfl rfl (by omega)
        · have hl3 : n ≤ 3 := by rw [Int32.lt_iff_toInt_lt, own_k3] at c304_3; omega
          refine g_iload X12 B at_359 (pc' := 361) rfl (v := i6) rfl ?_
          refine g_iconst X12 B at_361 (pc' := 362) rfl (v := (4 : Int32)) (by decide) ?_
          refine g_icmp_le X12 B at_362 (pcT := 417) (pcF := 365) (by decide) rfl rfl (fun c362_4 => ?_) (fun c362_4 => ?_)
          · exfalso; simp only [Int32.lt_iff_toInt_lt, own_k4] at c362_4; omega
          · have hl4 : n ≤ 4 := by rw [Int32.lt_iff_toInt_lt, own_k4] at c362_4; omega
            exact law_t3 X12 B e12 n0 Zs N (i0) (i1) (i2) (i3) (i4) (i5) (i6) (i7) (i8) (i9) (i10) (i11) (i12) (o13) (o14) ((1 : Int32)) ((1 : Int32)) (i17) (i18) ((own_pr (2 : Int32) i10 i9)) n w yl hE hF hV hM hn2 hn5 w0 w1 w2 w3 w4 wl rfl rfl (by omega)
    · exact absurd rfl c274_1
set_option maxRecDepth 65536 in
set_option maxHeartbeats 40000000 in
theorem law_r1_0 {p : Program} {l : Launch} {e : Env} {s : State} {m : MethodId} {args : Array Value} {below : List Frame} {meth : Method} {c : Code} {T : State} {Z : State} {a0 : Array Value} {h : Heap} {locs : List Loc} (X : Stand p l e room_1 s m args below meth c T locs 2 7) (B : Bdy p s m meth c Z a0 "com/example/omni_stabilizer/omnistabilizer/protocols/DijkstraRingPrivilegedPinLaw" "law" code 20 (some .boolean) tables_1) (eT : T.heap = h) (n0 : Nat) (Zs : n0 ≤ h.size) (N : Fr n0 locs) (i0 : Int32) (i1 : Int32) (i2 : Int32) (i3 : Int32) (i4 : Int32) (i5 : Int32) (i6 : Int32) (i7 : Int32) (i8 : Int32) (i9 : Int32) (i10 : Int32) (i11 : Int32) (i12 : Int32) (o13 : Addr) (o14 : Addr) (i15 : Int32) (i16 : Int32) (i17 : Int32) (n : Nat) (w : Nat → Value) (yl : Int32) (hE : Exa Z h o14 "com/example/omni_stabilizer/omnistabilizer/protocols/DijkstraRing") (hF : Fld Z h o14 "com/example/omni_stabilizer/omnistabilizer/protocols/DijkstraRing" "machines" "I" (.int i6)) (hV : Ax Z h o13 .int n w) (hM : i6.toInt = (n : Int)) (hn2 : 2 ≤ n) (hn5 : n ≤ 5) (w0 : w 0 = .int i8) (w1 : w 1 = .int i9) (w2 : 2 < n → w 2 = .int i10) (w3 : 3 < n → w 3 = .int i11) (w4 : 4 < n → w 4 = .int i12) (wl : w (n - 1) = .int yl) (hok : i15 = 1) (ha : i16 = 0) (hc : ¬ i8 = yl) :
    Go p e below s room_1.cells room_1.slots (fun v _ L => v = some (.int 1) ∧ Fr n0 L) (T.setTop (mkF m 191 #[.val (.int i0), .val (.int i1), .val (.int i2), .val (.int i3), .val (.int i4), .val (.int i5), .val (.int i6), .val (.int i7), .val (.int i8), .val (.int i9), .val (.int i10), .val (.int i11), .val (.int i12), .val (.ref o13), .val (.ref o14), .val (.int i15), .val (.int i16), .val (.int i17), .unset, .unset] [])) := by
  subst hok
  subst ha
  refine g_aload X B at_191 (pc' := 193) rfl (v := (.ref o14)) rfl rfl ?_
  refine g_aload X B at_193 (pc' := 195) rfl (v := (.ref o13)) rfl rfl ?_
  refine g_iconst X B at_195 (pc' := 196) rfl (v := (1 : Int32)) (by decide) ?_
  refine g_virtual X B eT 0 hE (y := (⟨"com/example/omni_stabilizer/omnistabilizer/protocols/DijkstraRing", "privileged", "([II)Z"⟩ : MethodName)) (argsL := [(.ref o13), (.int (1 : Int32))]) (rest := []) (a := o14) (B.w 16 rfl) (B.w 17 rfl) (B.w 19 rfl) (B.w 18 rfl) (B.w 5 rfl) (B.w 20 rfl) (by decide) (pv_met l Z a0 B.2.2.1 [] h o14 o13 (1 : Int32) i6 n 1 w i9 i8 hV hF hM (by decide) (by omega) w1 w0) (by decide) (by decide) (by decide) (by decide) rfl (lenOf own_pd0 rfl) rfl (Nat.le_of_eq rfl) at_196 (pc' := 199) rfl (fun T13 v13 L13 X13 Q13 => ?_)
  obtain ⟨rfl, hh13, rfl⟩ := Q13
  rw [List.append_nil] at X13
  show Go p e below s _ _ _ (T13.setTop (mkF m 199 #[.val (.int i0), .val (.int i1), .val (.int i2), .val (.int i3), .val (.int i4), .val (.int i5), .val (.int i6), .val (.int i7), .val (.int i8), .val (.int i9), .val (.int i10), .val (.int i11), .val (.int i12), .val (.ref o13), .val (.ref o14), .val (.int (1 : Int32)), .val (.int (0 : Int32)), .val (.int i17), .unset, .unset] [(.int (own_pr (1 : Int32) i9 i8))]))
  refine g_istore X13 B at_199 (pc' := 201) rfl (Ls' := #[.val (.int i0), .val (.int i1), .val (.int i2), .val (.int i3), .val (.int i4), .val (.int i5), .val (.int i6), .val (.int i7), .val (.int i8), .val (.int i9), .val (.int i10), .val (.int i11), .val (.int i12), .val (.ref o13), .val (.ref o14), .val (.int (1 : Int32)), .val (.int (0 : Int32)), .val (.int i17), .val (.int (own_pr (1 : Int32) i9 i8)), .unset]) rfl ?_
  refine g_iload X13 B at_201 (pc' := 203) rfl (v := (1 : Int32)) rfl ?_
  refine g_if_eq X13 B at_203 (pcT := 223) (pcF := 206) (by decide) rfl rfl (fun c203_0 => ?_) (fun c203_0 => ?_)
  · exact absurd c203_0 (by decide)
  · refine g_iload X13 B at_206 (pc' := 208) rfl (v := (own_pr (1 : Int32) i9 i8)) rfl ?_
    refine g_aload X13 B at_208 (pc' := 210) rfl (v := (.ref o13)) rfl rfl ?_
    refine g_iconst X13 B at_210 (pc' := 211) rfl (v := (1 : Int32)) (by decide) ?_
    refine g_iload X13 B at_211 (pc' := 213) rfl (v := i6) rfl ?_
    refine g_callP X13 B hh13 1 (y := (⟨"com/example/omni_stabilizer/omnistabilizer/protocols/DijkstraRingPrivilegedPinLaw", "ref", "([III)Z"⟩ : MethodName)) (argsL := [(.ref o13), (.int (1 : Int32)), (.int i6)]) (rest := [(.int (own_pr (1 : Int32) i9 i8))]) (w := (.int (own_pr (1 : Int32) i9 i8))) (B.w 21 rfl) (B.w 22 rfl) (B.w 23 rfl) (B.w 24 rfl) (by decide) (rf_met l Z a0 B.2.2.1 [] h o13 (1 : Int32) i6 n 1 w i9 i8 hV hM (by omega) (by decide) (by omega) w1 w0) (by decide) (by decide) (by decide) (by decide) rfl (lenOf own_pd1 rfl) rfl (Nat.le_of_eq rfl) at_213 (pc' := 216) rfl (fun T14 X14 e14 => ?_)
    refine g_icmp_ne X14 B at_216 (pcT := 223) (pcF := 219) (by decide) rfl rfl (fun c216_1 => ?_) (fun c216_1 => ?_)
    · refine g_iconst X14 B at_219 (pc' := 220) rfl (v := (1 : Int32)) (by decide) ?_
      refine g_goto X14 B at_220 (pc' := 224) (by decide) rfl ?_
      refine g_istore X14 B at_224 (pc' := 226) rfl (Ls' := #[.val (.int i0), .val (.int i1), .val (.int i2), .val (.int i3), .val (.int i4), .val (.int i5), .val (.int i6), .val (.int i7), .val (.int i8), .val (.int i9), .val (.int i10), .val (.int i11), .val (.int i12), .val (.ref o13), .val (.ref o14), .val (.int (1 : Int32)), .val (.int (0 : Int32)), .val (.int i17), .val (.int (own_pr (1 : Int32) i9 i8)), .unset]) rfl ?_
      refine g_iload X14 B at_226 (pc' := 228) rfl (v := (0 : Int32)) rfl ?_
      refine g_if_ne X14 B at_228 (pcT := 236) (pcF := 231) (by decide) rfl rfl (fun c228_2 => ?_) (fun c228_2 => ?_)
      · refine g_iload X14 B at_231 (pc' := 233) rfl (v := (own_pr (1 : Int32) i9 i8)) rfl ?_
        refine g_if_eq X14 B at_233 (pcT := 240) (pcF := 236) (by decide) rfl rfl (fun c233_3 => ?_) (fun c233_3 => ?_)
        · refine g_iconst X14 B at_240 (pc' := 241) rfl (v := (0 : Int32)) (by decide) ?_
          refine g_istore X14 B at_241 (pc' := 243) rfl (Ls' := #[.val (.int i0), .val (.int i1), .val (.int i2), .val (.int i3), .val (.int i4), .val (.int i5), .val (.int i6), .val (.int i7), .val (.int i8), .val (.int i9), .val (.int i10), .val (.int i11), .val (.int i12), .val (.ref o13), .val (.ref o14), .val (.int (1 : Int32)), .val (.int (0 : Int32)), .val (.int i17), .val (.int (own_pr (1 : Int32) i9 i8)), .unset]) rfl ?_
          refine g_iload X14 B at_243 (pc' := 245) rfl (v := i6) rfl ?_
          refine g_iconst X14 B at_245 (pc' := 246) rfl (v := (2 : Int32)) (by decide) ?_
          refine g_icmp_le X14 B at_246 (pcT := 301) (pcF := 249) (by decide) rfl rfl (fun c246_4 => ?_) (fun c246_4 => ?_)
          · have hg2 : 2 < n := by rw [Int32.lt_iff_toInt_lt, own_k2] at c246_4; omega
            exact law_r2_0 X14 B e14 n0 Zs N (i0) (i1) (i2) (i3) (i4) (i5) (i6) (i7) (i8) (i9) (i10) (i11) (i12) (o13) (o14) ((1 : Int32)) ((0 : Int32)) (i17) ((own_pr (1 : Int32) i9 i8)) n w yl hE hF hV hM hn2 hn5 w0 w1 w2 w3 w4 wl rfl rfl (own_and2 hc (own_pr_f (k := 1) (by decide) c233_3)) (by omega)
          · have hl2 : n ≤ 2 := by rw [Int32.lt_iff_toInt_lt, own_k2] at c246_4; omega
            refine g_iload X14 B at_301 (pc' := 303) rfl (v := i6) rfl ?_
            refine g_iconst X14 B at_303 (pc' := 304) rfl (v := (3 : Int32)) (by decide) ?_
            refine g_icmp_le X14 B at_304 (pcT := 359) (pcF := 307) (by decide) rfl rfl (fun c304_5 => ?_) (fun c304_5 => ?_)
            · exfalso; simp only [Int32.lt_iff_toInt_lt, own_k3] at c304_5; omega
            · have hl3 : n ≤ 3 := by rw [Int32.lt_iff_toInt_lt, own_k3] at c304_5; omega
              refine g_iload X14 B at_359 (pc' := 361) rfl (v := i6) rfl ?_
              refine g_iconst X14 B at_361 (pc' := 362) rfl (v := (4 : Int32)) (by decide) ?_
              refine g_icmp_le X14 B at_362 (pcT := 417) (pcF := 365) (by decide) rfl rfl (fun c362_6 => ?_) (fun c362_6 => ?_)
              · exfalso; simp only [Int32.lt_iff_toInt_lt, own_k4] at c362_6; omega
              · have hl4 : n ≤ 4 := by rw [Int32.lt_iff_toInt_lt, own_k4] at c362_6; omega
                have hz := own_and2 hc (own_pr_f (k := 1) (by decide) c233_3)
                have hq : yl = i9 := by have q := wl; rw [show n - 1 = 1 by omega, w1] at q; exact (Value.int.inj q).symm
                exfalso; simp_all
        · refine g_iconst X14 B at_236 (pc' := 237) rfl (v := (1 : Int32)) (by decide) ?_
          refine g_goto X14 B at_237 (pc' := 241) (by decide) rfl ?_
          refine g_istore X14 B at_241 (pc' := 243) rfl (Ls' := #[.val (.int i0), .val (.int i1), .val (.int i2), .val (.int i3), .val (.int i4), .val (.int i5), .val (.int i6), .val (.int i7), .val (.int i8), .val (.int i9), .val (.int i10), .val (.int i11), .val (.int i12), .val (.ref o13), .val (.ref o14), .val (.int (1 : Int32)), .val (.int (1 : Int32)), .val (.int i17), .val (.int (own_pr (1 : Int32) i9 i8)), .unset]) rfl ?_
          refine g_iload X14 B at_243 (pc' := 245) rfl (v := i6) rfl ?_
          refine g_iconst X14 B at_245 (pc' := 246) rfl (v := (2 : Int32)) (by decide) ?_
          refine g_icmp_le X14 B at_246 (pcT := 301) (pcF := 249) (by decide) rfl rfl (fun c246_4 => ?_) (fun c246_4 => ?_)
          · have hg2 : 2 < n := by rw [Int32.lt_iff_toInt_lt, own_k2] at c246_4; omega
            exact law_r2_1 X14 B e14 n0 Zs N (i0) (i1) (i2) (i3) (i4) (i5) (i6) (i7) (i8) (i9) (i10) (i11) (i12) (o13) (o14) ((1 : Int32)) ((1 : Int32)) (i17) ((own_pr (1 : Int32) i9 i8)) n w yl hE hF hV hM hn2 hn5 w0 w1 w2 w3 w4 wl rfl rfl (by omega)
          · have hl2 : n ≤ 2 := by rw [Int32.lt_iff_toInt_lt, own_k2] at c246_4; omega
            refine g_iload X14 B at_301 (pc' := 303) rfl (v := i6) rfl ?_
            refine g_iconst X14 B at_303 (pc' := 304) rfl (v := (3 : Int32)) (by decide) ?_
            refine g_icmp_le X14 B at_304 (pcT := 359) (pcF := 307) (by decide) rfl rfl (fun c304_5 => ?_) (fun c304_5 => ?_)
            · exfalso; simp only [Int32.lt_iff_toInt_lt, own_k3] at c304_5; omega
            · have hl3 : n ≤ 3 := by rw [Int32.lt_iff_toInt_lt, own_k3] at c304_5; omega
              refine g_iload X14 B at_359 (pc' := 361) rfl (v := i6) rfl ?_
              refine g_iconst X14 B at_361 (pc' := 362) rfl (v := (4 : Int32)) (by decide) ?_
              refine g_icmp_le X14 B at_362 (pcT := 417) (pcF := 365) (by decide) rfl rfl (fun c362_6 => ?_) (fun c362_6 => ?_)
              · exfalso; simp only [Int32.lt_iff_toInt_lt, own_k4] at c362_6; omega
              · have hl4 : n ≤ 4 := by rw [Int32.lt_iff_toInt_lt, own_k4] at c362_6; omega
                exact law_t2 X14 B e14 n0 Zs N (i0) (i1) (i2) (i3) (i4) (i5) (i6) (i7) (i8) (i9) (i10) (i11) (i12) (o13) (o14) ((1 : Int32)) ((1 : Int32)) (i17) ((own_pr (1 : Int32) i9 i8)) n w yl hE hF hV hM hn2 hn5 w0 w1 w2 w3 w4 wl rfl rfl (by omega)
      · exact absurd (by decide) c228_2
    · exact absurd rfl c216_1
set_option maxRecDepth 65536 in
set_option maxHeartbeats 40000000 in
theorem law_r1_1 {p : Program} {l : Launch} {e : Env} {s : State} {m : MethodId} {args : Array Value} {below : List Frame} {meth : Method} {c : Code} {T : State} {Z : State} {a0 : Array Value} {h : Heap} {locs : List Loc} (X : Stand p l e room_1 s m args below meth c T locs 2 7) (B : Bdy p s m meth c Z a0 "com/example/omni_stabilizer/omnistabilizer/protocols/DijkstraRingPrivilegedPinLaw" "law" code 20 (some .boolean) tables_1) (eT : T.heap = h) (n0 : Nat) (Zs : n0 ≤ h.size) (N : Fr n0 locs) (i0 : Int32) (i1 : Int32) (i2 : Int32) (i3 : Int32) (i4 : Int32) (i5 : Int32) (i6 : Int32) (i7 : Int32) (i8 : Int32) (i9 : Int32) (i10 : Int32) (i11 : Int32) (i12 : Int32) (o13 : Addr) (o14 : Addr) (i15 : Int32) (i16 : Int32) (i17 : Int32) (n : Nat) (w : Nat → Value) (yl : Int32) (hE : Exa Z h o14 "com/example/omni_stabilizer/omnistabilizer/protocols/DijkstraRing") (hF : Fld Z h o14 "com/example/omni_stabilizer/omnistabilizer/protocols/DijkstraRing" "machines" "I" (.int i6)) (hV : Ax Z h o13 .int n w) (hM : i6.toInt = (n : Int)) (hn2 : 2 ≤ n) (hn5 : n ≤ 5) (w0 : w 0 = .int i8) (w1 : w 1 = .int i9) (w2 : 2 < n → w 2 = .int i10) (w3 : 3 < n → w 3 = .int i11) (w4 : 4 < n → w 4 = .int i12) (wl : w (n - 1) = .int yl) (hok : i15 = 1) (ha : i16 = 1) :
    Go p e below s room_1.cells room_1.slots (fun v _ L => v = some (.int 1) ∧ Fr n0 L) (T.setTop (mkF m 191 #[.val (.int i0), .val (.int i1), .val (.int i2), .val (.int i3), .val (.int i4), .val (.int i5), .val (.int i6), .val (.int i7), .val (.int i8), .val (.int i9), .val (.int i10), .val (.int i11), .val (.int i12), .val (.ref o13), .val (.ref o14), .val (.int i15), .val (.int i16), .val (.int i17), .unset, .unset] [])) := by
  subst hok
  subst ha
  refine g_aload X B at_191 (pc' := 193) rfl (v := (.ref o14)) rfl rfl ?_
  refine g_aload X B at_193 (pc' := 195) rfl (v := (.ref o13)) rfl rfl ?_
  refine g_iconst X B at_195 (pc' := 196) rfl (v := (1 : Int32)) (by decide) ?_
  refine g_virtual X B eT 0 hE (y := (⟨"com/example/omni_stabilizer/omnistabilizer/protocols/DijkstraRing", "privileged", "([II)Z"⟩ : MethodName)) (argsL := [(.ref o13), (.int (1 : Int32))]) (rest := []) (a := o14) (B.w 16 rfl) (B.w 17 rfl) (B.w 19 rfl) (B.w 18 rfl) (B.w 5 rfl) (B.w 20 rfl) (by decide) (pv_met l Z a0 B.2.2.1 [] h o14 o13 (1 : Int32) i6 n 1 w i9 i8 hV hF hM (by decide) (by omega) w1 w0) (by decide) (by decide) (by decide) (by decide) rfl (lenOf own_pd0 rfl) rfl (Nat.le_of_eq rfl) at_196 (pc' := 199) rfl (fun T15 v15 L15 X15 Q15 => ?_)
  obtain ⟨rfl, hh15, rfl⟩ := Q15
  rw [List.append_nil] at X15
  show Go p e below s _ _ _ (T15.setTop (mkF m 199 #[.val (.int i0), .val (.int i1), .val (.int i2), .val (.int i3), .val (.int i4), .val (.int i5), .val (.int i6), .val (.int i7), .val (.int i8), .val (.int i9), .val (.int i10), .val (.int i11), .val (.int i12), .val (.ref o13), .val (.ref o14), .val (.int (1 : Int32)), .val (.int (1 : Int32)), .val (.int i17), .unset, .unset] [(.int (own_pr (1 : Int32) i9 i8))]))
  refine g_istore X15 B at_199 (pc' := 201) rfl (Ls' := #[.val (.int i0), .val (.int i1), .val (.int i2), .val (.int i3), .val (.int i4), .val (.int i5), .val (.int i6), .val (.int i7), .val (.int i8), .val (.int i9), .val (.int i10), .val (.int i11), .val (.int i12), .val (.ref o13), .val (.ref o14), .val (.int (1 : Int32)), .val (.int (1 : Int32)), .val (.int i17), .val (.int (own_pr (1 : Int32) i9 i8)), .unset]) rfl ?_
  refine g_iload X15 B at_201 (pc' := 203) rfl (v := (1 : Int32)) rfl ?_
  refine g_if_eq X15 B at_203 (pcT := 223) (pcF := 206) (by decide) rfl rfl (fun c203_0 => ?_) (fun c203_0 => ?_)
  · exact absurd c203_0 (by decide)
  · refine g_iload X15 B at_206 (pc' := 208) rfl (v := (own_pr (1 : Int32) i9 i8)) rfl ?_
    refine g_aload X15 B at_208 (pc' := 210) rfl (v := (.ref o13)) rfl rfl ?_
    refine g_iconst X15 B at_210 (pc' := 211) rfl (v := (1 : Int32)) (by decide) ?_
    refine g_iload X15 B at_211 (pc' := 213) rfl (v := i6) rfl ?_
    refine g_callP X15 B hh15 1 (y := (⟨"com/example/omni_stabilizer/omnistabilizer/protocols/DijkstraRingPrivilegedPinLaw", "ref", "([III)Z"⟩ : MethodName)) (argsL := [(.ref o13), (.int (1 : Int32)), (.int i6)]) (rest := [(.int (own_pr (1 : Int32) i9 i8))]) (w := (.int (own_pr (1 : Int32) i9 i8))) (B.w 21 rfl) (B.w 22 rfl) (B.w 23 rfl) (B.w 24 rfl) (by decide) (rf_met l Z a0 B.2.2.1 [] h o13 (1 : Int32) i6 n 1 w i9 i8 hV hM (by omega) (by decide) (by omega) w1 w0) (by decide) (by decide) (by decide) (by decide) rfl (lenOf own_pd1 rfl) rfl (Nat.le_of_eq rfl) at_213 (pc' := 216) rfl (fun T16 X16 e16 => ?_)
    refine g_icmp_ne X16 B at_216 (pcT := 223) (pcF := 219) (by decide) rfl rfl (fun c216_1 => ?_) (fun c216_1 => ?_)
    · refine g_iconst X16 B at_219 (pc' := 220) rfl (v := (1 : Int32)) (by decide) ?_
      refine g_goto X16 B at_220 (pc' := 224) (by decide) rfl ?_
      refine g_istore X16 B at_224 (pc' := 226) rfl (Ls' := #[.val (.int i0), .val (.int i1), .val (.int i2), .val (.int i3), .val (.int i4), .val (.int i5), .val (.int i6), .val (.int i7), .val (.int i8), .val (.int i9), .val (.int i10), .val (.int i11), .val (.int i12), .val (.ref o13), .val (.ref o14), .val (.int (1 : Int32)), .val (.int (1 : Int32)), .val (.int i17), .val (.int (own_pr (1 : Int32) i9 i8)), .unset]) rfl ?_
      refine g_iload X16 B at_226 (pc' := 228) rfl (v := (1 : Int32)) rfl ?_
      refine g_if_ne X16 B at_228 (pcT := 236) (pcF := 231) (by decide) rfl rfl (fun c228_2 => ?_) (fun c228_2 => ?_)
      · exact absurd c228_2 (by decide)
      · refine g_iconst X16 B at_236 (pc' := 237) rfl (v := (1 : Int32)) (by decide) ?_
        refine g_goto X16 B at_237 (pc' := 241) (by decide) rfl ?_
        refine g_istore X16 B at_241 (pc' := 243) rfl (Ls' := #[.val (.int i0), .val (.int i1), .val (.int i2), .val (.int i3), .val (.int i4), .val (.int i5), .val (.int i6), .val (.int i7), .val (.int i8), .val (.int i9), .val (.int i10), .val (.int i11), .val (.int i12), .val (.ref o13), .val (.ref o14), .val (.int (1 : Int32)), .val (.int (1 : Int32)), .val (.int i17), .val (.int (own_pr (1 : Int32) i9 i8)), .unset]) rfl ?_
        refine g_iload X16 B at_243 (pc' := 245) rfl (v := i6) rfl ?_
        refine g_iconst X16 B at_245 (pc' := 246) rfl (v := (2 : Int32)) (by decide) ?_
        refine g_icmp_le X16 B at_246 (pcT := 301) (pcF := 249) (by decide) rfl rfl (fun c246_3 => ?_) (fun c246_3 => ?_)
        · have hg2 : 2 < n := by rw [Int32.lt_iff_toInt_lt, own_k2] at c246_3; omega
          exact law_r2_1 X16 B e16 n0 Zs N (i0) (i1) (i2) (i3) (i4) (i5) (i6) (i7) (i8) (i9) (i10) (i11) (i12) (o13) (o14) ((1 : Int32)) ((1 : Int32)) (i17) ((own_pr (1 : Int32) i9 i8)) n w yl hE hF hV hM hn2 hn5 w0 w1 w2 w3 w4 wl rfl rfl (by omega)
        · have hl2 : n ≤ 2 := by rw [Int32.lt_iff_toInt_lt, own_k2] at c246_3; omega
          refine g_iload X16 B at_301 (pc' := 303) rfl (v := i6) rfl ?_
          refine g_iconst X16 B at_303 (pc' := 304) rfl (v := (3 : Int32)) (by decide) ?_
          refine g_icmp_le X16 B at_304 (pcT := 359) (pcF := 307) (by decide) rfl rfl (fun c304_4 => ?_) (fun c304_4 => ?_)
          · exfalso; simp only [Int32.lt_iff_toInt_lt, own_k3] at c304_4; omega
          · have hl3 : n ≤ 3 := by rw [Int32.lt_iff_toInt_lt, own_k3] at c304_4; omega
            refine g_iload X16 B at_359 (pc' := 361) rfl (v := i6) rfl ?_
            refine g_iconst X16 B at_361 (pc' := 362) rfl (v := (4 : Int32)) (by decide) ?_
            refine g_icmp_le X16 B at_362 (pcT := 417) (pcF := 365) (by decide) rfl rfl (fun c362_5 => ?_) (fun c362_5 => ?_)
            · exfalso; simp only [Int32.lt_iff_toInt_lt, own_k4] at c362_5; omega
            · have hl4 : n ≤ 4 := by rw [Int32.lt_iff_toInt_lt, own_k4] at c362_5; omega
              exact law_t2 X16 B e16 n0 Zs N (i0) (i1) (i2) (i3) (i4) (i5) (i6) (i7) (i8) (i9) (i10) (i11) (i12) (o13) (o14) ((1 : Int32)) ((1 : Int32)) (i17) ((own_pr (1 : Int32) i9 i8)) n w yl hE hF hV hM hn2 hn5 w0 w1 w2 w3 w4 wl rfl rfl (by omega)
    · exact absurd rfl c216_1
set_option maxRecDepth 65536 in
set_option maxHeartbeats 40000000 in
theorem law_r0_0 {p : Program} {l : Launch} {e : Env} {s : State} {m : MethodId} {args : Array Value} {below : List Frame} {meth : Method} {c : Code} {T : State} {Z : State} {a0 : Array Value} {h : Heap} {locs : List Loc} (X : Stand p l e room_1 s m args below meth c T locs 2 7) (B : Bdy p s m meth c Z a0 "com/example/omni_stabilizer/omnistabilizer/protocols/DijkstraRingPrivilegedPinLaw" "law" code 20 (some .boolean) tables_1) (eT : T.heap = h) (n0 : Nat) (Zs : n0 ≤ h.size) (N : Fr n0 locs) (i0 : Int32) (i1 : Int32) (i2 : Int32) (i3 : Int32) (i4 : Int32) (i5 : Int32) (i6 : Int32) (i7 : Int32) (i8 : Int32) (i9 : Int32) (i10 : Int32) (i11 : Int32) (i12 : Int32) (o13 : Addr) (o14 : Addr) (i15 : Int32) (i16 : Int32) (n : Nat) (w : Nat → Value) (yl : Int32) (hE : Exa Z h o14 "com/example/omni_stabilizer/omnistabilizer/protocols/DijkstraRing") (hF : Fld Z h o14 "com/example/omni_stabilizer/omnistabilizer/protocols/DijkstraRing" "machines" "I" (.int i6)) (hV : Ax Z h o13 .int n w) (hM : i6.toInt = (n : Int)) (hn2 : 2 ≤ n) (hn5 : n ≤ 5) (w0 : w 0 = .int i8) (w1 : w 1 = .int i9) (w2 : 2 < n → w 2 = .int i10) (w3 : 3 < n → w 3 = .int i11) (w4 : 4 < n → w 4 = .int i12) (wl : w (n - 1) = .int yl) (hok : i15 = 1) (ha : i16 = 0) :
    Go p e below s room_1.cells room_1.slots (fun v _ L => v = some (.int 1) ∧ Fr n0 L) (T.setTop (mkF m 139 #[.val (.int i0), .val (.int i1), .val (.int i2), .val (.int i3), .val (.int i4), .val (.int i5), .val (.int i6), .val (.int i7), .val (.int i8), .val (.int i9), .val (.int i10), .val (.int i11), .val (.int i12), .val (.ref o13), .val (.ref o14), .val (.int i15), .val (.int i16), .unset, .unset, .unset] [])) := by
  subst hok
  subst ha
  refine g_aload X B at_139 (pc' := 141) rfl (v := (.ref o14)) rfl rfl ?_
  refine g_aload X B at_141 (pc' := 143) rfl (v := (.ref o13)) rfl rfl ?_
  refine g_iconst X B at_143 (pc' := 144) rfl (v := (0 : Int32)) (by decide) ?_
  refine g_virtual X B eT 0 hE (y := (⟨"com/example/omni_stabilizer/omnistabilizer/protocols/DijkstraRing", "privileged", "([II)Z"⟩ : MethodName)) (argsL := [(.ref o13), (.int (0 : Int32))]) (rest := []) (a := o14) (B.w 16 rfl) (B.w 17 rfl) (B.w 19 rfl) (B.w 18 rfl) (B.w 5 rfl) (B.w 20 rfl) (by decide) (pv_met l Z a0 B.2.2.1 [] h o14 o13 (0 : Int32) i6 n 0 w i8 yl hV hF hM (by decide) (by omega) w0 (by simpa using wl)) (by decide) (by decide) (by decide) (by decide) rfl (lenOf own_pd0 rfl) rfl (Nat.le_of_eq rfl) at_144 (pc' := 147) rfl (fun T17 v17 L17 X17 Q17 => ?_)
  obtain ⟨rfl, hh17, rfl⟩ := Q17
  rw [List.append_nil] at X17
  show Go p e below s _ _ _ (T17.setTop (mkF m 147 #[.val (.int i0), .val (.int i1), .val (.int i2), .val (.int i3), .val (.int i4), .val (.int i5), .val (.int i6), .val (.int i7), .val (.int i8), .val (.int i9), .val (.int i10), .val (.int i11), .val (.int i12), .val (.ref o13), .val (.ref o14), .val (.int (1 : Int32)), .val (.int (0 : Int32)), .unset, .unset, .unset] [(.int (own_pr (0 : Int32) i8 yl))]))
  refine g_istore X17 B at_147 (pc' := 149) rfl (Ls' := #[.val (.int i0), .val (.int i1), .val (.int i2), .val (.int i3), .val (.int i4), .val (.int i5), .val (.int i6), .val (.int i7), .val (.int i8), .val (.int i9), .val (.int i10), .val (.int i11), .val (.int i12), .val (.ref o13), .val (.ref o14), .val (.int (1 : Int32)), .val (.int (0 : Int32)), .val (.int (own_pr (0 : Int32) i8 yl)), .unset, .unset]) rfl ?_
  refine g_iload X17 B at_149 (pc' := 151) rfl (v := (1 : Int32)) rfl ?_
  refine g_if_eq X17 B at_151 (pcT := 171) (pcF := 154) (by decide) rfl rfl (fun c151_0 => ?_) (fun c151_0 => ?_)
  · exact absurd c151_0 (by decide)
  · refine g_iload X17 B at_154 (pc' := 156) rfl (v := (own_pr (0 : Int32) i8 yl)) rfl ?_
    refine g_aload X17 B at_156 (pc' := 158) rfl (v := (.ref o13)) rfl rfl ?_
    refine g_iconst X17 B at_158 (pc' := 159) rfl (v := (0 : Int32)) (by decide) ?_
    refine g_iload X17 B at_159 (pc' := 161) rfl (v := i6) rfl ?_
    refine g_callP X17 B hh17 1 (y := (⟨"com/example/omni_stabilizer/omnistabilizer/protocols/DijkstraRingPrivilegedPinLaw", "ref", "([III)Z"⟩ : MethodName)) (argsL := [(.ref o13), (.int (0 : Int32)), (.int i6)]) (rest := [(.int (own_pr (0 : Int32) i8 yl))]) (w := (.int (own_pr (0 : Int32) i8 yl))) (B.w 21 rfl) (B.w 22 rfl) (B.w 23 rfl) (B.w 24 rfl) (by decide) (rf_met l Z a0 B.2.2.1 [] h o13 (0 : Int32) i6 n 0 w i8 yl hV hM (by omega) (by decide) (by omega) w0 (by simpa using wl)) (by decide) (by decide) (by decide) (by decide) rfl (lenOf own_pd1 rfl) rfl (Nat.le_of_eq rfl) at_161 (pc' := 164) rfl (fun T18 X18 e18 => ?_)
    refine g_icmp_ne X18 B at_164 (pcT := 171) (pcF := 167) (by decide) rfl rfl (fun c164_1 => ?_) (fun c164_1 => ?_)
    · refine g_iconst X18 B at_167 (pc' := 168) rfl (v := (1 : Int32)) (by decide) ?_
      refine g_goto X18 B at_168 (pc' := 172) (by decide) rfl ?_
      refine g_istore X18 B at_172 (pc' := 174) rfl (Ls' := #[.val (.int i0), .val (.int i1), .val (.int i2), .val (.int i3), .val (.int i4), .val (.int i5), .val (.int i6), .val (.int i7), .val (.int i8), .val (.int i9), .val (.int i10), .val (.int i11), .val (.int i12), .val (.ref o13), .val (.ref o14), .val (.int (1 : Int32)), .val (.int (0 : Int32)), .val (.int (own_pr (0 : Int32) i8 yl)), .unset, .unset]) rfl ?_
      refine g_iload X18 B at_174 (pc' := 176) rfl (v := (0 : Int32)) rfl ?_
      refine g_if_ne X18 B at_176 (pcT := 184) (pcF := 179) (by decide) rfl rfl (fun c176_2 => ?_) (fun c176_2 => ?_)
      · refine g_iload X18 B at_179 (pc' := 181) rfl (v := (own_pr (0 : Int32) i8 yl)) rfl ?_
        refine g_if_eq X18 B at_181 (pcT := 188) (pcF := 184) (by decide) rfl rfl (fun c181_3 => ?_) (fun c181_3 => ?_)
        · refine g_iconst X18 B at_188 (pc' := 189) rfl (v := (0 : Int32)) (by decide) ?_
          refine g_istore X18 B at_189 (pc' := 191) rfl (Ls' := #[.val (.int i0), .val (.int i1), .val (.int i2), .val (.int i3), .val (.int i4), .val (.int i5), .val (.int i6), .val (.int i7), .val (.int i8), .val (.int i9), .val (.int i10), .val (.int i11), .val (.int i12), .val (.ref o13), .val (.ref o14), .val (.int (1 : Int32)), .val (.int (0 : Int32)), .val (.int (own_pr (0 : Int32) i8 yl)), .unset, .unset]) rfl ?_
          exact law_r1_0 X18 B e18 n0 Zs N (i0) (i1) (i2) (i3) (i4) (i5) (i6) (i7) (i8) (i9) (i10) (i11) (i12) (o13) (o14) ((1 : Int32)) ((0 : Int32)) ((own_pr (0 : Int32) i8 yl)) n w yl hE hF hV hM hn2 hn5 w0 w1 w2 w3 w4 wl rfl rfl (own_and1 (own_pr_0 c181_3))
        · refine g_iconst X18 B at_184 (pc' := 185) rfl (v := (1 : Int32)) (by decide) ?_
          refine g_goto X18 B at_185 (pc' := 189) (by decide) rfl ?_
          refine g_istore X18 B at_189 (pc' := 191) rfl (Ls' := #[.val (.int i0), .val (.int i1), .val (.int i2), .val (.int i3), .val (.int i4), .val (.int i5), .val (.int i6), .val (.int i7), .val (.int i8), .val (.int i9), .val (.int i10), .val (.int i11), .val (.int i12), .val (.ref o13), .val (.ref o14), .val (.int (1 : Int32)), .val (.int (1 : Int32)), .val (.int (own_pr (0 : Int32) i8 yl)), .unset, .unset]) rfl ?_
          exact law_r1_1 X18 B e18 n0 Zs N (i0) (i1) (i2) (i3) (i4) (i5) (i6) (i7) (i8) (i9) (i10) (i11) (i12) (o13) (o14) ((1 : Int32)) ((1 : Int32)) ((own_pr (0 : Int32) i8 yl)) n w yl hE hF hV hM hn2 hn5 w0 w1 w2 w3 w4 wl rfl rfl
      · exact absurd (by decide) c176_2
    · exact absurd rfl c164_1
set_option maxRecDepth 65536 in
set_option maxHeartbeats 40000000 in
theorem law_s120 {p : Program} {l : Launch} {e : Env} {s : State} {m : MethodId} {args : Array Value} {below : List Frame} {meth : Method} {c : Code} {T : State} {Z : State} {a0 : Array Value} {h : Heap} {locs : List Loc} (X : Stand p l e room_1 s m args below meth c T locs 1 5) (B : Bdy p s m meth c Z a0 "com/example/omni_stabilizer/omnistabilizer/protocols/DijkstraRingPrivilegedPinLaw" "law" code 20 (some .boolean) tables_1) (eT : T.heap = h) (n0 : Nat) (Zs : n0 ≤ h.size) (N : Fr n0 locs) (i0 : Int32) (i1 : Int32) (i2 : Int32) (i3 : Int32) (i4 : Int32) (i5 : Int32) (i6 : Int32) (i7 : Int32) (i8 : Int32) (i9 : Int32) (i10 : Int32) (i11 : Int32) (i12 : Int32) (o13 : Addr) (n : Nat) (w : Nat → Value) (hV : Ax Z h o13 .int n w) (g13 : n0 ≤ o13) (hM : i6.toInt = (n : Int)) (hn2 : 2 ≤ n) (hn5 : n ≤ 5) (hk2 : 2 ≤ i7.toInt) (w0 : w 0 = .int i8) (w1 : w 1 = .int i9) (w2 : 2 < n → w 2 = .int i10) (w3 : 3 < n → w 3 = .int i11) (w4 : 4 < n → w 4 = .int i12) :
    Go p e below s room_1.cells room_1.slots (fun v _ L => v = some (.int 1) ∧ Fr n0 L) (T.setTop (mkF m 120 #[.val (.int i0), .val (.int i1), .val (.int i2), .val (.int i3), .val (.int i4), .val (.int i5), .val (.int i6), .val (.int i7), .val (.int i8), .val (.int i9), .val (.int i10), .val (.int i11), .val (.int i12), .val (.ref o13), .unset, .unset, .unset, .unset, .unset, .unset] [])) := by
  refine g_new X B (B.w 3 rfl) (B.w 4 rfl) (B.w 5 rfl) eT at_120 (pc' := 123) rfl (by decide) (by decide) (fun T19 h19 o19 q19 X19 e19 E19 A19 D19 => ?_)
  have ne_o13_o19 : o13 ≠ o19 := fun q => absurd (hV.lt) (by rw [q, q19]; exact Nat.lt_irrefl _)
  have G_o19 : n0 ≤ o19 := by rw [q19]; exact Zs
  have A_o13_19 := hV.ext E19
  have Zs_19 := Nat.le_trans Zs E19.1
  have F_o19_machines : Fld Z h19 o19 "com/example/omni_stabilizer/omnistabilizer/protocols/DijkstraRing" "machines" "I" (.int (0 : Int32)) := D19 (Or.inr (B.w 13 rfl)) (ty := .int) (by decide)
  have F_o19_k : Fld Z h19 o19 "com/example/omni_stabilizer/omnistabilizer/protocols/DijkstraRing" "k" "I" (.int (0 : Int32)) := D19 (Or.inr (B.w 15 rfl)) (ty := .int) (by decide)
  refine g_dup X19 B at_123 (pc' := 124) rfl rfl ?_
  refine g_iload X19 B at_124 (pc' := 126) rfl (v := i6) rfl ?_
  refine g_iload X19 B at_126 (pc' := 128) rfl (v := i7) rfl ?_
  refine g_special X19 B e19 1 (y := (⟨"com/example/omni_stabilizer/omnistabilizer/protocols/DijkstraRing", "<init>", "(II)V"⟩ : MethodName)) (argsL := [(.int i6), (.int i7)]) (rest := [(.ref o19)]) (a := o19) rfl (B.w 6 rfl) (B.w 7 rfl) (B.w 5 rfl) (B.w 8 rfl) (by decide) (ini_met l Z a0 B.2.2.1 [] h19 o19 i6 i7 n0 Zs_19 A19 F_o19_machines F_o19_k G_o19 (by rw [Int32.lt_iff_toInt_lt, own_k2]; omega) (by rw [Int32.lt_iff_toInt_lt, own_k2]; omega)) (by decide) (by decide) (by decide) (by decide) rfl (lenOf own_pd2 rfl) rfl (Nat.le_of_eq rfl) at_128 (pc' := 131) rfl (fun T20 v20 L20 X20 Q20 => ?_)
  obtain ⟨rfl, Nq20, Kq20, Fm20, Fk20⟩ := Q20
  have N20 := Fr.app N Nq20
  have A_o13_20 := A_o13_19.keep Kq20 (by simp only [List.mem_cons, List.not_mem_nil, or_false, not_or]; exact ne_o13_o19)
  have E_o19_20 := A19.keep Kq20
  have Zs_20 := Nat.le_trans Zs_19 Kq20.1
  show Go p e below s _ _ _ (T20.setTop (mkF m 131 #[.val (.int i0), .val (.int i1), .val (.int i2), .val (.int i3), .val (.int i4), .val (.int i5), .val (.int i6), .val (.int i7), .val (.int i8), .val (.int i9), .val (.int i10), .val (.int i11), .val (.int i12), .val (.ref o13), .unset, .unset, .unset, .unset, .unset, .unset] [(.ref o19)]))
  refine g_astore X20 B at_131 (pc' := 133) rfl rfl (Ls' := #[.val (.int i0), .val (.int i1), .val (.int i2), .val (.int i3), .val (.int i4), .val (.int i5), .val (.int i6), .val (.int i7), .val (.int i8), .val (.int i9), .val (.int i10), .val (.int i11), .val (.int i12), .val (.ref o13), .val (.ref o19), .unset, .unset, .unset, .unset, .unset]) rfl ?_
  refine g_iconst X20 B at_133 (pc' := 134) rfl (v := (1 : Int32)) (by decide) ?_
  refine g_istore X20 B at_134 (pc' := 136) rfl (Ls' := #[.val (.int i0), .val (.int i1), .val (.int i2), .val (.int i3), .val (.int i4), .val (.int i5), .val (.int i6), .val (.int i7), .val (.int i8), .val (.int i9), .val (.int i10), .val (.int i11), .val (.int i12), .val (.ref o13), .val (.ref o19), .val (.int (1 : Int32)), .unset, .unset, .unset, .unset]) rfl ?_
  refine g_iconst X20 B at_136 (pc' := 137) rfl (v := (0 : Int32)) (by decide) ?_
  refine g_istore X20 B at_137 (pc' := 139) rfl (Ls' := #[.val (.int i0), .val (.int i1), .val (.int i2), .val (.int i3), .val (.int i4), .val (.int i5), .val (.int i6), .val (.int i7), .val (.int i8), .val (.int i9), .val (.int i10), .val (.int i11), .val (.int i12), .val (.ref o13), .val (.ref o19), .val (.int (1 : Int32)), .val (.int (0 : Int32)), .unset, .unset, .unset]) rfl ?_
  obtain ⟨yl, wl⟩ : ∃ y : Int32, w (n - 1) = .int y := by
    have q : n = 2 ∨ n = 3 ∨ n = 4 ∨ n = 5 := by omega
    rcases q with rfl | rfl | rfl | rfl
    · exact ⟨_, w1⟩
    · exact ⟨_, w2 (by omega)⟩
    · exact ⟨_, w3 (by omega)⟩
    · exact ⟨_, w4 (by omega)⟩
  exact law_r0_0 X20 B rfl n0 Zs_20 N20 (i0) (i1) (i2) (i3) (i4) (i5) (i6) (i7) (i8) (i9) (i10) (i11) (i12) (o13) (o19) ((1 : Int32)) ((0 : Int32)) n w yl E_o19_20 Fm20 A_o13_20 hM hn2 hn5 w0 w1 w2 w3 w4 wl rfl rfl
set_option maxRecDepth 65536 in
set_option maxHeartbeats 40000000 in
theorem law_go {p : Program} {l : Launch} {e : Env} {s : State} {m : MethodId} {args : Array Value} {below : List Frame} {meth : Method} {c : Code} {T : State} {Z : State} {a0 : Array Value} {h : Heap} (X : Stand p l e room_1 s m args below meth c T [] 0 0) (B : Bdy p s m meth c Z a0 "com/example/omni_stabilizer/omnistabilizer/protocols/DijkstraRingPrivilegedPinLaw" "law" code 20 (some .boolean) tables_1) (eT : T.heap = h) (n0 : Nat) (Zs : n0 ≤ h.size) (i0 : Int32) (i1 : Int32) (i2 : Int32) (i3 : Int32) (i4 : Int32) (i5 : Int32)   :
    Go p e below s room_1.cells room_1.slots (fun v _ L => v = some (.int 1) ∧ Fr n0 L) (T.setTop (mkF m 0 #[.val (.int i0), .val (.int i1), .val (.int i2), .val (.int i3), .val (.int i4), .val (.int i5), .unset, .unset, .unset, .unset, .unset, .unset, .unset, .unset, .unset, .unset, .unset, .unset, .unset, .unset] [])) := by
  have N := Fr.nil n0
  refine g_iconst X B at_0 (pc' := 1) rfl (v := (2 : Int32)) (by decide) ?_
  refine g_iloadN X B at_1 (pc' := 2) rfl (v := i0) rfl ?_
  refine g_iconst X B at_2 (pc' := 3) rfl (v := (3 : Int32)) (by decide) ?_
  refine g_iand X B at_3 (pc' := 4) rfl ?_
  refine g_iadd X B at_4 (pc' := 5) rfl ?_
  refine g_istore X B at_5 (pc' := 7) rfl (Ls' := #[.val (.int i0), .val (.int i1), .val (.int i2), .val (.int i3), .val (.int i4), .val (.int i5), .val (.int ((2 : Int32) + (i0 &&& (3 : Int32)))), .unset, .unset, .unset, .unset, .unset, .unset, .unset, .unset, .unset, .unset, .unset, .unset, .unset]) rfl ?_
  obtain ⟨i6, g_i6⟩ : ∃ z, z = ((2 : Int32) + (i0 &&& (3 : Int32))) := ⟨_, rfl⟩
  rw [← g_i6]
  obtain ⟨n, hM, hn2, hn5⟩ := own_m i0
  rw [← g_i6] at hM
  refine g_iconst X B at_7 (pc' := 8) rfl (v := (2 : Int32)) (by decide) ?_
  refine g_iloadN X B at_8 (pc' := 9) rfl (v := i1) rfl ?_
  refine g_bipush X B at_9 (pc' := 11) rfl (v := (15 : Int32)) (by decide) ?_
  refine g_iand X B at_11 (pc' := 12) rfl ?_
  refine g_iadd X B at_12 (pc' := 13) rfl ?_
  refine g_istore X B at_13 (pc' := 15) rfl (Ls' := #[.val (.int i0), .val (.int i1), .val (.int i2), .val (.int i3), .val (.int i4), .val (.int i5), .val (.int i6), .val (.int ((2 : Int32) + (i1 &&& (15 : Int32)))), .unset, .unset, .unset, .unset, .unset, .unset, .unset, .unset, .unset, .unset, .unset, .unset]) rfl ?_
  obtain ⟨i7, g_i7⟩ : ∃ z, z = ((2 : Int32) + (i1 &&& (15 : Int32))) := ⟨_, rfl⟩
  rw [← g_i7]
  have hk2 : 2 ≤ i7.toInt := by rw [g_i7]; exact own_kk i1
  refine g_iloadN X B at_15 (pc' := 16) rfl (v := i2) rfl ?_
  refine g_ldc X B (B.w 0 rfl) at_16 (pc' := 18) rfl ?_
  refine g_iand X B at_18 (pc' := 19) rfl ?_
  refine g_iload X B at_19 (pc' := 21) rfl (v := i7) rfl ?_
  refine g_irem X B (own_k2z hk2) at_21 (pc' := 22) rfl ?_
  refine g_istore X B at_22 (pc' := 24) rfl (Ls' := #[.val (.int i0), .val (.int i1), .val (.int i2), .val (.int i3), .val (.int i4), .val (.int i5), .val (.int i6), .val (.int i7), .val (.int ((i2 &&& (2147483647 : Int32)) % i7)), .unset, .unset, .unset, .unset, .unset, .unset, .unset, .unset, .unset, .unset, .unset]) rfl ?_
  obtain ⟨i8, g_i8⟩ : ∃ z, z = ((i2 &&& (2147483647 : Int32)) % i7) := ⟨_, rfl⟩
  rw [← g_i8]
  refine g_iloadN X B at_24 (pc' := 25) rfl (v := i3) rfl ?_
  refine g_ldc X B (B.w 0 rfl) at_25 (pc' := 27) rfl ?_
  refine g_iand X B at_27 (pc' := 28) rfl ?_
  refine g_iload X B at_28 (pc' := 30) rfl (v := i7) rfl ?_
  refine g_irem X B (own_k2z hk2) at_30 (pc' := 31) rfl ?_
  refine g_istore X B at_31 (pc' := 33) rfl (Ls' := #[.val (.int i0), .val (.int i1), .val (.int i2), .val (.int i3), .val (.int i4), .val (.int i5), .val (.int i6), .val (.int i7), .val (.int i8), .val (.int ((i3 &&& (2147483647 : Int32)) % i7)), .unset, .unset, .unset, .unset, .unset, .unset, .unset, .unset, .unset, .unset]) rfl ?_
  obtain ⟨i9, g_i9⟩ : ∃ z, z = ((i3 &&& (2147483647 : Int32)) % i7) := ⟨_, rfl⟩
  rw [← g_i9]
  refine g_iload X B at_33 (pc' := 35) rfl (v := i4) rfl ?_
  refine g_ldc X B (B.w 0 rfl) at_35 (pc' := 37) rfl ?_
  refine g_iand X B at_37 (pc' := 38) rfl ?_
  refine g_iload X B at_38 (pc' := 40) rfl (v := i7) rfl ?_
  refine g_irem X B (own_k2z hk2) at_40 (pc' := 41) rfl ?_
  refine g_istore X B at_41 (pc' := 43) rfl (Ls' := #[.val (.int i0), .val (.int i1), .val (.int i2), .val (.int i3), .val (.int i4), .val (.int i5), .val (.int i6), .val (.int i7), .val (.int i8), .val (.int i9), .val (.int ((i4 &&& (2147483647 : Int32)) % i7)), .unset, .unset, .unset, .unset, .unset, .unset, .unset, .unset, .unset]) rfl ?_
  obtain ⟨i10, g_i10⟩ : ∃ z, z = ((i4 &&& (2147483647 : Int32)) % i7) := ⟨_, rfl⟩
  rw [← g_i10]
  refine g_iload X B at_43 (pc' := 45) rfl (v := i5) rfl ?_
  refine g_ldc X B (B.w 1 rfl) at_45 (pc' := 47) rfl ?_
  refine g_iand X B at_47 (pc' := 48) rfl ?_
  refine g_iload X B at_48 (pc' := 50) rfl (v := i7) rfl ?_
  refine g_irem X B (own_k2z hk2) at_50 (pc' := 51) rfl ?_
  refine g_istore X B at_51 (pc' := 53) rfl (Ls' := #[.val (.int i0), .val (.int i1), .val (.int i2), .val (.int i3), .val (.int i4), .val (.int i5), .val (.int i6), .val (.int i7), .val (.int i8), .val (.int i9), .val (.int i10), .val (.int ((i5 &&& (65535 : Int32)) % i7)), .unset, .unset, .unset, .unset, .unset, .unset, .unset, .unset]) rfl ?_
  obtain ⟨i11, g_i11⟩ : ∃ z, z = ((i5 &&& (65535 : Int32)) % i7) := ⟨_, rfl⟩
  rw [← g_i11]
  refine g_iload X B at_53 (pc' := 55) rfl (v := i5) rfl ?_
  refine g_bipush X B at_55 (pc' := 57) rfl (v := (16 : Int32)) (by decide) ?_
  refine g_iushr X B at_57 (pc' := 58) rfl (z := ((i5.toUInt32 >>> ((16 : Int32) &&& 31).toUInt32).toInt32)) rfl ?_
  refine g_ldc X B (B.w 1 rfl) at_58 (pc' := 60) rfl ?_
  refine g_iand X B at_60 (pc' := 61) rfl ?_
  refine g_iload X B at_61 (pc' := 63) rfl (v := i7) rfl ?_
  refine g_irem X B (own_k2z hk2) at_63 (pc' := 64) rfl ?_
  refine g_istore X B at_64 (pc' := 66) rfl (Ls' := #[.val (.int i0), .val (.int i1), .val (.int i2), .val (.int i3), .val (.int i4), .val (.int i5), .val (.int i6), .val (.int i7), .val (.int i8), .val (.int i9), .val (.int i10), .val (.int i11), .val (.int ((((i5.toUInt32 >>> ((16 : Int32) &&& 31).toUInt32).toInt32) &&& (65535 : Int32)) % i7)), .unset, .unset, .unset, .unset, .unset, .unset, .unset]) rfl ?_
  obtain ⟨i12, g_i12⟩ : ∃ z, z = ((((i5.toUInt32 >>> ((16 : Int32) &&& 31).toUInt32).toInt32) &&& (65535 : Int32)) % i7) := ⟨_, rfl⟩
  rw [← g_i12]
  refine g_iload X B at_66 (pc' := 68) rfl (v := i6) rfl ?_
  refine g_newA X B (aty := .int) n 5 (B.w 2 rfl) eT hM hn5 (by decide) at_68 (pc' := 70) rfl (by decide) (by decide) (fun T21 h21 o21 q21 X21 e21 E21 A21 => ?_)
  have G_o21 : n0 ≤ o21 := by rw [q21]; exact Zs
  have Zs_21 := Nat.le_trans Zs E21.1
  have A_o21 : Ax Z h21 o21 .int n (fun _ => (.int (0 : Int32))) := A21
  refine g_astore X21 B at_70 (pc' := 72) rfl rfl (Ls' := #[.val (.int i0), .val (.int i1), .val (.int i2), .val (.int i3), .val (.int i4), .val (.int i5), .val (.int i6), .val (.int i7), .val (.int i8), .val (.int i9), .val (.int i10), .val (.int i11), .val (.int i12), .val (.ref o21), .unset, .unset, .unset, .unset, .unset, .unset]) rfl ?_
  refine g_aload X21 B at_72 (pc' := 74) rfl (v := (.ref o21)) rfl rfl ?_
  refine g_iconst X21 B at_74 (pc' := 75) rfl (v := (0 : Int32)) (by decide) ?_
  refine g_iload X21 B at_75 (pc' := 77) rfl (v := i8) rfl ?_
  refine g_iastore X21 B 0 e21 A_o21 (by decide) (by omega) at_77 (pc' := 78) rfl (fun T22 h22 X22 e22 W22 => ?_)
  have N22 := Fr.snoc X22 N G_o21
  have A_o21_22 := A_o21.set W22
  have Zs_22 := Nat.le_trans Zs_21 (Keep.of_wr W22).1
  refine g_aload X22 B at_78 (pc' := 80) rfl (v := (.ref o21)) rfl rfl ?_
  refine g_iconst X22 B at_80 (pc' := 81) rfl (v := (1 : Int32)) (by decide) ?_
  refine g_iload X22 B at_81 (pc' := 83) rfl (v := i9) rfl ?_
  refine g_iastore X22 B 1 e22 A_o21_22 (by decide) (by omega) at_83 (pc' := 84) rfl (fun T23 h23 X23 e23 W23 => ?_)
  have N23 := Fr.snoc X23 N22 G_o21
  have A_o21_23 := A_o21_22.set W23
  have Zs_23 := Nat.le_trans Zs_22 (Keep.of_wr W23).1
  refine g_iload X23 B at_84 (pc' := 86) rfl (v := i6) rfl ?_
  refine g_iconst X23 B at_86 (pc' := 87) rfl (v := (2 : Int32)) (by decide) ?_
  refine g_icmp_le X23 B at_87 (pcT := 96) (pcF := 90) (by decide) rfl rfl (fun c87_0 => ?_) (fun c87_0 => ?_)
  · have hg2 : 2 < n := by rw [Int32.lt_iff_toInt_lt, own_k2] at c87_0; omega
    refine g_aload X23 B at_90 (pc' := 92) rfl (v := (.ref o21)) rfl rfl ?_
    refine g_iconst X23 B at_92 (pc' := 93) rfl (v := (2 : Int32)) (by decide) ?_
    refine g_iload X23 B at_93 (pc' := 95) rfl (v := i10) rfl ?_
    refine g_iastore X23 B 2 e23 A_o21_23 (by decide) (by omega) at_95 (pc' := 96) rfl (fun T24 h24 X24 e24 W24 => ?_)
    have N24 := Fr.snoc X24 N23 G_o21
    have A_o21_24 := A_o21_23.set W24
    have Zs_24 := Nat.le_trans Zs_23 (Keep.of_wr W24).1
    refine g_iload X24 B at_96 (pc' := 98) rfl (v := i6) rfl ?_
    refine g_iconst X24 B at_98 (pc' := 99) rfl (v := (3 : Int32)) (by decide) ?_
    refine g_icmp_le X24 B at_99 (pcT := 108) (pcF := 102) (by decide) rfl rfl (fun c99_1 => ?_) (fun c99_1 => ?_)
    · have hg3 : 3 < n := by rw [Int32.lt_iff_toInt_lt, own_k3] at c99_1; omega
      refine g_aload X24 B at_102 (pc' := 104) rfl (v := (.ref o21)) rfl rfl ?_
      refine g_iconst X24 B at_104 (pc' := 105) rfl (v := (3 : Int32)) (by decide) ?_
      refine g_iload X24 B at_105 (pc' := 107) rfl (v := i11) rfl ?_
      refine g_iastore X24 B 3 e24 A_o21_24 (by decide) (by omega) at_107 (pc' := 108) rfl (fun T25 h25 X25 e25 W25 => ?_)
      have N25 := Fr.snoc X25 N24 G_o21
      have A_o21_25 := A_o21_24.set W25
      have Zs_25 := Nat.le_trans Zs_24 (Keep.of_wr W25).1
      refine g_iload X25 B at_108 (pc' := 110) rfl (v := i6) rfl ?_
      refine g_iconst X25 B at_110 (pc' := 111) rfl (v := (4 : Int32)) (by decide) ?_
      refine g_icmp_le X25 B at_111 (pcT := 120) (pcF := 114) (by decide) rfl rfl (fun c111_2 => ?_) (fun c111_2 => ?_)
      · have hg4 : 4 < n := by rw [Int32.lt_iff_toInt_lt, own_k4] at c111_2; omega
        refine g_aload X25 B at_114 (pc' := 116) rfl (v := (.ref o21)) rfl rfl ?_
        refine g_iconst X25 B at_116 (pc' := 117) rfl (v := (4 : Int32)) (by decide) ?_
        refine g_iload X25 B at_117 (pc' := 119) rfl (v := i12) rfl ?_
        refine g_iastore X25 B 4 e25 A_o21_25 (by decide) (by omega) at_119 (pc' := 120) rfl (fun T26 h26 X26 e26 W26 => ?_)
        have N26 := Fr.snoc X26 N25 G_o21
        have A_o21_26 := A_o21_25.set W26
        have Zs_26 := Nat.le_trans Zs_25 (Keep.of_wr W26).1
        exact law_s120 X26 B e26 n0 Zs_26 N26 (i0) (i1) (i2) (i3) (i4) (i5) (i6) (i7) (i8) (i9) (i10) (i11) (i12) (o21) n _ A_o21_26 G_o21 hM hn2 hn5 hk2 rfl rfl (fun _ => rfl) (fun _ => rfl) (fun _ => rfl)
      · have hl4 : n ≤ 4 := by rw [Int32.lt_iff_toInt_lt, own_k4] at c111_2; omega
        exact law_s120 X25 B e25 n0 Zs_25 N25 (i0) (i1) (i2) (i3) (i4) (i5) (i6) (i7) (i8) (i9) (i10) (i11) (i12) (o21) n _ A_o21_25 G_o21 hM hn2 hn5 hk2 rfl rfl (fun _ => rfl) (fun _ => rfl) (fun q => by omega)
    · have hl3 : n ≤ 3 := by rw [Int32.lt_iff_toInt_lt, own_k3] at c99_1; omega
      refine g_iload X24 B at_108 (pc' := 110) rfl (v := i6) rfl ?_
      refine g_iconst X24 B at_110 (pc' := 111) rfl (v := (4 : Int32)) (by decide) ?_
      refine g_icmp_le X24 B at_111 (pcT := 120) (pcF := 114) (by decide) rfl rfl (fun c111_2 => ?_) (fun c111_2 => ?_)
      · exfalso; simp only [Int32.lt_iff_toInt_lt, own_k4] at c111_2; omega
      · have hl4 : n ≤ 4 := by rw [Int32.lt_iff_toInt_lt, own_k4] at c111_2; omega
        exact law_s120 X24 B e24 n0 Zs_24 N24 (i0) (i1) (i2) (i3) (i4) (i5) (i6) (i7) (i8) (i9) (i10) (i11) (i12) (o21) n _ A_o21_24 G_o21 hM hn2 hn5 hk2 rfl rfl (fun _ => rfl) (fun q => by omega) (fun q => by omega)
  · have hl2 : n ≤ 2 := by rw [Int32.lt_iff_toInt_lt, own_k2] at c87_0; omega
    refine g_iload X23 B at_96 (pc' := 98) rfl (v := i6) rfl ?_
    refine g_iconst X23 B at_98 (pc' := 99) rfl (v := (3 : Int32)) (by decide) ?_
    refine g_icmp_le X23 B at_99 (pcT := 108) (pcF := 102) (by decide) rfl rfl (fun c99_1 => ?_) (fun c99_1 => ?_)
    · exfalso; simp only [Int32.lt_iff_toInt_lt, own_k3] at c99_1; omega
    · have hl3 : n ≤ 3 := by rw [Int32.lt_iff_toInt_lt, own_k3] at c99_1; omega
      refine g_iload X23 B at_108 (pc' := 110) rfl (v := i6) rfl ?_
      refine g_iconst X23 B at_110 (pc' := 111) rfl (v := (4 : Int32)) (by decide) ?_
      refine g_icmp_le X23 B at_111 (pcT := 120) (pcF := 114) (by decide) rfl rfl (fun c111_2 => ?_) (fun c111_2 => ?_)
      · exfalso; simp only [Int32.lt_iff_toInt_lt, own_k4] at c111_2; omega
      · have hl4 : n ≤ 4 := by rw [Int32.lt_iff_toInt_lt, own_k4] at c111_2; omega
        exact law_s120 X23 B e23 n0 Zs_23 N23 (i0) (i1) (i2) (i3) (i4) (i5) (i6) (i7) (i8) (i9) (i10) (i11) (i12) (o21) n _ A_o21_23 G_o21 hM hn2 hn5 hk2 rfl rfl (fun q => by omega) (fun q => by omega) (fun q => by omega)
theorem own_pn_law : plainFor (⟨"com/example/omni_stabilizer/omnistabilizer/protocols/DijkstraRingPrivilegedPinLaw", "law", "(IIIIII)Z"⟩ : MethodName) = true := plainFor_of_name (by first | (simp [plainName, overriddenIn]; done) | decide +kernel)
theorem own_ef_law (m : MethodId) (i0 : Int32) (i1 : Int32) (i2 : Int32) (i3 : Int32) (i4 : Int32) (i5 : Int32) : entryFrame m #[(.int i0), (.int i1), (.int i2), (.int i3), (.int i4), (.int i5)] 20 = (mkF m 0 #[.val (.int i0), .val (.int i1), .val (.int i2), .val (.int i3), .val (.int i4), .val (.int i5), .unset, .unset, .unset, .unset, .unset, .unset, .unset, .unset, .unset, .unset, .unset, .unset, .unset, .unset] []) := by first | (simp [entryFrame, mkF, argsToLocals, Value.category]; done) | rfl
theorem own_rm (l : Launch) (Z : State) (a0 : Array Value) (hw : ∀ d ∈ tables_1, d.before a0 Z = true) (ws : List Jvm.Cond) (h : Heap) (n0 : Nat) (Zs : n0 ≤ h.size) (i0 : Int32) (i1 : Int32) (i2 : Int32) (i3 : Int32) (i4 : Int32) (i5 : Int32)   :
    Met l Z x code maxLocals ret ws room_1 #[(.int i0), (.int i1), (.int i2), (.int i3), (.int i4), (.int i5)] h (fun v _ L => v = some (.int 1) ∧ Fr n0 L) :=
  met_of own_pn_law hw fun p e s m below meth c T X B eT => Go.top (own_ef_law m i0 i1 i2 i3 i4 i5) (law_go X B eT n0 Zs i0 i1 i2 i3 i4 i5 )
set_option maxRecDepth 65536 in
set_option maxHeartbeats 40000000 in
theorem comes_1 {Post : Tables → Env → Array Value → State → Outcome → State → Prop} (hpost : ∀ tb e args s v u, (limb_1_1.after args s (.returned v) u = true ∧ limb_1_2.after args s (.returned v) u = true ∧ True) → FrameEnd s (.returned v) u (Jvm.fieldLocs frame_1_writes args s ++ Jvm.arrayLocs frame_1_arrays args s ++ Jvm.staticLocs frame_1_statics s) 16 128 → Post tb e args s (.returned v) u) :
    ArmFor flags0 classFile x code maxLocals ret World_1 tables_1 room_1 Calls_1 rest_1 Pre_1 Post := by
  intro l hfl _ _ p e ha hc hk s m args below hf hA hF happ hP
  obtain ⟨hcalls, hrest, hpre⟩ := hP
  obtain ⟨-, -, -, hnamed, -, -, -, hat⟩ := (Spec.applies_iff hf).mp happ
  obtain ⟨hg, hn⟩ := and_e (Cond.before_iff.mp (show (Jvm.Cond.and given_1 narrow_1).before args s = true from hpre))
  obtain ⟨h1, g1⟩ := and_e hg
  obtain ⟨k0, g2⟩ := and_e g1
  obtain ⟨k1, g3⟩ := and_e g2
  obtain ⟨k2, g4⟩ := and_e g3
  obtain ⟨k3, g5⟩ := and_e g4
  obtain ⟨k4, g6⟩ := and_e g5
  obtain ⟨w0, w1, w2, w3, w4, w5, rfl⟩ : ∃ w0 w1 w2 w3 w4 w5 : Value, args = #[w0, w1, w2, w3, w4, w5] := by
    have hs : args.size = 6 := by simpa [Cond.value, given_1] using h1
    obtain ⟨L⟩ := args
    match L, hs with
    | [w0, w1, w2, w3, w4, w5], _ => exact ⟨w0, w1, w2, w3, w4, w5, rfl⟩
  have hw := fun d (hd : d ∈ tables_1) => atoms_spec (ws := Jvm.Cond.code x code maxLocals ret :: tables_1) hat d (List.mem_cons_of_mem _ hd)
  obtain ⟨z0, q0⟩ := is_v k0
  obtain rfl : w0 = (.int z0) := Option.some.inj q0
  obtain ⟨z1, q1⟩ := is_v k1
  obtain rfl : w1 = (.int z1) := Option.some.inj q1
  obtain ⟨z2, q2⟩ := is_v k2
  obtain rfl : w2 = (.int z2) := Option.some.inj q2
  obtain ⟨z3, q3⟩ := is_v k3
  obtain rfl : w3 = (.int z3) := Option.some.inj q3
  obtain ⟨z4, q4⟩ := is_v k4
  obtain rfl : w4 = (.int z4) := Option.some.inj q4
  obtain ⟨z5, q5⟩ := is_v g6
  obtain rfl : w5 = (.int z5) := Option.some.inj q5
  obtain ⟨n, o, h1, h2, h3, _, L, rfl, ⟨rfl, N⟩, hq⟩ := own_rm l s _ hw tables_1 s.heap s.heap.size (Nat.le_refl _) z0 z1 z2 z3 z4 z5  p e ha hc hk s m _ below hf ((Spec.applies_iff_loose hf).mp happ).1 ⟨rfl, State.Warmed39.refl s, rfl⟩ trivial
  refine ⟨n, _, h1, h2, h3, hpost _ _ _ _ _ _ ⟨Cond.after_iff.mpr rfl, Cond.after_iff.mpr (eq_i res_at (Term.int_eval (1)) rfl), trivial⟩ ⟨hq.1, hq.2.1, (hq.2.2.sift fun y hy => Or.inr (N y hy)).mono (by decide) (by decide)⟩⟩
theorem main_1_1 : Claimed_1_1 := comes_1 fun _ _ _ _ _ _ h hF => ⟨h.1, hF⟩
theorem main_1_2 : Claimed_1_2 := comes_1 fun _ _ _ _ _ _ h hF => ⟨h.2.1, hF⟩
end Jvm.Pilot.@@N@@
namespace Jvm.Pilot.@@N@@
open Jvm Jvm.ClassFile Sem Op Lib Jvm.Free Jvm.Stand Jvm.Pilot.@@N@@.Jvm.D
/-! MADE BY PROGRAM (witnessworld.py) out of the Statement's table words and the real class files: 10 classes; the members and pool entries that the words name. The judged class is class 1, her method 2. -/
namespace start1
open Jvm.ClassFile
def u (s : String) : CpInfo := .utf8 (stringToUtf16 s)
/-- a pool by its gaps: so many unusable entries, then the entry; so many at the end -/
def gap : Nat → List CpInfo → List CpInfo
  | 0, r => r
  | n + 1, r => .unusable :: gap n r
def poolList (es : List (Nat × CpInfo)) (last : Nat) : List CpInfo := es.foldr (fun e r => gap e.1 (e.2 :: r)) (gap last [])
def pool (es : List (Nat × CpInfo)) (last : Nat) : Array CpInfo := ⟨poolList es last⟩
def fileOf (pool : Array CpInfo) (this : Nat) (attrs : Array Attribute := #[]) (ms : Array MethodInfo := #[]) (fl : Nat := 33) (sup : Nat := 0) (ifs : Array Nat := #[]) (fds : Array FieldInfo := #[]) : ClassFile where
  minorVersion := 0
  majorVersion := 65
  constantPool := pool
  accessFlags := fl
  thisClass := this
  superClass := sup
  interfaces := ifs
  fields := fds
  methods := ms
  attributes := attrs
def plain (name : String) (sup : Option ClassId) : Class where
  name := name
  kind := .ordinary
  loader := none
  accessFlags := 33
  super := sup
  interfaces := #[]
  cf := none
  fields := #[]
  methods := #[]
  instanceTypes := #[]
  staticTypes := #[]
  resolved := #[]
  callSites := []
  init := .initialized
  statics := none
  mirror := none

def pool0 : Array CpInfo := pool [(5, u "<init>"), (0, u "()V"), (1, .class_ 10), (1, u "java/lang/Object")] 113

def k0c0 : Code := { maxStack := 0, maxLocals := 1, code := object_method_1_code, exceptionTable := #[], attributes := #[] }
def k0m0 : Method := { name := "<init>", desc := "()V", sig := { parameters := [], returnType := none }, accessFlags := 1, code := some k0c0 }
/-- java/lang/Object -/
def k0 : Class := { plain "java/lang/Object" none with
  accessFlags := 33
  interfaces := #[]
  cf := some (fileOf pool0 8 #[] #[{ accessFlags := 1, nameIndex := 5, descriptorIndex := 6, attributes := #[] }] 33 0 #[] #[])
  fields := #[]
  methods := #[k0m0]
  instanceTypes := #[]
  staticTypes := #[]
  resolved := Array.replicate 124 none
  statics := none }

def pool1 : Array CpInfo := pool [(2, .class_ 4), (1, u "java/lang/Object"), (0, u "<init>"), (0, u "()V"), (0, .integer 2147483647), (0, .integer 65535), (0, .class_ 10), (0, u "com/example/omni_stabilizer/omnistabilizer/protocols/DijkstraRing"), (0, .methodref 9 12), (0, .nameAndType 5 13), (0, u "(II)V"), (0, .methodref 9 15), (0, .nameAndType 16 17), (0, u "privileged"), (0, u "([II)Z"), (0, .methodref 19 20), (0, .class_ 21), (0, .nameAndType 22 23), (0, u "com/example/omni_stabilizer/omnistabilizer/protocols/DijkstraRingPrivilegedPinLaw"), (0, u "ref"), (0, u "([III)Z"), (3, u "law"), (0, u "(IIIIII)Z")] 4

def k1m0 : Method := { name := "<init>", desc := "()V", sig := { parameters := [], returnType := none }, accessFlags := 1, code := none }
def k1c1 : Code := { maxStack := 3, maxLocals := 5, code := method_2_code, exceptionTable := #[], attributes := #[] }
def k1m1 : Method := { name := "ref", desc := "([III)Z", sig := { parameters := [(.array .int), .int, .int], returnType := some .boolean }, accessFlags := 10, code := some k1c1 }
def k1c2 : Code := { maxStack := 4, maxLocals := 20, code := code, exceptionTable := #[], attributes := #[] }
def k1m2 : Method := { name := "law", desc := "(IIIIII)Z", sig := { parameters := [.int, .int, .int, .int, .int, .int], returnType := some .boolean }, accessFlags := 9, code := some k1c2 }
/-- com/example/omni_stabilizer/omnistabilizer/protocols/DijkstraRingPrivilegedPinLaw -/
def k1 : Class := { plain "com/example/omni_stabilizer/omnistabilizer/protocols/DijkstraRingPrivilegedPinLaw" (some 0) with
  accessFlags := 49
  interfaces := #[]
  cf := some (fileOf pool1 19 #[] #[{ accessFlags := 1, nameIndex := 5, descriptorIndex := 6, attributes := #[] }, { accessFlags := 10, nameIndex := 22, descriptorIndex := 23, attributes := #[] }, { accessFlags := 9, nameIndex := 27, descriptorIndex := 28, attributes := #[] }] 49 2 #[] #[])
  fields := #[]
  methods := #[k1m0, k1m1, k1m2]
  instanceTypes := #[]
  staticTypes := #[]
  resolved := Array.replicate 33 none
  statics := none }

def pool2 : Array CpInfo := pool [(1, .class_ 2), (0, u "com/example/omni_stabilizer/omnistabilizer/statemodel/Protocol"), (0, .class_ 4), (0, u "java/lang/Object")] 14

/-- com/example/omni_stabilizer/omnistabilizer/statemodel/Protocol -/
def k2 : Class := { plain "com/example/omni_stabilizer/omnistabilizer/statemodel/Protocol" (some 0) with
  accessFlags := 1537
  interfaces := #[]
  cf := some (fileOf pool2 1 #[] #[] 1537 3 #[] #[])
  fields := #[]
  methods := #[]
  instanceTypes := #[]
  staticTypes := #[]
  resolved := Array.replicate 19 none
  statics := none }

def pool3 : Array CpInfo := pool [(1, .methodref 2 3), (0, .class_ 4), (0, .nameAndType 5 6), (0, u "java/lang/Object"), (0, u "<init>"), (0, u "()V"), (10, .fieldref 18 19), (0, .class_ 20), (0, .nameAndType 21 22), (0, u "com/example/omni_stabilizer/omnistabilizer/protocols/DijkstraRing"), (0, u "machines"), (0, u "I"), (0, .fieldref 18 24), (0, .nameAndType 25 22), (0, u "k"), (2, u "privileged"), (0, u "([II)Z"), (0, .class_ 31), (0, u "com/example/omni_stabilizer/omnistabilizer/statemodel/Protocol"), (0, u "(II)V")] 34

def k3c0 : Code := { maxStack := 3, maxLocals := 3, code := prog_24_method_1_code, exceptionTable := #[], attributes := #[] }
def k3m0 : Method := { name := "<init>", desc := "(II)V", sig := { parameters := [.int, .int], returnType := none }, accessFlags := 1, code := some k3c0 }
def k3c1 : Code := { maxStack := 4, maxLocals := 3, code := prog_24_method_5_code, exceptionTable := #[], attributes := #[] }
def k3m1 : Method := { name := "privileged", desc := "([II)Z", sig := { parameters := [(.array .int), .int], returnType := some .boolean }, accessFlags := 1, code := some k3c1 }
/-- com/example/omni_stabilizer/omnistabilizer/protocols/DijkstraRing -/
def k3 : Class := { plain "com/example/omni_stabilizer/omnistabilizer/protocols/DijkstraRing" (some 0) with
  accessFlags := 49
  interfaces := #[2]
  cf := some (fileOf pool3 18 #[] #[{ accessFlags := 1, nameIndex := 5, descriptorIndex := 32, attributes := #[] }, { accessFlags := 1, nameIndex := 28, descriptorIndex := 29, attributes := #[] }] 49 2 #[30] #[{ accessFlags := 18, nameIndex := 21, descriptorIndex := 22, attributes := #[] }, { accessFlags := 18, nameIndex := 25, descriptorIndex := 22, attributes := #[] }])
  fields := #[{ name := "machines", type := .int, accessFlags := 18, slot := 0, constantValue := 0 }, { name := "k", type := .int, accessFlags := 18, slot := 1, constantValue := 0 }]
  methods := #[k3m0, k3m1]
  instanceTypes := #[.int, .int]
  staticTypes := #[]
  resolved := Array.replicate 67 none
  statics := none }

def pool4 : Array CpInfo := pool [(1, u "java/lang/Cloneable"), (0, .class_ 1), (0, u "java/lang/Object"), (0, .class_ 3)] 3

/-- java/lang/Cloneable -/
def k4 : Class := { plain "java/lang/Cloneable" (some 0) with
  accessFlags := 1537
  interfaces := #[]
  cf := some (fileOf pool4 2 #[] #[] 1537 4 #[] #[])
  fields := #[]
  methods := #[]
  instanceTypes := #[]
  staticTypes := #[]
  resolved := Array.replicate 8 none
  statics := none }

def pool5 : Array CpInfo := pool [(1, u "java/io/Serializable"), (0, .class_ 1), (0, u "java/lang/Object"), (0, .class_ 3)] 3

/-- java/io/Serializable -/
def k5 : Class := { plain "java/io/Serializable" (some 0) with
  accessFlags := 1537
  interfaces := #[]
  cf := some (fileOf pool5 2 #[] #[] 1537 4 #[] #[])
  fields := #[]
  methods := #[]
  instanceTypes := #[]
  staticTypes := #[]
  resolved := Array.replicate 8 none
  statics := none }

/-- the primitive byte -/
def k6 : Class := { plain "byte" none with kind := .primitive 'B', accessFlags := 0x411 }
/-- [B -/
def k7 : Class := { plain "[B" (some 0) with kind := .array 6 .byte, interfaces := #[4, 5], accessFlags := 1041 }

/-- the primitive int -/
def k8 : Class := { plain "int" none with kind := .primitive 'I', accessFlags := 0x411 }
/-- [I -/
def k9 : Class := { plain "[I" (some 0) with kind := .array 8 .int, interfaces := #[4, 5], accessFlags := 1041 }

def heap : Heap := #[]
def classes : Array Class := #[k0, k1, k2, k3, k4, k5, k6, k7, k8, k9]
def interned : List (Array UInt16 × Addr) := []
def slotsUsed : Nat := 0
def theMethod : MethodId := ⟨1, 2⟩
def args0 : Array Value := #[.int 5, .int 3, .int 7, .int 1, .int 2, .int 9]
def aboutOver (below : List Frame) : State where
  vm := { classes := classes, interned := interned.toArray }
  heap := heap
  slotsUsed := slotsUsed
  threads := #[{ frames := .invoking theMethod args0 :: below }]
def below0 : List Frame := [.native { method := ⟨0, 0⟩, args := #[] }]
def about1 : State := aboutOver below0
def p0 : Program := .bare "" "" ""
def e0 : Env := launch0.env 0 0 0
theorem w_frames : about1.frames = Frame.invoking theMethod args0 :: below0 := rfl
set_option maxRecDepth 65536 in
theorem w_args : argsFit about1.vm theMethod args0 = true := by decide +kernel
set_option maxRecDepth 65536 in
theorem w_heap : heapFits about1 = true := by decide +kernel
set_option maxRecDepth 65536 in
theorem w_runnable : about1.curStatus? = some .runnable := by decide +kernel
set_option maxRecDepth 65536 in
theorem w_alone : about1.alone = true := by decide +kernel
set_option maxRecDepth 65536 in
theorem w_named : about1.methodNamed? x = some theMethod := by decide +kernel
set_option maxRecDepth 65536 in
theorem w_hears : about1.hears theMethod below0 = true := by decide +kernel
set_option maxRecDepth 65536 in
theorem w_ripe : about1.ripe theMethod args0 below0 = true := by decide +kernel
theorem w_running : about1.status = .running := rfl
set_option maxRecDepth 65536 in
theorem w_room : about1.hasRoom e0.platform room_1 = true :=
  launch0.hasRoom_least _ room_1 (by decide +kernel) (by decide +kernel) (by decide +kernel) (by decide +kernel) (by decide +kernel) (by decide +kernel)
theorem allAtoms_all (ts : List Jvm.Cond) (a : Array Jvm.Value) (st : Jvm.State) : (allAtoms ts).before a st = ts.all (fun c => c.before a st) := by
  induction ts with
  | nil => rfl
  | cons c t ih =>
    show (Jvm.Cond.and c (allAtoms t)).before a st = _
    rw [Jvm.Cond.before_and, ih, List.all_cons]
def words1 : List Jvm.Cond := Jvm.Cond.code x code maxLocals ret :: tables_1
/-- a 'code' word, met by the world's own term for the bytes: nothing is compared byte by byte -/
theorem code_word {y : MethodName} {bytes : ByteArray} {mx : Nat} {rt : Option FieldType} {a : Array Value} {s : State} {m : MethodId} {meth : Method} {c : Code} (h1 : s.methodNamed? y = some m) (h2 : s.vm.method? m = some meth) (h3 : meth.code = some c) (h4 : c.code = bytes)
    (h5 : (c.maxLocals == mx && c.exceptionTable.isEmpty && decide (c.maxStack ≤ mostOperands) && decide (meth.sig.returnType = rt) && !meth.locks && decide (parseMethodDescriptor y.desc = some meth.sig)) = true) : (Jvm.Cond.code y bytes mx rt).before a s = true := by
  simp only [Bool.and_eq_true, beq_iff_eq, Bool.not_eq_true', decide_eq_true_eq] at h5
  obtain ⟨⟨⟨⟨⟨g1, g2⟩, g3⟩, g4⟩, g5⟩, g6⟩ := h5
  simp [Cond.before, Cond.holds, Cond.value, h1, h2, h3, h4, g1, g2, g3, g4, g5, g6]
def isCode : Jvm.Cond → Bool
  | .code _ _ _ _ => true
  | _ => false
theorem all_split {L : List Jvm.Cond} {P : Jvm.Cond → Bool} (h1 : L.all (fun c => isCode c || P c) = true) (h2 : ∀ c ∈ L.filter isCode, P c = true) : L.all P = true := by
  refine List.all_eq_true.mpr fun c hc => ?_
  have h := List.all_eq_true.mp h1 c hc
  rcases Bool.eq_false_or_eq_true (isCode c) with hi | hi
  · exact h2 c (List.mem_filter.mpr ⟨hc, hi⟩)
  · simpa [hi] using h
set_option maxRecDepth 65536 in
theorem w_c0 : (Jvm.Cond.code x code maxLocals ret).before args0 about1 = true := code_word (m := ⟨1, 2⟩) (meth := k1m2) (c := k1c2) (by decide +kernel) rfl rfl rfl (by decide +kernel)
set_option maxRecDepth 65536 in
theorem w_c1 : (Jvm.Cond.code ({ cls := "com/example/omni_stabilizer/omnistabilizer/protocols/DijkstraRing", name := "<init>", desc := "(II)V" } : Jvm.MethodName) prog_24_method_1_code (3 : Nat) (Option.none : Option Jvm.ClassFile.FieldType)).before args0 about1 = true := code_word (m := ⟨3, 0⟩) (meth := k3m0) (c := k3c0) (by decide +kernel) rfl rfl rfl (by decide +kernel)
set_option maxRecDepth 65536 in
theorem w_c2 : (Jvm.Cond.code ({ cls := "java/lang/Object", name := "<init>", desc := "()V" } : Jvm.MethodName) object_method_1_code (1 : Nat) (Option.none : Option Jvm.ClassFile.FieldType)).before args0 about1 = true := code_word (m := ⟨0, 0⟩) (meth := k0m0) (c := k0c0) (by decide +kernel) rfl rfl rfl (by decide +kernel)
set_option maxRecDepth 65536 in
theorem w_c3 : (Jvm.Cond.code ({ cls := "com/example/omni_stabilizer/omnistabilizer/protocols/DijkstraRing", name := "privileged", desc := "([II)Z" } : Jvm.MethodName) prog_24_method_5_code (3 : Nat) (Option.some Jvm.ClassFile.FieldType.boolean)).before args0 about1 = true := code_word (m := ⟨3, 1⟩) (meth := k3m1) (c := k3c1) (by decide +kernel) rfl rfl rfl (by decide +kernel)
set_option maxRecDepth 65536 in
theorem w_c4 : (Jvm.Cond.code ({ cls := "com/example/omni_stabilizer/omnistabilizer/protocols/DijkstraRingPrivilegedPinLaw", name := "ref", desc := "([III)Z" } : Jvm.MethodName) method_2_code (5 : Nat) (Option.some Jvm.ClassFile.FieldType.boolean)).before args0 about1 = true := code_word (m := ⟨1, 1⟩) (meth := k1m1) (c := k1c1) (by decide +kernel) rfl rfl rfl (by decide +kernel)
def codes1 : List Jvm.Cond := [Jvm.Cond.code x code maxLocals ret, Jvm.Cond.code ({ cls := "com/example/omni_stabilizer/omnistabilizer/protocols/DijkstraRing", name := "<init>", desc := "(II)V" } : Jvm.MethodName) prog_24_method_1_code (3 : Nat) (Option.none : Option Jvm.ClassFile.FieldType), Jvm.Cond.code ({ cls := "java/lang/Object", name := "<init>", desc := "()V" } : Jvm.MethodName) object_method_1_code (1 : Nat) (Option.none : Option Jvm.ClassFile.FieldType), Jvm.Cond.code ({ cls := "com/example/omni_stabilizer/omnistabilizer/protocols/DijkstraRing", name := "privileged", desc := "([II)Z" } : Jvm.MethodName) prog_24_method_5_code (3 : Nat) (Option.some Jvm.ClassFile.FieldType.boolean), Jvm.Cond.code ({ cls := "com/example/omni_stabilizer/omnistabilizer/protocols/DijkstraRingPrivilegedPinLaw", name := "ref", desc := "([III)Z" } : Jvm.MethodName) method_2_code (5 : Nat) (Option.some Jvm.ClassFile.FieldType.boolean)]
set_option maxRecDepth 65536 in
theorem codes_eq : words1.filter isCode = codes1 := rfl
theorem w_codes : ∀ c ∈ words1.filter isCode, c.before args0 about1 = true := by
  rw [codes_eq]
  intro c hc
  simp only [codes1, List.mem_cons, List.not_mem_nil, or_false] at hc
  rcases hc with rfl | rfl | rfl | rfl | rfl
  · exact w_c0
  · exact w_c1
  · exact w_c2
  · exact w_c3
  · exact w_c4
set_option maxRecDepth 65536 in
theorem w_t1 : (words1.take 24).all (fun c => isCode c || c.before args0 about1) = true := by decide +kernel
set_option maxRecDepth 65536 in
theorem w_t2 : (words1.drop 24).all (fun c => isCode c || c.before args0 about1) = true := by decide +kernel
theorem w_tables : (allAtoms (Jvm.Cond.code x code maxLocals ret :: tables_1)).before args0 about1 = true := by
  rw [allAtoms_all]
  show words1.all (fun c => c.before args0 about1) = true
  refine all_split ?_ w_codes
  rw [← List.take_append_drop 24 words1, List.all_append, w_t1, w_t2]
  rfl
set_option maxRecDepth 65536 in
theorem w_case : (Jvm.Cond.and given_1 narrow_1).before args0 about1 = true := by decide +kernel
theorem w_applies : (headSpec (Jvm.Cond.code x code maxLocals ret :: tables_1) room_1).applies x e0.platform about1 = true :=
  (Spec.applies_iff w_frames).mpr ⟨w_running, w_runnable, w_alone, w_named, w_hears, w_ripe, w_room, w_tables⟩
theorem atStart : AtStart classFile x code maxLocals ret World_1 tables_1 room_1 Calls_1 rest_1 Pre_1 launch0 p0 e0 about1 theMethod args0 below0 :=
  ⟨lists_1, trivial, launch0.admits_env _ _ _, launch0.least_env, fairChoices_fair.cas, fairChoices_fair.clock, w_frames, w_args, w_heap, w_applies, trivial, trivial, w_case⟩
end start1
theorem witness_1 : WitnessClaimed_1 := ⟨start1.p0, start1.e0, start1.about1, start1.theMethod, start1.args0, start1.below0, start1.atStart⟩
end Jvm.Pilot.@@N@@

import JvmDerived
import JvmDerived.Pilot.@@N@@Statement
import JvmDerived.Pilot.@@N@@Code
set_option linter.unusedVariables false
set_option linter.unusedSimpArgs false
namespace Jvm.Pilot.@@N@@
open Jvm Jvm.ClassFile Sem Op Lib Jvm.Free Jvm.Stand Jvm.LawKit Jvm.RoadKit Bundle Jvm.Pilot.@@N@@.Jvm.D
/-! own frame: 'Go': from here the run ends as Q says -/
def Go (p : Program) (e : Env) (below : List Frame) (s : State) (nc ns : Nat) (Q : Option Value → Heap → List Loc → Prop) (u : State) : Prop :=
  ∃ s₂ o, Steps p.tables e below u s₂ ∧ s₂.status = .running ∧ Ended s₂ below o ∧ ∃ v L, o = .returned v ∧ Q v s₂.heap L ∧ FrameEnd s o s₂ L nc ns
/-- what a body's walk stands on -/
def Bdy (p : Program) (s : State) (m : MethodId) (meth : Method) (c : Code) (Z : State) (a0 : Array Value) (own nm : String) (bytes : ByteArray) (maxL : Nat) (rt : Option FieldType) (tabs : List Jvm.Cond) : Prop :=
  p.tables.exec = Jvm.exec ∧ Z.Warmed39 s.vm ∧ (∀ d ∈ tabs, d.before a0 Z = true) ∧ c.code = bytes ∧ c.maxLocals = maxL ∧ s.vm.findClass own = some m.cls ∧ meth.sig.returnType = rt ∧ meth.locks = false ∧ meth.name = nm
def PQ (w : Option Value) (h : Heap) (locs : List Loc) : Option Value → Heap → List Loc → Prop := fun v h' L => v = w ∧ h' = h ∧ L = locs
section GoKit
variable {p : Program} {l : Launch} {e : Env} {R : Room} {s : State} {m : MethodId} {args : Array Value} {below : List Frame} {meth : Method} {c : Code} {T : State} {locs : List Loc} {cells slots : Nat} {Z : State} {a0 : Array Value} {h : Heap} {nc ns : Nat} {Q Q' : Option Value → Heap → List Loc → Prop} {pc pc' : Nat} {Ls Ls' : Array Slot} {St : List Value} {own nm : String} {bytes : ByteArray} {maxL : Nat} {rt : Option FieldType} {tabs : List Jvm.Cond}
theorem Go.step {u u' : State} (st : ∀ t, Steps p.tables e below u' t → Steps p.tables e below u t) (k : Go p e below s nc ns Q u') : Go p e below s nc ns Q u := by
  obtain ⟨s₂, o, h1, h2⟩ := k
  exact ⟨s₂, o, st _ h1, h2⟩
theorem Go.mono {u : State} (q : ∀ v h L, Q v h L → Q' v h L) (k : Go p e below s nc ns Q u) : Go p e below s nc ns Q' u := by
  obtain ⟨s₂, o, h1, h2, h3, v, L, h4, h5, h6⟩ := k
  exact ⟨s₂, o, h1, h2, h3, v, L, h4, q _ _ _ h5, h6⟩
theorem Go.wid {u : State} {nc' ns' : Nat} (q1 : nc ≤ nc') (q2 : ns ≤ ns') (k : Go p e below s nc ns Q u) : Go p e below s nc' ns' Q u := by
  obtain ⟨s₂, o, h1, h2, h3, v, L, h4, h5, h6, h7, h8⟩ := k
  exact ⟨s₂, o, h1, h2, h3, v, L, h4, h5, h6, h7, h8.mono q1 q2⟩
theorem Go.cw {u : State} {w w' : Option Value} (q : w = w') (k : Go p e below s nc ns (PQ w h locs) u) : Go p e below s nc ns (PQ w' h locs) u := q ▸ k
theorem Go.top {g g' : JFrame} (q : g = g') (k : Go p e below s nc ns Q (T.setTop g')) : Go p e below s nc ns Q (T.setTop g) := q ▸ k
theorem Bdy.w (B : Bdy p s m meth c Z a0 own nm bytes maxL rt tabs) {d : Jvm.Cond} (i : Nat) (q : tabs[i]? = some d) : d.before a0 Z = true := B.2.2.1 _ (List.mem_of_getElem? q)
theorem Bdy.d (B : Bdy p s m meth c Z a0 own nm bytes maxL rt tabs) {r : Except ClassFile.DecodeError (ClassFile.Instr × Nat)} (q : decode bytes pc = r) : decode c.code pc = r := hb B.2.2.2.1 q
theorem Bdy.x (B : Bdy p s m meth c Z a0 own nm bytes maxL rt tabs) : p.tables.exec = Jvm.exec := B.1
theorem Bdy.z (B : Bdy p s m meth c Z a0 own nm bytes maxL rt tabs) : Z.Warmed39 s.vm := B.2.1
theorem Bdy.ml (B : Bdy p s m meth c Z a0 own nm bytes maxL rt tabs) : c.maxLocals = maxL := B.2.2.2.2.1
theorem Bdy.o (B : Bdy p s m meth c Z a0 own nm bytes maxL rt tabs) : s.vm.findClass own = some m.cls := B.2.2.2.2.2.1
theorem Bdy.r (B : Bdy p s m meth c Z a0 own nm bytes maxL rt tabs) : meth.sig.returnType = rt := B.2.2.2.2.2.2.1
theorem Bdy.lk (B : Bdy p s m meth c Z a0 own nm bytes maxL rt tabs) : meth.locks = false := B.2.2.2.2.2.2.2.1
theorem Bdy.n (B : Bdy p s m meth c Z a0 own nm bytes maxL rt tabs) : meth.name = nm := B.2.2.2.2.2.2.2.2
theorem g_iloadN (X : Stand p l e R s m args below meth c T locs cells slots) (B : Bdy p s m meth c Z a0 own nm bytes maxL rt tabs) {k : Fin 4} {v : Int32} (hd : decode bytes pc = .ok (.iload_n k, 1)) (hp : pc + 1 = pc') (hl : Ls[k.val]? = some (.val (.int v))) (K : Go p e below s nc ns Q (T.setTop (mkF m pc' Ls (.int v :: St)))) : Go p e below s nc ns Q (T.setTop (mkF m pc Ls St)) := by
  subst hp; exact Go.step (fun t q => XS.iloadN X.here B.x (g := mkF m pc Ls St) rfl (B.d hd) hl q) K
theorem g_iload (X : Stand p l e R s m args below meth c T locs cells slots) (B : Bdy p s m meth c Z a0 own nm bytes maxL rt tabs) {k : Nat} {v : Int32} (hd : decode bytes pc = .ok (.iload k, 2)) (hp : pc + 2 = pc') (hl : Ls[k]? = some (.val (.int v))) (K : Go p e below s nc ns Q (T.setTop (mkF m pc' Ls (.int v :: St)))) : Go p e below s nc ns Q (T.setTop (mkF m pc Ls St)) := by
  subst hp; exact Go.step (fun t q => XS.iload X.here B.x (g := mkF m pc Ls St) rfl (B.d hd) hl q) K
theorem g_lloadN (X : Stand p l e R s m args below meth c T locs cells slots) (B : Bdy p s m meth c Z a0 own nm bytes maxL rt tabs) {k : Fin 4} {v : Int64} (hd : decode bytes pc = .ok (.lload_n k, 1)) (hp : pc + 1 = pc') (hl : Ls[k.val]? = some (.val (.long v))) (K : Go p e below s nc ns Q (T.setTop (mkF m pc' Ls (.long v :: St)))) : Go p e below s nc ns Q (T.setTop (mkF m pc Ls St)) := by
  subst hp; exact Go.step (fun t q => XS.lloadN X.here B.x (g := mkF m pc Ls St) rfl (B.d hd) hl q) K
theorem g_lload (X : Stand p l e R s m args below meth c T locs cells slots) (B : Bdy p s m meth c Z a0 own nm bytes maxL rt tabs) {k : Nat} {v : Int64} (hd : decode bytes pc = .ok (.lload k, 2)) (hp : pc + 2 = pc') (hl : Ls[k]? = some (.val (.long v))) (K : Go p e below s nc ns Q (T.setTop (mkF m pc' Ls (.long v :: St)))) : Go p e below s nc ns Q (T.setTop (mkF m pc Ls St)) := by
  subst hp; exact Go.step (fun t q => XS.lload X.here B.x (g := mkF m pc Ls St) rfl (B.d hd) hl q) K
theorem g_aloadN (X : Stand p l e R s m args below meth c T locs cells slots) (B : Bdy p s m meth c Z a0 own nm bytes maxL rt tabs) {k : Fin 4} {v : Value} (hd : decode bytes pc = .ok (.aload_n k, 1)) (hp : pc + 1 = pc') (hl : Ls[k.val]? = some (.val v)) (hv : v.isRef = true) (K : Go p e below s nc ns Q (T.setTop (mkF m pc' Ls (v :: St)))) : Go p e below s nc ns Q (T.setTop (mkF m pc Ls St)) := by
  subst hp; exact Go.step (fun t q => XS.aloadN X.here B.x (g := mkF m pc Ls St) rfl (B.d hd) hl hv q) K
theorem g_aload (X : Stand p l e R s m args below meth c T locs cells slots) (B : Bdy p s m meth c Z a0 own nm bytes maxL rt tabs) {k : Nat} {v : Value} (hd : decode bytes pc = .ok (.aload k, 2)) (hp : pc + 2 = pc') (hl : Ls[k]? = some (.val v)) (hv : v.isRef = true) (K : Go p e below s nc ns Q (T.setTop (mkF m pc' Ls (v :: St)))) : Go p e below s nc ns Q (T.setTop (mkF m pc Ls St)) := by
  subst hp; exact Go.step (fun t q => XS.aload X.here B.x (g := mkF m pc Ls St) rfl (B.d hd) hl hv q) K
theorem g_istoreN (X : Stand p l e R s m args below meth c T locs cells slots) (B : Bdy p s m meth c Z a0 own nm bytes maxL rt tabs) {k : Fin 4} {v : Int32} (hd : decode bytes pc = .ok (.istore_n k, 1)) (hp : pc + 1 = pc') (hl : storeLocals Ls k.val (.int v) = some Ls') (K : Go p e below s nc ns Q (T.setTop (mkF m pc' Ls' St))) : Go p e below s nc ns Q (T.setTop (mkF m pc Ls (.int v :: St))) := by
  subst hp; exact Go.step (fun t q => XS.istoreN X.here B.x (g := mkF m pc Ls (.int v :: St)) rfl (B.d hd) rfl hl q) K
theorem g_istore (X : Stand p l e R s m args below meth c T locs cells slots) (B : Bdy p s m meth c Z a0 own nm bytes maxL rt tabs) {k : Nat} {v : Int32} (hd : decode bytes pc = .ok (.istore k, 2)) (hp : pc + 2 = pc') (hl : storeLocals Ls k (.int v) = some Ls') (K : Go p e below s nc ns Q (T.setTop (mkF m pc' Ls' St))) : Go p e below s nc ns Q (T.setTop (mkF m pc Ls (.int v :: St))) := by
  subst hp; exact Go.step (fun t q => XS.istore X.here B.x (g := mkF m pc Ls (.int v :: St)) rfl (B.d hd) rfl hl q) K
theorem g_lstoreN (X : Stand p l e R s m args below meth c T locs cells slots) (B : Bdy p s m meth c Z a0 own nm bytes maxL rt tabs) {k : Fin 4} {v : Int64} (hd : decode bytes pc = .ok (.lstore_n k, 1)) (hp : pc + 1 = pc') (hl : storeLocals Ls k.val (.long v) = some Ls') (K : Go p e below s nc ns Q (T.setTop (mkF m pc' Ls' St))) : Go p e below s nc ns Q (T.setTop (mkF m pc Ls (.long v :: St))) := by
  subst hp; exact Go.step (fun t q => XS.lstoreN X.here B.x (g := mkF m pc Ls (.long v :: St)) rfl (B.d hd) rfl hl q) K
theorem g_lstore (X : Stand p l e R s m args below meth c T locs cells slots) (B : Bdy p s m meth c Z a0 own nm bytes maxL rt tabs) {k : Nat} {v : Int64} (hd : decode bytes pc = .ok (.lstore k, 2)) (hp : pc + 2 = pc') (hl : storeLocals Ls k (.long v) = some Ls') (K : Go p e below s nc ns Q (T.setTop (mkF m pc' Ls' St))) : Go p e below s nc ns Q (T.setTop (mkF m pc Ls (.long v :: St))) := by
  subst hp; exact Go.step (fun t q => XS.lstore X.here B.x (g := mkF m pc Ls (.long v :: St)) rfl (B.d hd) rfl hl q) K
theorem g_astoreN (X : Stand p l e R s m args below meth c T locs cells slots) (B : Bdy p s m meth c Z a0 own nm bytes maxL rt tabs) {k : Fin 4} {v : Value} (hd : decode bytes pc = .ok (.astore_n k, 1)) (hp : pc + 1 = pc') (hv : v.isRef = true) (hl : storeLocals Ls k.val v = some Ls') (K : Go p e below s nc ns Q (T.setTop (mkF m pc' Ls' St))) : Go p e below s nc ns Q (T.setTop (mkF m pc Ls (v :: St))) := by
  subst hp; exact Go.step (fun t q => XS.astoreN X.here B.x (g := mkF m pc Ls (v :: St)) rfl (B.d hd) rfl hv hl q) K
theorem g_astore (X : Stand p l e R s m args below meth c T locs cells slots) (B : Bdy p s m meth c Z a0 own nm bytes maxL rt tabs) {k : Nat} {v : Value} (hd : decode bytes pc = .ok (.astore k, 2)) (hp : pc + 2 = pc') (hv : v.isRef = true) (hl : storeLocals Ls k v = some Ls') (K : Go p e below s nc ns Q (T.setTop (mkF m pc' Ls' St))) : Go p e below s nc ns Q (T.setTop (mkF m pc Ls (v :: St))) := by
  subst hp; exact Go.step (fun t q => XS.astore X.here B.x (g := mkF m pc Ls (v :: St)) rfl (B.d hd) rfl hv hl q) K
theorem g_iinc (X : Stand p l e R s m args below meth c T locs cells slots) (B : Bdy p s m meth c Z a0 own nm bytes maxL rt tabs) {k : Nat} {i : Int} {v : Int32} (hd : decode bytes pc = .ok (.iinc k i, 3)) (hp : pc + 3 = pc') (hl : Ls[k]? = some (.val (.int v))) (hs : storeLocals Ls k (.int (v + Int32.ofInt i)) = some Ls') (K : Go p e below s nc ns Q (T.setTop (mkF m pc' Ls' St))) : Go p e below s nc ns Q (T.setTop (mkF m pc Ls St)) := by
  subst hp; exact Go.step (fun t q => XS.iinc X.here B.x (g := mkF m pc Ls St) rfl (B.d hd) hl hs q) K
theorem g_iconst (X : Stand p l e R s m args below meth c T locs cells slots) (B : Bdy p s m meth c Z a0 own nm bytes maxL rt tabs) {i : Int} {v : Int32} (hd : decode bytes pc = .ok (.iconst i, 1)) (hp : pc + 1 = pc') (hv : Int32.ofInt i = v) (K : Go p e below s nc ns Q (T.setTop (mkF m pc' Ls (.int v :: St)))) : Go p e below s nc ns Q (T.setTop (mkF m pc Ls St)) := by
  subst hp hv; exact Go.step (fun t q => XS.iconst X.here B.x (g := mkF m pc Ls St) rfl (B.d hd) q) K
theorem g_bipush (X : Stand p l e R s m args below meth c T locs cells slots) (B : Bdy p s m meth c Z a0 own nm bytes maxL rt tabs) {i : Int} {v : Int32} (hd : decode bytes pc = .ok (.bipush i, 2)) (hp : pc + 2 = pc') (hv : (Int8.ofInt i).toInt32 = v) (K : Go p e below s nc ns Q (T.setTop (mkF m pc' Ls (.int v :: St)))) : Go p e below s nc ns Q (T.setTop (mkF m pc Ls St)) := by
  subst hp hv; exact Go.step (fun t q => XS.bipush X.here B.x (g := mkF m pc Ls St) rfl (B.d hd) q) K
theorem g_sipush (X : Stand p l e R s m args below meth c T locs cells slots) (B : Bdy p s m meth c Z a0 own nm bytes maxL rt tabs) {i : Int} {v : Int32} (hd : decode bytes pc = .ok (.sipush i, 3)) (hp : pc + 3 = pc') (hv : (Int16.ofInt i).toInt32 = v) (K : Go p e below s nc ns Q (T.setTop (mkF m pc' Ls (.int v :: St)))) : Go p e below s nc ns Q (T.setTop (mkF m pc Ls St)) := by
  subst hp hv; exact Go.step (fun t q => XS.sipush X.here B.x (g := mkF m pc Ls St) rfl (B.d hd) q) K
theorem g_lconst (X : Stand p l e R s m args below meth c T locs cells slots) (B : Bdy p s m meth c Z a0 own nm bytes maxL rt tabs) {k : Fin 2} {v : Int64} (hd : decode bytes pc = .ok (.lconst k, 1)) (hp : pc + 1 = pc') (hv : Int64.ofNat k = v) (K : Go p e below s nc ns Q (T.setTop (mkF m pc' Ls (.long v :: St)))) : Go p e below s nc ns Q (T.setTop (mkF m pc Ls St)) := by
  subst hp hv; exact Go.step (fun t q => XS.lconst X.here B.x (g := mkF m pc Ls St) rfl (B.d hd) q) K
theorem g_null (X : Stand p l e R s m args below meth c T locs cells slots) (B : Bdy p s m meth c Z a0 own nm bytes maxL rt tabs) (hd : decode bytes pc = .ok (.aconst_null, 1)) (hp : pc + 1 = pc') (K : Go p e below s nc ns Q (T.setTop (mkF m pc' Ls (.null :: St)))) : Go p e below s nc ns Q (T.setTop (mkF m pc Ls St)) := by
  subst hp; exact Go.step (fun t q => XS.aconstNull X.here B.x (g := mkF m pc Ls St) rfl (B.d hd) q) K
theorem g_ldc (X : Stand p l e R s m args below meth c T locs cells slots) (B : Bdy p s m meth c Z a0 own nm bytes maxL rt tabs) {i : Nat} {v : Int32} (w : (Jvm.Cond.constant own i v).before a0 Z = true) (hd : decode bytes pc = .ok (.ldc i, 2)) (hp : pc + 2 = pc') (K : Go p e below s nc ns Q (T.setTop (mkF m pc' Ls (.int v :: St)))) : Go p e below s nc ns Q (T.setTop (mkF m pc Ls St)) := by
  subst hp; exact Go.step (fun t q => X.ldcInt B.x B.o (mvT B.z w) (g := mkF m pc Ls St) rfl (B.d hd) t q) K
theorem g_ldcw (X : Stand p l e R s m args below meth c T locs cells slots) (B : Bdy p s m meth c Z a0 own nm bytes maxL rt tabs) {i : Nat} {v : Int32} (w : (Jvm.Cond.constant own i v).before a0 Z = true) (hd : decode bytes pc = .ok (.ldc_w i, 3)) (hp : pc + 3 = pc') (K : Go p e below s nc ns Q (T.setTop (mkF m pc' Ls (.int v :: St)))) : Go p e below s nc ns Q (T.setTop (mkF m pc Ls St)) := by
  subst hp; exact Go.step (fun t q => X.ldcwInt B.x B.o (mvT B.z w) (g := mkF m pc Ls St) rfl (B.d hd) t q) K
theorem g_ldc2 (X : Stand p l e R s m args below meth c T locs cells slots) (B : Bdy p s m meth c Z a0 own nm bytes maxL rt tabs) {i : Nat} {v : Int64} (w : (Jvm.Cond.constantLong own i v).before a0 Z = true) (hd : decode bytes pc = .ok (.ldc2_w i, 3)) (hp : pc + 3 = pc') (K : Go p e below s nc ns Q (T.setTop (mkF m pc' Ls (.long v :: St)))) : Go p e below s nc ns Q (T.setTop (mkF m pc Ls St)) := by
  subst hp; exact Go.step (fun t q => X.ldc2Long B.x B.o (mvT B.z w) (g := mkF m pc Ls St) rfl (B.d hd) t q) K
theorem g_iadd (X : Stand p l e R s m args below meth c T locs cells slots) (B : Bdy p s m meth c Z a0 own nm bytes maxL rt tabs) {x y : Int32} (hd : decode bytes pc = .ok (.iadd, 1)) (hp : pc + 1 = pc') (K : Go p e below s nc ns Q (T.setTop (mkF m pc' Ls (.int (x + y) :: St)))) : Go p e below s nc ns Q (T.setTop (mkF m pc Ls (.int y :: .int x :: St))) := by
  subst hp; exact Go.step (fun t q => XS.iadd X.here B.x (g := mkF m pc Ls (.int y :: .int x :: St)) rfl (B.d hd) rfl q) K
theorem g_isub (X : Stand p l e R s m args below meth c T locs cells slots) (B : Bdy p s m meth c Z a0 own nm bytes maxL rt tabs) {x y : Int32} (hd : decode bytes pc = .ok (.isub, 1)) (hp : pc + 1 = pc') (K : Go p e below s nc ns Q (T.setTop (mkF m pc' Ls (.int (x - y) :: St)))) : Go p e below s nc ns Q (T.setTop (mkF m pc Ls (.int y :: .int x :: St))) := by
  subst hp; exact Go.step (fun t q => XS.isub X.here B.x (g := mkF m pc Ls (.int y :: .int x :: St)) rfl (B.d hd) rfl q) K
theorem g_imul (X : Stand p l e R s m args below meth c T locs cells slots) (B : Bdy p s m meth c Z a0 own nm bytes maxL rt tabs) {x y : Int32} (hd : decode bytes pc = .ok (.imul, 1)) (hp : pc + 1 = pc') (K : Go p e below s nc ns Q (T.setTop (mkF m pc' Ls (.int (x * y) :: St)))) : Go p e below s nc ns Q (T.setTop (mkF m pc Ls (.int y :: .int x :: St))) := by
  subst hp; exact Go.step (fun t q => XS.imul X.here B.x (g := mkF m pc Ls (.int y :: .int x :: St)) rfl (B.d hd) rfl q) K
theorem g_iand (X : Stand p l e R s m args below meth c T locs cells slots) (B : Bdy p s m meth c Z a0 own nm bytes maxL rt tabs) {x y : Int32} (hd : decode bytes pc = .ok (.iand, 1)) (hp : pc + 1 = pc') (K : Go p e below s nc ns Q (T.setTop (mkF m pc' Ls (.int (x &&& y) :: St)))) : Go p e below s nc ns Q (T.setTop (mkF m pc Ls (.int y :: .int x :: St))) := by
  subst hp; exact Go.step (fun t q => XS.iand X.here B.x (g := mkF m pc Ls (.int y :: .int x :: St)) rfl (B.d hd) rfl q) K
theorem g_ior (X : Stand p l e R s m args below meth c T locs cells slots) (B : Bdy p s m meth c Z a0 own nm bytes maxL rt tabs) {x y : Int32} (hd : decode bytes pc = .ok (.ior, 1)) (hp : pc + 1 = pc') (K : Go p e below s nc ns Q (T.setTop (mkF m pc' Ls (.int (x ||| y) :: St)))) : Go p e below s nc ns Q (T.setTop (mkF m pc Ls (.int y :: .int x :: St))) := by
  subst hp; exact Go.step (fun t q => XS.ior X.here B.x (g := mkF m pc Ls (.int y :: .int x :: St)) rfl (B.d hd) rfl q) K
theorem g_ixor (X : Stand p l e R s m args below meth c T locs cells slots) (B : Bdy p s m meth c Z a0 own nm bytes maxL rt tabs) {x y : Int32} (hd : decode bytes pc = .ok (.ixor, 1)) (hp : pc + 1 = pc') (K : Go p e below s nc ns Q (T.setTop (mkF m pc' Ls (.int (x ^^^ y) :: St)))) : Go p e below s nc ns Q (T.setTop (mkF m pc Ls (.int y :: .int x :: St))) := by
  subst hp; exact Go.step (fun t q => XS.ixor X.here B.x (g := mkF m pc Ls (.int y :: .int x :: St)) rfl (B.d hd) rfl q) K
theorem g_ishl (X : Stand p l e R s m args below meth c T locs cells slots) (B : Bdy p s m meth c Z a0 own nm bytes maxL rt tabs) {x z : Int32} {y : Int32} (hd : decode bytes pc = .ok (.ishl, 1)) (hp : pc + 1 = pc') (hz : x <<< (y &&& 31) = z) (K : Go p e below s nc ns Q (T.setTop (mkF m pc' Ls (.int z :: St)))) : Go p e below s nc ns Q (T.setTop (mkF m pc Ls (.int y :: .int x :: St))) := by
  subst hp hz; exact Go.step (fun t q => XS.ishl X.here B.x (g := mkF m pc Ls (.int y :: .int x :: St)) rfl (B.d hd) rfl q) K
theorem g_ishr (X : Stand p l e R s m args below meth c T locs cells slots) (B : Bdy p s m meth c Z a0 own nm bytes maxL rt tabs) {x z : Int32} {y : Int32} (hd : decode bytes pc = .ok (.ishr, 1)) (hp : pc + 1 = pc') (hz : x >>> (y &&& 31) = z) (K : Go p e below s nc ns Q (T.setTop (mkF m pc' Ls (.int z :: St)))) : Go p e below s nc ns Q (T.setTop (mkF m pc Ls (.int y :: .int x :: St))) := by
  subst hp hz; exact Go.step (fun t q => XS.ishr X.here B.x (g := mkF m pc Ls (.int y :: .int x :: St)) rfl (B.d hd) rfl q) K
theorem g_iushr (X : Stand p l e R s m args below meth c T locs cells slots) (B : Bdy p s m meth c Z a0 own nm bytes maxL rt tabs) {x z : Int32} {y : Int32} (hd : decode bytes pc = .ok (.iushr, 1)) (hp : pc + 1 = pc') (hz : (x.toUInt32 >>> (y &&& 31).toUInt32).toInt32 = z) (K : Go p e below s nc ns Q (T.setTop (mkF m pc' Ls (.int z :: St)))) : Go p e below s nc ns Q (T.setTop (mkF m pc Ls (.int y :: .int x :: St))) := by
  subst hp hz; exact Go.step (fun t q => XS.iushr X.here B.x (g := mkF m pc Ls (.int y :: .int x :: St)) rfl (B.d hd) rfl q) K
theorem g_ladd (X : Stand p l e R s m args below meth c T locs cells slots) (B : Bdy p s m meth c Z a0 own nm bytes maxL rt tabs) {x y : Int64} (hd : decode bytes pc = .ok (.ladd, 1)) (hp : pc + 1 = pc') (K : Go p e below s nc ns Q (T.setTop (mkF m pc' Ls (.long (x + y) :: St)))) : Go p e below s nc ns Q (T.setTop (mkF m pc Ls (.long y :: .long x :: St))) := by
  subst hp; exact Go.step (fun t q => XS.ladd X.here B.x (g := mkF m pc Ls (.long y :: .long x :: St)) rfl (B.d hd) rfl q) K
theorem g_lsub (X : Stand p l e R s m args below meth c T locs cells slots) (B : Bdy p s m meth c Z a0 own nm bytes maxL rt tabs) {x y : Int64} (hd : decode bytes pc = .ok (.lsub, 1)) (hp : pc + 1 = pc') (K : Go p e below s nc ns Q (T.setTop (mkF m pc' Ls (.long (x - y) :: St)))) : Go p e below s nc ns Q (T.setTop (mkF m pc Ls (.long y :: .long x :: St))) := by
  subst hp; exact Go.step (fun t q => XS.lsub X.here B.x (g := mkF m pc Ls (.long y :: .long x :: St)) rfl (B.d hd) rfl q) K
theorem g_lmul (X : Stand p l e R s m args below meth c T locs cells slots) (B : Bdy p s m meth c Z a0 own nm bytes maxL rt tabs) {x y : Int64} (hd : decode bytes pc = .ok (.lmul, 1)) (hp : pc + 1 = pc') (K : Go p e below s nc ns Q (T.setTop (mkF m pc' Ls (.long (x * y) :: St)))) : Go p e below s nc ns Q (T.setTop (mkF m pc Ls (.long y :: .long x :: St))) := by
  subst hp; exact Go.step (fun t q => XS.lmul X.here B.x (g := mkF m pc Ls (.long y :: .long x :: St)) rfl (B.d hd) rfl q) K
theorem g_land (X : Stand p l e R s m args below meth c T locs cells slots) (B : Bdy p s m meth c Z a0 own nm bytes maxL rt tabs) {x y : Int64} (hd : decode bytes pc = .ok (.land, 1)) (hp : pc + 1 = pc') (K : Go p e below s nc ns Q (T.setTop (mkF m pc' Ls (.long (x &&& y) :: St)))) : Go p e below s nc ns Q (T.setTop (mkF m pc Ls (.long y :: .long x :: St))) := by
  subst hp; exact Go.step (fun t q => XS.land X.here B.x (g := mkF m pc Ls (.long y :: .long x :: St)) rfl (B.d hd) rfl q) K
theorem g_lor (X : Stand p l e R s m args below meth c T locs cells slots) (B : Bdy p s m meth c Z a0 own nm bytes maxL rt tabs) {x y : Int64} (hd : decode bytes pc = .ok (.lor, 1)) (hp : pc + 1 = pc') (K : Go p e below s nc ns Q (T.setTop (mkF m pc' Ls (.long (x ||| y) :: St)))) : Go p e below s nc ns Q (T.setTop (mkF m pc Ls (.long y :: .long x :: St))) := by
  subst hp; exact Go.step (fun t q => XS.lor X.here B.x (g := mkF m pc Ls (.long y :: .long x :: St)) rfl (B.d hd) rfl q) K
theorem g_lxor (X : Stand p l e R s m args below meth c T locs cells slots) (B : Bdy p s m meth c Z a0 own nm bytes maxL rt tabs) {x y : Int64} (hd : decode bytes pc = .ok (.lxor, 1)) (hp : pc + 1 = pc') (K : Go p e below s nc ns Q (T.setTop (mkF m pc' Ls (.long (x ^^^ y) :: St)))) : Go p e below s nc ns Q (T.setTop (mkF m pc Ls (.long y :: .long x :: St))) := by
  subst hp; exact Go.step (fun t q => XS.lxor X.here B.x (g := mkF m pc Ls (.long y :: .long x :: St)) rfl (B.d hd) rfl q) K
theorem g_lshl (X : Stand p l e R s m args below meth c T locs cells slots) (B : Bdy p s m meth c Z a0 own nm bytes maxL rt tabs) {x z : Int64} {y : Int32} (hd : decode bytes pc = .ok (.lshl, 1)) (hp : pc + 1 = pc') (hz : x <<< (y &&& 63).toInt64 = z) (K : Go p e below s nc ns Q (T.setTop (mkF m pc' Ls (.long z :: St)))) : Go p e below s nc ns Q (T.setTop (mkF m pc Ls (.int y :: .long x :: St))) := by
  subst hp hz; exact Go.step (fun t q => XS.lshl X.here B.x (g := mkF m pc Ls (.int y :: .long x :: St)) rfl (B.d hd) rfl q) K
theorem g_lshr (X : Stand p l e R s m args below meth c T locs cells slots) (B : Bdy p s m meth c Z a0 own nm bytes maxL rt tabs) {x z : Int64} {y : Int32} (hd : decode bytes pc = .ok (.lshr, 1)) (hp : pc + 1 = pc') (hz : x >>> (y &&& 63).toInt64 = z) (K : Go p e below s nc ns Q (T.setTop (mkF m pc' Ls (.long z :: St)))) : Go p e below s nc ns Q (T.setTop (mkF m pc Ls (.int y :: .long x :: St))) := by
  subst hp hz; exact Go.step (fun t q => XS.lshr X.here B.x (g := mkF m pc Ls (.int y :: .long x :: St)) rfl (B.d hd) rfl q) K
theorem g_lushr (X : Stand p l e R s m args below meth c T locs cells slots) (B : Bdy p s m meth c Z a0 own nm bytes maxL rt tabs) {x z : Int64} {y : Int32} (hd : decode bytes pc = .ok (.lushr, 1)) (hp : pc + 1 = pc') (hz : (x.toUInt64 >>> (y &&& 63).toInt64.toUInt64).toInt64 = z) (K : Go p e below s nc ns Q (T.setTop (mkF m pc' Ls (.long z :: St)))) : Go p e below s nc ns Q (T.setTop (mkF m pc Ls (.int y :: .long x :: St))) := by
  subst hp hz; exact Go.step (fun t q => XS.lushr X.here B.x (g := mkF m pc Ls (.int y :: .long x :: St)) rfl (B.d hd) rfl q) K
theorem g_ineg (X : Stand p l e R s m args below meth c T locs cells slots) (B : Bdy p s m meth c Z a0 own nm bytes maxL rt tabs) {x : Int32} (hd : decode bytes pc = .ok (.ineg, 1)) (hp : pc + 1 = pc') (K : Go p e below s nc ns Q (T.setTop (mkF m pc' Ls (.int ((-x)) :: St)))) : Go p e below s nc ns Q (T.setTop (mkF m pc Ls (.int x :: St))) := by
  subst hp; exact Go.step (fun t q => XS.ineg X.here B.x (g := mkF m pc Ls (.int x :: St)) rfl (B.d hd) rfl q) K
theorem g_lneg (X : Stand p l e R s m args below meth c T locs cells slots) (B : Bdy p s m meth c Z a0 own nm bytes maxL rt tabs) {x : Int64} (hd : decode bytes pc = .ok (.lneg, 1)) (hp : pc + 1 = pc') (K : Go p e below s nc ns Q (T.setTop (mkF m pc' Ls (.long ((-x)) :: St)))) : Go p e below s nc ns Q (T.setTop (mkF m pc Ls (.long x :: St))) := by
  subst hp; exact Go.step (fun t q => XS.lneg X.here B.x (g := mkF m pc Ls (.long x :: St)) rfl (B.d hd) rfl q) K
theorem g_i2l (X : Stand p l e R s m args below meth c T locs cells slots) (B : Bdy p s m meth c Z a0 own nm bytes maxL rt tabs) {x : Int32} (hd : decode bytes pc = .ok (.i2l, 1)) (hp : pc + 1 = pc') (K : Go p e below s nc ns Q (T.setTop (mkF m pc' Ls (.long (x.toInt64) :: St)))) : Go p e below s nc ns Q (T.setTop (mkF m pc Ls (.int x :: St))) := by
  subst hp; exact Go.step (fun t q => XS.i2l X.here B.x (g := mkF m pc Ls (.int x :: St)) rfl (B.d hd) rfl q) K
theorem g_l2i (X : Stand p l e R s m args below meth c T locs cells slots) (B : Bdy p s m meth c Z a0 own nm bytes maxL rt tabs) {x : Int64} (hd : decode bytes pc = .ok (.l2i, 1)) (hp : pc + 1 = pc') (K : Go p e below s nc ns Q (T.setTop (mkF m pc' Ls (.int (x.toInt32) :: St)))) : Go p e below s nc ns Q (T.setTop (mkF m pc Ls (.long x :: St))) := by
  subst hp; exact Go.step (fun t q => XS.l2i X.here B.x (g := mkF m pc Ls (.long x :: St)) rfl (B.d hd) rfl q) K
theorem g_i2b (X : Stand p l e R s m args below meth c T locs cells slots) (B : Bdy p s m meth c Z a0 own nm bytes maxL rt tabs) {x : Int32} (hd : decode bytes pc = .ok (.i2b, 1)) (hp : pc + 1 = pc') (K : Go p e below s nc ns Q (T.setTop (mkF m pc' Ls (.int (x.toInt8.toInt32) :: St)))) : Go p e below s nc ns Q (T.setTop (mkF m pc Ls (.int x :: St))) := by
  subst hp; exact Go.step (fun t q => XS.i2b X.here B.x (g := mkF m pc Ls (.int x :: St)) rfl (B.d hd) rfl q) K
theorem g_i2s (X : Stand p l e R s m args below meth c T locs cells slots) (B : Bdy p s m meth c Z a0 own nm bytes maxL rt tabs) {x : Int32} (hd : decode bytes pc = .ok (.i2s, 1)) (hp : pc + 1 = pc') (K : Go p e below s nc ns Q (T.setTop (mkF m pc' Ls (.int (x.toInt16.toInt32) :: St)))) : Go p e below s nc ns Q (T.setTop (mkF m pc Ls (.int x :: St))) := by
  subst hp; exact Go.step (fun t q => XS.i2s X.here B.x (g := mkF m pc Ls (.int x :: St)) rfl (B.d hd) rfl q) K
theorem g_i2c (X : Stand p l e R s m args below meth c T locs cells slots) (B : Bdy p s m meth c Z a0 own nm bytes maxL rt tabs) {x : Int32} (hd : decode bytes pc = .ok (.i2c, 1)) (hp : pc + 1 = pc') (K : Go p e below s nc ns Q (T.setTop (mkF m pc' Ls (.int (x.toUInt32.toUInt16.toUInt32.toInt32) :: St)))) : Go p e below s nc ns Q (T.setTop (mkF m pc Ls (.int x :: St))) := by
  subst hp; exact Go.step (fun t q => XS.i2c X.here B.x (g := mkF m pc Ls (.int x :: St)) rfl (B.d hd) rfl q) K
theorem g_irem (X : Stand p l e R s m args below meth c T locs cells slots) (B : Bdy p s m meth c Z a0 own nm bytes maxL rt tabs) {x y : Int32} (hy : y ≠ 0) (hd : decode bytes pc = .ok (.irem, 1)) (hp : pc + 1 = pc') (K : Go p e below s nc ns Q (T.setTop (mkF m pc' Ls (.int (x % y) :: St)))) : Go p e below s nc ns Q (T.setTop (mkF m pc Ls (.int y :: .int x :: St))) := by
  subst hp; exact Go.step (fun t q => Jvm.RoadKit.iremM X B.x (g := mkF m pc Ls (.int y :: .int x :: St)) rfl (B.d hd) rfl hy q) K
theorem g_idiv (X : Stand p l e R s m args below meth c T locs cells slots) (B : Bdy p s m meth c Z a0 own nm bytes maxL rt tabs) {x y : Int32} (hy : y ≠ 0) (hd : decode bytes pc = .ok (.idiv, 1)) (hp : pc + 1 = pc') (K : Go p e below s nc ns Q (T.setTop (mkF m pc' Ls (.int (x / y) :: St)))) : Go p e below s nc ns Q (T.setTop (mkF m pc Ls (.int y :: .int x :: St))) := by
  subst hp; exact Go.step (fun t q => XS.idiv X.here B.x (g := mkF m pc Ls (.int y :: .int x :: St)) rfl (B.d hd) rfl hy q) K
theorem g_ldiv (X : Stand p l e R s m args below meth c T locs cells slots) (B : Bdy p s m meth c Z a0 own nm bytes maxL rt tabs) {x y : Int64} (hy : y ≠ 0) (hd : decode bytes pc = .ok (.ldiv, 1)) (hp : pc + 1 = pc') (K : Go p e below s nc ns Q (T.setTop (mkF m pc' Ls (.long (x / y) :: St)))) : Go p e below s nc ns Q (T.setTop (mkF m pc Ls (.long y :: .long x :: St))) := by
  subst hp; exact Go.step (fun t q => XS.ldiv X.here B.x (g := mkF m pc Ls (.long y :: .long x :: St)) rfl (B.d hd) rfl hy q) K
theorem g_lrem (X : Stand p l e R s m args below meth c T locs cells slots) (B : Bdy p s m meth c Z a0 own nm bytes maxL rt tabs) {x y : Int64} (hy : y ≠ 0) (hd : decode bytes pc = .ok (.lrem, 1)) (hp : pc + 1 = pc') (K : Go p e below s nc ns Q (T.setTop (mkF m pc' Ls (.long (x % y) :: St)))) : Go p e below s nc ns Q (T.setTop (mkF m pc Ls (.long y :: .long x :: St))) := by
  subst hp; rw [← lrem_mod] at K; exact Go.step (fun t q => XS.lrem X.here B.x (g := mkF m pc Ls (.long y :: .long x :: St)) rfl (B.d hd) rfl hy q) K
theorem g_dup (X : Stand p l e R s m args below meth c T locs cells slots) (B : Bdy p s m meth c Z a0 own nm bytes maxL rt tabs) {v : Value} (hd : decode bytes pc = .ok (.dup, 1)) (hp : pc + 1 = pc') (hv : v.category = 1) (K : Go p e below s nc ns Q (T.setTop (mkF m pc' Ls (v :: v :: St)))) : Go p e below s nc ns Q (T.setTop (mkF m pc Ls (v :: St))) := by
  subst hp; exact Go.step (fun t q => XS.dup X.here B.x (g := mkF m pc Ls (v :: St)) rfl (B.d hd) rfl hv q) K
theorem g_dupX1 (X : Stand p l e R s m args below meth c T locs cells slots) (B : Bdy p s m meth c Z a0 own nm bytes maxL rt tabs) {v w : Value} (hd : decode bytes pc = .ok (.dup_x1, 1)) (hp : pc + 1 = pc') (hv : v.category = 1) (hw : w.category = 1) (K : Go p e below s nc ns Q (T.setTop (mkF m pc' Ls (v :: w :: v :: St)))) : Go p e below s nc ns Q (T.setTop (mkF m pc Ls (v :: w :: St))) := by
  subst hp; exact Go.step (fun t q => XS.dupX1 X.here B.x (g := mkF m pc Ls (v :: w :: St)) rfl (B.d hd) rfl hv hw q) K
theorem g_dup2 (X : Stand p l e R s m args below meth c T locs cells slots) (B : Bdy p s m meth c Z a0 own nm bytes maxL rt tabs) {v w : Value} (hd : decode bytes pc = .ok (.dup2, 1)) (hp : pc + 1 = pc') (hv : v.category = 1) (hw : w.category = 1) (K : Go p e below s nc ns Q (T.setTop (mkF m pc' Ls (v :: w :: v :: w :: St)))) : Go p e below s nc ns Q (T.setTop (mkF m pc Ls (v :: w :: St))) := by
  subst hp; have hd' := B.d hd; have hx := B.x
  refine Go.step (fun t q => ?_) K
  jvm_step X.here [X.here.top, hx, hd', hv, hw]
  exact q
theorem g_dup2L (X : Stand p l e R s m args below meth c T locs cells slots) (B : Bdy p s m meth c Z a0 own nm bytes maxL rt tabs) {v : Int64} (hd : decode bytes pc = .ok (.dup2, 1)) (hp : pc + 1 = pc') (K : Go p e below s nc ns Q (T.setTop (mkF m pc' Ls (.long v :: .long v :: St)))) : Go p e below s nc ns Q (T.setTop (mkF m pc Ls (.long v :: St))) := by
  subst hp; have hd' := B.d hd; have hx := B.x
  refine Go.step (fun t q => ?_) K
  jvm_step X.here [X.here.top, hx, hd', Value.category]
  exact q
theorem g_pop (X : Stand p l e R s m args below meth c T locs cells slots) (B : Bdy p s m meth c Z a0 own nm bytes maxL rt tabs) {v : Value} (hd : decode bytes pc = .ok (.pop, 1)) (hp : pc + 1 = pc') (hv : v.category = 1) (K : Go p e below s nc ns Q (T.setTop (mkF m pc' Ls St))) : Go p e below s nc ns Q (T.setTop (mkF m pc Ls (v :: St))) := by
  subst hp; exact Go.step (fun t q => XS.pop X.here B.x (g := mkF m pc Ls (v :: St)) rfl (B.d hd) rfl hv q) K
theorem g_goto (X : Stand p l e R s m args below meth c T locs cells slots) (B : Bdy p s m meth c Z a0 own nm bytes maxL rt tabs) {o : Int} (hd : decode bytes pc = .ok (.goto o, 3)) (ho : 0 ≤ (pc : Int) + o) (hp : ((pc : Int) + o).toNat = pc') (K : Go p e below s nc ns Q (T.setTop (mkF m pc' Ls St))) : Go p e below s nc ns Q (T.setTop (mkF m pc Ls St)) :=
  Go.step (fun t q => XS.goto X.here B.x (g := mkF m pc Ls St) rfl rfl (B.d hd) ho hp q) K
/-! branches: K1 where the comparison holds, K2 where it doesn't -/
theorem g_icmp_lt (X : Stand p l e R s m args below meth c T locs cells slots) (B : Bdy p s m meth c Z a0 own nm bytes maxL rt tabs) {x y : Int32} {o : Int} {pcT pcF : Nat} (hd : decode bytes pc = .ok (.if_icmp .lt o, 3)) (ho : 0 ≤ (pc : Int) + o) (hT : ((pc : Int) + o).toNat = pcT) (hF : pc + 3 = pcF) (K1 : x < y → Go p e below s nc ns Q (T.setTop (mkF m pcT Ls St))) (K2 : ¬ x < y → Go p e below s nc ns Q (T.setTop (mkF m pcF Ls St))) : Go p e below s nc ns Q (T.setTop (mkF m pc Ls (.int y :: .int x :: St))) := by
  by_cases q : x < y
  · exact Go.step (fun t k => XS.icmpYes X.here B.x (g := mkF m pc Ls (.int y :: .int x :: St)) rfl rfl (B.d hd) rfl (tlt q).1 ho hT k) (K1 q)
  · subst hF; exact Go.step (fun t k => XS.icmpNo X.here B.x (g := mkF m pc Ls (.int y :: .int x :: St)) rfl (B.d hd) rfl (flt q).1 k) (K2 q)
theorem g_if_lt (X : Stand p l e R s m args below meth c T locs cells slots) (B : Bdy p s m meth c Z a0 own nm bytes maxL rt tabs) {x : Int32} {o : Int} {pcT pcF : Nat} (hd : decode bytes pc = .ok (.ifCond .lt o, 3)) (ho : 0 ≤ (pc : Int) + o) (hT : ((pc : Int) + o).toNat = pcT) (hF : pc + 3 = pcF) (K1 : x < (0 : Int32) → Go p e below s nc ns Q (T.setTop (mkF m pcT Ls St))) (K2 : ¬ x < (0 : Int32) → Go p e below s nc ns Q (T.setTop (mkF m pcF Ls St))) : Go p e below s nc ns Q (T.setTop (mkF m pc Ls (.int x :: St))) := by
  by_cases q : x < (0 : Int32)
  · exact Go.step (fun t k => XS.ifYes X.here B.x (g := mkF m pc Ls (.int x :: St)) rfl rfl (B.d hd) rfl ((if0 _ _).trans (tlt q).1) ho hT k) (K1 q)
  · subst hF; exact Go.step (fun t k => XS.ifNo X.here B.x (g := mkF m pc Ls (.int x :: St)) rfl (B.d hd) rfl ((if0 _ _).trans (flt q).1) k) (K2 q)
theorem g_lcmp_lt (X : Stand p l e R s m args below meth c T locs cells slots) (B : Bdy p s m meth c Z a0 own nm bytes maxL rt tabs) {x y : Int64} {o : Int} {pcT pcF : Nat} (hd1 : decode bytes pc = .ok (.lcmp, 1)) (hd : decode bytes (pc + 1) = .ok (.ifCond .lt o, 3)) (ho : 0 ≤ ((pc + 1 : Nat) : Int) + o) (hT : (((pc + 1 : Nat) : Int) + o).toNat = pcT) (hF : pc + 4 = pcF) (K1 : x < y → Go p e below s nc ns Q (T.setTop (mkF m pcT Ls St))) (K2 : ¬ x < y → Go p e below s nc ns Q (T.setTop (mkF m pcF Ls St))) : Go p e below s nc ns Q (T.setTop (mkF m pc Ls (.long y :: .long x :: St))) :=
  Go.step (fun t q => XS.lcmp X.here B.x (g := mkF m pc Ls (.long y :: .long x :: St)) rfl (B.d hd1) rfl q) (g_if_lt X B hd ho hT hF (fun q => K1 ((lw_lt x y).mp q)) (fun q => K2 fun z => q ((lw_lt x y).mpr z)))
theorem g_icmp_ge (X : Stand p l e R s m args below meth c T locs cells slots) (B : Bdy p s m meth c Z a0 own nm bytes maxL rt tabs) {x y : Int32} {o : Int} {pcT pcF : Nat} (hd : decode bytes pc = .ok (.if_icmp .ge o, 3)) (ho : 0 ≤ (pc : Int) + o) (hT : ((pc : Int) + o).toNat = pcT) (hF : pc + 3 = pcF) (K1 : x < y → Go p e below s nc ns Q (T.setTop (mkF m pcF Ls St))) (K2 : ¬ x < y → Go p e below s nc ns Q (T.setTop (mkF m pcT Ls St))) : Go p e below s nc ns Q (T.setTop (mkF m pc Ls (.int y :: .int x :: St))) := by
  by_cases q : x < y
  · subst hF; exact Go.step (fun t k => XS.icmpNo X.here B.x (g := mkF m pc Ls (.int y :: .int x :: St)) rfl (B.d hd) rfl (tlt q).2.1 k) (K1 q)
  · exact Go.step (fun t k => XS.icmpYes X.here B.x (g := mkF m pc Ls (.int y :: .int x :: St)) rfl rfl (B.d hd) rfl (flt q).2.1 ho hT k) (K2 q)
theorem g_if_ge (X : Stand p l e R s m args below meth c T locs cells slots) (B : Bdy p s m meth c Z a0 own nm bytes maxL rt tabs) {x : Int32} {o : Int} {pcT pcF : Nat} (hd : decode bytes pc = .ok (.ifCond .ge o, 3)) (ho : 0 ≤ (pc : Int) + o) (hT : ((pc : Int) + o).toNat = pcT) (hF : pc + 3 = pcF) (K1 : x < (0 : Int32) → Go p e below s nc ns Q (T.setTop (mkF m pcF Ls St))) (K2 : ¬ x < (0 : Int32) → Go p e below s nc ns Q (T.setTop (mkF m pcT Ls St))) : Go p e below s nc ns Q (T.setTop (mkF m pc Ls (.int x :: St))) := by
  by_cases q : x < (0 : Int32)
  · subst hF; exact Go.step (fun t k => XS.ifNo X.here B.x (g := mkF m pc Ls (.int x :: St)) rfl (B.d hd) rfl ((if0 _ _).trans (tlt q).2.1) k) (K1 q)
  · exact Go.step (fun t k => XS.ifYes X.here B.x (g := mkF m pc Ls (.int x :: St)) rfl rfl (B.d hd) rfl ((if0 _ _).trans (flt q).2.1) ho hT k) (K2 q)
theorem g_lcmp_ge (X : Stand p l e R s m args below meth c T locs cells slots) (B : Bdy p s m meth c Z a0 own nm bytes maxL rt tabs) {x y : Int64} {o : Int} {pcT pcF : Nat} (hd1 : decode bytes pc = .ok (.lcmp, 1)) (hd : decode bytes (pc + 1) = .ok (.ifCond .ge o, 3)) (ho : 0 ≤ ((pc + 1 : Nat) : Int) + o) (hT : (((pc + 1 : Nat) : Int) + o).toNat = pcT) (hF : pc + 4 = pcF) (K1 : x < y → Go p e below s nc ns Q (T.setTop (mkF m pcF Ls St))) (K2 : ¬ x < y → Go p e below s nc ns Q (T.setTop (mkF m pcT Ls St))) : Go p e below s nc ns Q (T.setTop (mkF m pc Ls (.long y :: .long x :: St))) :=
  Go.step (fun t q => XS.lcmp X.here B.x (g := mkF m pc Ls (.long y :: .long x :: St)) rfl (B.d hd1) rfl q) (g_if_ge X B hd ho hT hF (fun q => K1 ((lw_lt x y).mp q)) (fun q => K2 fun z => q ((lw_lt x y).mpr z)))
theorem g_icmp_gt (X : Stand p l e R s m args below meth c T locs cells slots) (B : Bdy p s m meth c Z a0 own nm bytes maxL rt tabs) {x y : Int32} {o : Int} {pcT pcF : Nat} (hd : decode bytes pc = .ok (.if_icmp .gt o, 3)) (ho : 0 ≤ (pc : Int) + o) (hT : ((pc : Int) + o).toNat = pcT) (hF : pc + 3 = pcF) (K1 : y < x → Go p e below s nc ns Q (T.setTop (mkF m pcT Ls St))) (K2 : ¬ y < x → Go p e below s nc ns Q (T.setTop (mkF m pcF Ls St))) : Go p e below s nc ns Q (T.setTop (mkF m pc Ls (.int y :: .int x :: St))) := by
  by_cases q : y < x
  · exact Go.step (fun t k => XS.icmpYes X.here B.x (g := mkF m pc Ls (.int y :: .int x :: St)) rfl rfl (B.d hd) rfl (tlt q).2.2.1 ho hT k) (K1 q)
  · subst hF; exact Go.step (fun t k => XS.icmpNo X.here B.x (g := mkF m pc Ls (.int y :: .int x :: St)) rfl (B.d hd) rfl (flt q).2.2.1 k) (K2 q)
theorem g_if_gt (X : Stand p l e R s m args below meth c T locs cells slots) (B : Bdy p s m meth c Z a0 own nm bytes maxL rt tabs) {x : Int32} {o : Int} {pcT pcF : Nat} (hd : decode bytes pc = .ok (.ifCond .gt o, 3)) (ho : 0 ≤ (pc : Int) + o) (hT : ((pc : Int) + o).toNat = pcT) (hF : pc + 3 = pcF) (K1 : (0 : Int32) < x → Go p e below s nc ns Q (T.setTop (mkF m pcT Ls St))) (K2 : ¬ (0 : Int32) < x → Go p e below s nc ns Q (T.setTop (mkF m pcF Ls St))) : Go p e below s nc ns Q (T.setTop (mkF m pc Ls (.int x :: St))) := by
  by_cases q : (0 : Int32) < x
  · exact Go.step (fun t k => XS.ifYes X.here B.x (g := mkF m pc Ls (.int x :: St)) rfl rfl (B.d hd) rfl ((if0 _ _).trans (tlt q).2.2.1) ho hT k) (K1 q)
  · subst hF; exact Go.step (fun t k => XS.ifNo X.here B.x (g := mkF m pc Ls (.int x :: St)) rfl (B.d hd) rfl ((if0 _ _).trans (flt q).2.2.1) k) (K2 q)
theorem g_lcmp_gt (X : Stand p l e R s m args below meth c T locs cells slots) (B : Bdy p s m meth c Z a0 own nm bytes maxL rt tabs) {x y : Int64} {o : Int} {pcT pcF : Nat} (hd1 : decode bytes pc = .ok (.lcmp, 1)) (hd : decode bytes (pc + 1) = .ok (.ifCond .gt o, 3)) (ho : 0 ≤ ((pc + 1 : Nat) : Int) + o) (hT : (((pc + 1 : Nat) : Int) + o).toNat = pcT) (hF : pc + 4 = pcF) (K1 : y < x → Go p e below s nc ns Q (T.setTop (mkF m pcT Ls St))) (K2 : ¬ y < x → Go p e below s nc ns Q (T.setTop (mkF m pcF Ls St))) : Go p e below s nc ns Q (T.setTop (mkF m pc Ls (.long y :: .long x :: St))) :=
  Go.step (fun t q => XS.lcmp X.here B.x (g := mkF m pc Ls (.long y :: .long x :: St)) rfl (B.d hd1) rfl q) (g_if_gt X B hd ho hT hF (fun q => K1 ((lw_gt x y).mp q)) (fun q => K2 fun z => q ((lw_gt x y).mpr z)))
theorem g_icmp_le (X : Stand p l e R s m args below meth c T locs cells slots) (B : Bdy p s m meth c Z a0 own nm bytes maxL rt tabs) {x y : Int32} {o : Int} {pcT pcF : Nat} (hd : decode bytes pc = .ok (.if_icmp .le o, 3)) (ho : 0 ≤ (pc : Int) + o) (hT : ((pc : Int) + o).toNat = pcT) (hF : pc + 3 = pcF) (K1 : y < x → Go p e below s nc ns Q (T.setTop (mkF m pcF Ls St))) (K2 : ¬ y < x → Go p e below s nc ns Q (T.setTop (mkF m pcT Ls St))) : Go p e below s nc ns Q (T.setTop (mkF m pc Ls (.int y :: .int x :: St))) := by
  by_cases q : y < x
  · subst hF; exact Go.step (fun t k => XS.icmpNo X.here B.x (g := mkF m pc Ls (.int y :: .int x :: St)) rfl (B.d hd) rfl (tlt q).2.2.2 k) (K1 q)
  · exact Go.step (fun t k => XS.icmpYes X.here B.x (g := mkF m pc Ls (.int y :: .int x :: St)) rfl rfl (B.d hd) rfl (flt q).2.2.2 ho hT k) (K2 q)
theorem g_if_le (X : Stand p l e R s m args below meth c T locs cells slots) (B : Bdy p s m meth c Z a0 own nm bytes maxL rt tabs) {x : Int32} {o : Int} {pcT pcF : Nat} (hd : decode bytes pc = .ok (.ifCond .le o, 3)) (ho : 0 ≤ (pc : Int) + o) (hT : ((pc : Int) + o).toNat = pcT) (hF : pc + 3 = pcF) (K1 : (0 : Int32) < x → Go p e below s nc ns Q (T.setTop (mkF m pcF Ls St))) (K2 : ¬ (0 : Int32) < x → Go p e below s nc ns Q (T.setTop (mkF m pcT Ls St))) : Go p e below s nc ns Q (T.setTop (mkF m pc Ls (.int x :: St))) := by
  by_cases q : (0 : Int32) < x
  · subst hF; exact Go.step (fun t k => XS.ifNo X.here B.x (g := mkF m pc Ls (.int x :: St)) rfl (B.d hd) rfl ((if0 _ _).trans (tlt q).2.2.2) k) (K1 q)
  · exact Go.step (fun t k => XS.ifYes X.here B.x (g := mkF m pc Ls (.int x :: St)) rfl rfl (B.d hd) rfl ((if0 _ _).trans (flt q).2.2.2) ho hT k) (K2 q)
theorem g_lcmp_le (X : Stand p l e R s m args below meth c T locs cells slots) (B : Bdy p s m meth c Z a0 own nm bytes maxL rt tabs) {x y : Int64} {o : Int} {pcT pcF : Nat} (hd1 : decode bytes pc = .ok (.lcmp, 1)) (hd : decode bytes (pc + 1) = .ok (.ifCond .le o, 3)) (ho : 0 ≤ ((pc + 1 : Nat) : Int) + o) (hT : (((pc + 1 : Nat) : Int) + o).toNat = pcT) (hF : pc + 4 = pcF) (K1 : y < x → Go p e below s nc ns Q (T.setTop (mkF m pcF Ls St))) (K2 : ¬ y < x → Go p e below s nc ns Q (T.setTop (mkF m pcT Ls St))) : Go p e below s nc ns Q (T.setTop (mkF m pc Ls (.long y :: .long x :: St))) :=
  Go.step (fun t q => XS.lcmp X.here B.x (g := mkF m pc Ls (.long y :: .long x :: St)) rfl (B.d hd1) rfl q) (g_if_le X B hd ho hT hF (fun q => K1 ((lw_gt x y).mp q)) (fun q => K2 fun z => q ((lw_gt x y).mpr z)))
theorem g_icmp_eq (X : Stand p l e R s m args below meth c T locs cells slots) (B : Bdy p s m meth c Z a0 own nm bytes maxL rt tabs) {x y : Int32} {o : Int} {pcT pcF : Nat} (hd : decode bytes pc = .ok (.if_icmp .eq o, 3)) (ho : 0 ≤ (pc : Int) + o) (hT : ((pc : Int) + o).toNat = pcT) (hF : pc + 3 = pcF) (K1 : x = y → Go p e below s nc ns Q (T.setTop (mkF m pcT Ls St))) (K2 : ¬ x = y → Go p e below s nc ns Q (T.setTop (mkF m pcF Ls St))) : Go p e below s nc ns Q (T.setTop (mkF m pc Ls (.int y :: .int x :: St))) := by
  by_cases q : x = y
  · exact Go.step (fun t k => XS.icmpYes X.here B.x (g := mkF m pc Ls (.int y :: .int x :: St)) rfl rfl (B.d hd) rfl (teq q).1 ho hT k) (K1 q)
  · subst hF; exact Go.step (fun t k => XS.icmpNo X.here B.x (g := mkF m pc Ls (.int y :: .int x :: St)) rfl (B.d hd) rfl (feq q).1 k) (K2 q)
theorem g_if_eq (X : Stand p l e R s m args below meth c T locs cells slots) (B : Bdy p s m meth c Z a0 own nm bytes maxL rt tabs) {x : Int32} {o : Int} {pcT pcF : Nat} (hd : decode bytes pc = .ok (.ifCond .eq o, 3)) (ho : 0 ≤ (pc : Int) + o) (hT : ((pc : Int) + o).toNat = pcT) (hF : pc + 3 = pcF) (K1 : x = (0 : Int32) → Go p e below s nc ns Q (T.setTop (mkF m pcT Ls St))) (K2 : ¬ x = (0 : Int32) → Go p e below s nc ns Q (T.setTop (mkF m pcF Ls St))) : Go p e below s nc ns Q (T.setTop (mkF m pc Ls (.int x :: St))) := by
  by_cases q : x = (0 : Int32)
  · exact Go.step (fun t k => XS.ifYes X.here B.x (g := mkF m pc Ls (.int x :: St)) rfl rfl (B.d hd) rfl ((if0 _ _).trans (teq q).1) ho hT k) (K1 q)
  · subst hF; exact Go.step (fun t k => XS.ifNo X.here B.x (g := mkF m pc Ls (.int x :: St)) rfl (B.d hd) rfl ((if0 _ _).trans (feq q).1) k) (K2 q)
theorem g_lcmp_eq (X : Stand p l e R s m args below meth c T locs cells slots) (B : Bdy p s m meth c Z a0 own nm bytes maxL rt tabs) {x y : Int64} {o : Int} {pcT pcF : Nat} (hd1 : decode bytes pc = .ok (.lcmp, 1)) (hd : decode bytes (pc + 1) = .ok (.ifCond .eq o, 3)) (ho : 0 ≤ ((pc + 1 : Nat) : Int) + o) (hT : (((pc + 1 : Nat) : Int) + o).toNat = pcT) (hF : pc + 4 = pcF) (K1 : x = y → Go p e below s nc ns Q (T.setTop (mkF m pcT Ls St))) (K2 : ¬ x = y → Go p e below s nc ns Q (T.setTop (mkF m pcF Ls St))) : Go p e below s nc ns Q (T.setTop (mkF m pc Ls (.long y :: .long x :: St))) :=
  Go.step (fun t q => XS.lcmp X.here B.x (g := mkF m pc Ls (.long y :: .long x :: St)) rfl (B.d hd1) rfl q) (g_if_eq X B hd ho hT hF (fun q => K1 ((lw_eq x y).mp q)) (fun q => K2 fun z => q ((lw_eq x y).mpr z)))
theorem g_icmp_ne (X : Stand p l e R s m args below meth c T locs cells slots) (B : Bdy p s m meth c Z a0 own nm bytes maxL rt tabs) {x y : Int32} {o : Int} {pcT pcF : Nat} (hd : decode bytes pc = .ok (.if_icmp .ne o, 3)) (ho : 0 ≤ (pc : Int) + o) (hT : ((pc : Int) + o).toNat = pcT) (hF : pc + 3 = pcF) (K1 : x = y → Go p e below s nc ns Q (T.setTop (mkF m pcF Ls St))) (K2 : ¬ x = y → Go p e below s nc ns Q (T.setTop (mkF m pcT Ls St))) : Go p e below s nc ns Q (T.setTop (mkF m pc Ls (.int y :: .int x :: St))) := by
  by_cases q : x = y
  · subst hF; exact Go.step (fun t k => XS.icmpNo X.here B.x (g := mkF m pc Ls (.int y :: .int x :: St)) rfl (B.d hd) rfl (teq q).2 k) (K1 q)
  · exact Go.step (fun t k => XS.icmpYes X.here B.x (g := mkF m pc Ls (.int y :: .int x :: St)) rfl rfl (B.d hd) rfl (feq q).2 ho hT k) (K2 q)
theorem g_if_ne (X : Stand p l e R s m args below meth c T locs cells slots) (B : Bdy p s m meth c Z a0 own nm bytes maxL rt tabs) {x : Int32} {o : Int} {pcT pcF : Nat} (hd : decode bytes pc = .ok (.ifCond .ne o, 3)) (ho : 0 ≤ (pc : Int) + o) (hT : ((pc : Int) + o).toNat = pcT) (hF : pc + 3 = pcF) (K1 : x = (0 : Int32) → Go p e below s nc ns Q (T.setTop (mkF m pcF Ls St))) (K2 : ¬ x = (0 : Int32) → Go p e below s nc ns Q (T.setTop (mkF m pcT Ls St))) : Go p e below s nc ns Q (T.setTop (mkF m pc Ls (.int x :: St))) := by
  by_cases q : x = (0 : Int32)
  · subst hF; exact Go.step (fun t k => XS.ifNo X.here B.x (g := mkF m pc Ls (.int x :: St)) rfl (B.d hd) rfl ((if0 _ _).trans (teq q).2) k) (K1 q)
  · exact Go.step (fun t k => XS.ifYes X.here B.x (g := mkF m pc Ls (.int x :: St)) rfl rfl (B.d hd) rfl ((if0 _ _).trans (feq q).2) ho hT k) (K2 q)
theorem g_lcmp_ne (X : Stand p l e R s m args below meth c T locs cells slots) (B : Bdy p s m meth c Z a0 own nm bytes maxL rt tabs) {x y : Int64} {o : Int} {pcT pcF : Nat} (hd1 : decode bytes pc = .ok (.lcmp, 1)) (hd : decode bytes (pc + 1) = .ok (.ifCond .ne o, 3)) (ho : 0 ≤ ((pc + 1 : Nat) : Int) + o) (hT : (((pc + 1 : Nat) : Int) + o).toNat = pcT) (hF : pc + 4 = pcF) (K1 : x = y → Go p e below s nc ns Q (T.setTop (mkF m pcF Ls St))) (K2 : ¬ x = y → Go p e below s nc ns Q (T.setTop (mkF m pcT Ls St))) : Go p e below s nc ns Q (T.setTop (mkF m pc Ls (.long y :: .long x :: St))) :=
  Go.step (fun t q => XS.lcmp X.here B.x (g := mkF m pc Ls (.long y :: .long x :: St)) rfl (B.d hd1) rfl q) (g_if_ne X B hd ho hT hF (fun q => K1 ((lw_eq x y).mp q)) (fun q => K2 fun z => q ((lw_eq x y).mpr z)))
/-! ends -/
theorem g_ret0 (X : Stand p l e R s m args below meth c T locs cells slots) (B : Bdy p s m meth c Z a0 own nm bytes maxL rt tabs) (hr : rt = none) (hd : decode bytes pc = .ok (.return_, 1)) (hc : cells ≤ nc) (hs : slots ≤ ns) (q : Q none T.heap locs) : Go p e below s nc ns Q (T.setTop (mkF m pc Ls [])) := by
  subst hr
  obtain ⟨fs, hr, hrun, hended, hW, hsame⟩ := X.leave (v := none) (fun _ => rfl) B.lk
  exact ⟨_, _, X.returnOut B.x B.r (B.d hd) hr, hrun, hended, _, _, rfl, q, ⟨_, rfl⟩, hW, hsame.mono hc hs⟩
theorem g_retV (X : Stand p l e R s m args below meth c T locs cells slots) (B : Bdy p s m meth c Z a0 own nm bytes maxL rt tabs) {w : Value} {t : FieldType} {i : Instr} (hr : rt = some t) (hn : narrow t w = w)
    (hi : (i = .ireturn ∧ (t = .int ∨ t = .boolean ∨ t = .byte ∨ t = .char ∨ t = .short) ∧ ∃ z, w = .int z) ∨ (i = .lreturn ∧ t = .long ∧ ∃ z, w = .long z) ∨ (i = .dreturn ∧ t = .double ∧ ∃ z, w = .double z) ∨ (i = .freturn ∧ t = .float ∧ ∃ z, w = .float z) ∨ (i = .areturn ∧ t.isReference = true ∧ w.isRef = true))
    (hd : decode bytes pc = .ok (i, 1)) (hc : cells ≤ nc) (hs : slots ≤ ns) (q : Q (some w) T.heap locs) : Go p e below s nc ns Q (T.setTop (mkF m pc Ls (w :: St))) := by
  subst hr
  obtain ⟨fs, hr, hrun, hended, hW, hsame⟩ := X.leave (v := some w) (fun h => by rw [B.r] at h; cases h) B.lk
  exact ⟨_, _, retOut X B.x B.r hn hi (B.d hd) hr, hrun, hended, _, _, rfl, q, ⟨_, rfl⟩, hW, hsame.mono hc hs⟩
theorem g_retI (X : Stand p l e R s m args below meth c T locs cells slots) (B : Bdy p s m meth c Z a0 own nm bytes maxL rt tabs) {z : Int32} (hr : rt = some .int) (hd : decode bytes pc = .ok (.ireturn, 1)) (hc : cells ≤ nc) (hs : slots ≤ ns) (q : Q (some (.int z)) T.heap locs) : Go p e below s nc ns Q (T.setTop (mkF m pc Ls (.int z :: St))) :=
  g_retV X B hr rfl (Or.inl ⟨rfl, Or.inl rfl, z, rfl⟩) hd hc hs q
theorem g_retL (X : Stand p l e R s m args below meth c T locs cells slots) (B : Bdy p s m meth c Z a0 own nm bytes maxL rt tabs) {z : Int64} (hr : rt = some .long) (hd : decode bytes pc = .ok (.lreturn, 1)) (hc : cells ≤ nc) (hs : slots ≤ ns) (q : Q (some (.long z)) T.heap locs) : Go p e below s nc ns Q (T.setTop (mkF m pc Ls (.long z :: St))) :=
  g_retV X B hr rfl (Or.inr (Or.inl ⟨rfl, rfl, z, rfl⟩)) hd hc hs q
theorem g_retA (X : Stand p l e R s m args below meth c T locs cells slots) (B : Bdy p s m meth c Z a0 own nm bytes maxL rt tabs) {w : Value} {t : FieldType} (hr : rt = some t) (ht : t.isReference = true) (hw : w.isRef = true) (hn : narrow t w = w) (hd : decode bytes pc = .ok (.areturn, 1)) (hc : cells ≤ nc) (hs : slots ≤ ns) (q : Q (some w) T.heap locs) : Go p e below s nc ns Q (T.setTop (mkF m pc Ls (w :: St))) :=
  g_retV X B hr hn (Or.inr (Or.inr (Or.inr (Or.inr ⟨rfl, ht, hw⟩)))) hd hc hs q
theorem g_retN (X : Stand p l e R s m args below meth c T locs cells slots) (B : Bdy p s m meth c Z a0 own nm bytes maxL rt tabs) {z : Int32} {t : FieldType} (hr : rt = some t) (ht : t = .boolean ∨ t = .byte ∨ t = .char ∨ t = .short) (hd : decode bytes pc = .ok (.ireturn, 1)) (hc : cells ≤ nc) (hs : slots ≤ ns) (q : Q (some (.int (nar t z))) T.heap locs) : Go p e below s nc ns Q (T.setTop (mkF m pc Ls (.int z :: St))) := by
  subst hr
  obtain ⟨fs, hr, hrun, hended, hW, hsame⟩ := X.leave (v := some (.int (nar t z))) (fun h => by rw [B.r] at h; cases h) B.lk
  exact ⟨_, _, retN X B.x B.r ht (B.d hd) hr, hrun, hended, _, _, rfl, q, ⟨_, rfl⟩, hW, hsame.mono hc hs⟩
/-! calls -/
abbrev Met (l : Launch) (Z : State) (y : MethodName) (yb : ByteArray) (ym : Nat) (yr : Option FieldType) (ws : List Jvm.Cond) (rm : Room) (as : Array Value) (h : Heap) (Qc : Option Value → Heap → List Loc → Prop) : Prop :=
  MetFree l y (head1 (Jvm.Cond.code y yb ym yr :: ws) rm) (fun a U => a = as ∧ Z.Warmed39 U.vm ∧ U.heap = h) (fun _ _ _ _ _ => True) (fun _ U o U' => ∃ v L, o = .returned v ∧ Qc v U'.heap L ∧ FrameEnd U o U' L rm.cells rm.slots)
theorem met_of {y : MethodName} {rm : Room} {as : Array Value} {ws : List Jvm.Cond} (hpl : plainFor y = true) (hw : ∀ d ∈ tabs, d.before a0 Z = true)
    (body : ∀ (p : Program) (e : Env) (s : State) (m : MethodId) (below : List Frame) (meth : Method) (c : Code) (T : State), Stand p l e rm s m as below meth c T [] 0 0 → Bdy p s m meth c Z a0 y.cls y.name bytes maxL rt tabs → T.heap = h → Go p e below s rm.cells rm.slots Q (T.setTop (entryFrame m as maxL))) :
    Met l Z y bytes maxL rt ws rm as h Q := by
  refine MetFree.of_bodySF hpl hisR ?_
  intro p e s m args below meth c s₁ Bd hml0 hP hK
  obtain ⟨rfl, hZ, hh⟩ := hP
  exact body p e s m below meth c s₁ (Stand.of_body Bd) ⟨Bd.exec, hZ, hw, Bd.bytes, hml0, findClass_of_methodNamed Bd.named, Bd.returns, BodyLoose.notSynchronized Bd, (name_of_methodNamed Bd.named Bd.method).1⟩ (by rw [← hh, Bd.state]; rfl)
theorem g_callS (X : Stand p l e R s m args below meth c T locs cells slots) (B : Bdy p s m meth c Z a0 own nm bytes maxL rt tabs) {y : MethodName} {i : Nat} {yb : ByteArray} {ym : Nat} {yr : Option FieldType} {rm : Room} {argsL rest : List Value} {Qc : Option Value → Heap → List Loc → Prop} (eT : T.heap = h) (W : Nat)
    (w1 : (Jvm.Cond.methodLink own i y).before a0 Z = true) (w2 : (Jvm.Cond.static y).before a0 Z = true) (w3 : (Jvm.Cond.initialized y.cls).before a0 Z = true) (w4 : (Jvm.Cond.code y yb ym yr).before a0 Z = true) (hy : y.cls ≠ "java/lang/invoke/MethodHandle" ∧ y.cls ≠ "java/lang/invoke/VarHandle")
    (M : Met l Z y yb ym yr [] rm argsL.toArray h Qc) (hf : rm.frames + 1 ≤ R.frames) (hl : W + (ym + 11) + rm.locals ≤ R.locals) (hc : cells + rm.cells ≤ R.cells) (hs : slots + rm.slots ≤ R.slots)
    (hsz : Ls.size = maxL) (hlen : ∀ sig, parseMethodDescriptor y.desc = some sig → argsL.length = sig.parameters.length) (hst : St = argsL.reverse ++ rest) (hW : (rest.map fun v => v.category).sum ≤ W) (hd : decode bytes pc = .ok (.invokestatic i, 3)) (hp : pc + 3 = pc')
    (K : ∀ (T' : State) (v : Option Value) (L : List Loc), Stand p l e R s m args below meth c T' (locs ++ L) (cells + rm.cells) (slots + rm.slots) → Qc v T'.heap L → Go p e below s nc ns Q (T'.setTop (mkF m pc' Ls (v.toList ++ rest)))) : Go p e below s nc ns Q (T.setTop (mkF m pc Ls St)) := by
  subst hp
  obtain ⟨v, _, ⟨T', L', k', n'⟩, -, X', ⟨Lc, hQ, l', y', z'⟩, st⟩ := Jvm.LawKit.callS X B.x (y := y) B.o (mvT B.z w1) (mvT B.z w2) (mvT B.z w3) (mvT B.z w4) hy (backOf (W := W) M B.z w4 w3 hf hl) (g := mkF m pc Ls St) rfl (by rw [B.ml]; exact hsz) (argsL := argsL) (rest := rest) hlen hst (by show 2 * 0 + _ ≤ _; omega) (B.d hd) (fun _ _ => ⟨rfl, eT, hc, hs⟩)
  dsimp only [Pt.U, Pt.locs, Pt.cells, Pt.slots] at X' l' y' z' st hQ
  subst l' y' z'
  exact Go.step st (K T' v Lc X' hQ)
theorem g_callP (X : Stand p l e R s m args below meth c T locs cells slots) (B : Bdy p s m meth c Z a0 own nm bytes maxL rt tabs) {y : MethodName} {i : Nat} {yb : ByteArray} {ym : Nat} {yr : Option FieldType} {fr lo : Nat} {argsL rest : List Value} {w : Value} (eT : T.heap = h) (W : Nat)
    (w1 : (Jvm.Cond.methodLink own i y).before a0 Z = true) (w2 : (Jvm.Cond.static y).before a0 Z = true) (w3 : (Jvm.Cond.initialized y.cls).before a0 Z = true) (w4 : (Jvm.Cond.code y yb ym yr).before a0 Z = true) (hy : y.cls ≠ "java/lang/invoke/MethodHandle" ∧ y.cls ≠ "java/lang/invoke/VarHandle")
    (M : Met l Z y yb ym yr [] ⟨fr, 0, 0, lo⟩ argsL.toArray h (PQ (some w) h [])) (hf : fr + 1 ≤ R.frames) (hl : W + (ym + 11) + lo ≤ R.locals) (hc : cells ≤ R.cells) (hs : slots ≤ R.slots)
    (hsz : Ls.size = maxL) (hlen : ∀ sig, parseMethodDescriptor y.desc = some sig → argsL.length = sig.parameters.length) (hst : St = argsL.reverse ++ rest) (hW : (rest.map fun v => v.category).sum ≤ W) (hd : decode bytes pc = .ok (.invokestatic i, 3)) (hp : pc + 3 = pc')
    (K : ∀ (T' : State), Stand p l e R s m args below meth c T' locs cells slots → T'.heap = h → Go p e below s nc ns Q (T'.setTop (mkF m pc' Ls (w :: rest)))) : Go p e below s nc ns Q (T.setTop (mkF m pc Ls St)) := by
  refine g_callS X B eT W w1 w2 w3 w4 hy M hf hl hc hs hsz hlen hst hW hd hp fun T' v L X' q => ?_
  obtain ⟨rfl, q2, rfl⟩ := q
  rw [List.append_nil] at X'
  exact K T' X' q2
end GoKit
/-! own frame, the heap's steps -/
def Ax (Z : State) (h : Heap) (a : Addr) (ty : FieldType) (n : Nat) (w : Nat → Value) : Prop := n < 2147483648 ∧ ∃ c : Cell, Arr Z h a c ty ∧ c.slots.size = n ∧ ∀ j, j < n → c.slots[j]? = some (w j)
section HeapKit
variable {p : Program} {l : Launch} {e : Env} {R : Room} {s : State} {m : MethodId} {args : Array Value} {below : List Frame} {meth : Method} {c : Code} {T : State} {locs : List Loc} {cells slots : Nat} {Z : State} {a0 : Array Value} {h h' : Heap} {nc ns : Nat} {Q Q' : Option Value → Heap → List Loc → Prop} {pc pc' : Nat} {Ls Ls' : Array Slot} {St : List Value} {own nm : String} {bytes : ByteArray} {maxL : Nat} {rt : Option FieldType} {tabs : List Jvm.Cond}
theorem Ax.lt {a : Addr} {ty : FieldType} {n : Nat} {w : Nat → Value} (F : Ax Z h a ty n w) : a < h.size := by obtain ⟨-, c, A, -⟩ := F; exact A.lt
theorem Ax.ext {a : Addr} {ty : FieldType} {n : Nat} {w : Nat → Value} (F : Ax Z h a ty n w) (E : Ext h h') : Ax Z h' a ty n w := by obtain ⟨h0, c, A, r⟩ := F; exact ⟨h0, c, A.ext E, r⟩
theorem Ax.other {a b : Addr} {ty : FieldType} {n sl : Nat} {v : Value} {w : Nat → Value} (F : Ax Z h b ty n w) (W : Wr h h' a sl v) (q : b ≠ a) : Ax Z h' b ty n w := by obtain ⟨h0, c, A, r⟩ := F; exact ⟨h0, c, A.other W q, r⟩
theorem Ax.keep {a : Addr} {ty : FieldType} {n : Nat} {w : Nat → Value} {ws : List Addr} (F : Ax Z h a ty n w) (K : Keep h h' ws) (q : a ∉ ws) : Ax Z h' a ty n w := by obtain ⟨h0, c, A, r⟩ := F; exact ⟨h0, c, ⟨K.2.1 a c A.1 q, A.2⟩, r⟩
theorem Ax.set {a : Addr} {ty : FieldType} {n k : Nat} {v : Value} {w : Nat → Value} (F : Ax Z h a ty n w) (W : Wr h h' a k v) : Ax Z h' a ty n (fun j => if j = k then v else w j) := by
  obtain ⟨h0, c, A, r1, r2⟩ := F
  refine ⟨h0, _, A.same W, by rw [sz_set]; exact r1, fun j hj => ?_⟩
  by_cases q : j = k
  · subst q; simp [Cell.setSlot, r1, hj]
  · simp only [Cell.setSlot, if_neg q]; rw [Array.getElem?_setIfInBounds_ne (Ne.symm q)]; exact r2 j hj
theorem Ax.eqw {a : Addr} {ty : FieldType} {n : Nat} {w w' : Nat → Value} (F : Ax Z h a ty n w) (q : ∀ j, j < n → w j = w' j) : Ax Z h a ty n w' := by
  obtain ⟨h0, c, A, r1, r2⟩ := F
  exact ⟨h0, c, A, r1, fun j hj => by rw [← q j hj]; exact r2 j hj⟩
theorem own_idx {j : Int32} {k n : Nat} (hk : j.toInt = (k : Int)) (hn : k < n) : ¬ (j < 0 ∨ n ≤ j.toNatClampNeg) ∧ j.toNatClampNeg = k := by
  have e0 : (0 : Int32).toInt = 0 := rfl
  have e1 : j.toNatClampNeg = j.toInt.toNat := rfl
  rw [Int32.lt_iff_toInt_lt, e0, e1, hk]; omega
theorem g_getF (X : Stand p l e R s m args below meth c T locs cells slots) (B : Bdy p s m meth c Z a0 own nm bytes maxL rt tabs) {i : Nat} {R0 O n d : String} {a : Addr} {v : Value} (w : (Jvm.Cond.fieldLink own i R0 n d).before a0 Z = true) (via : Via Z R0 O n d) (eT : T.heap = h) (F : Fld Z h a O n d v) (hd : decode bytes pc = .ok (.getfield i, 3)) (hp : pc + 3 = pc')
    (K : ∀ T' : State, Stand p l e R s m args below meth c T' locs cells slots → T'.heap = h → Go p e below s nc ns Q (T'.setTop (mkF m pc' Ls (v :: St)))) : Go p e below s nc ns Q (T.setTop (mkF m pc Ls (.ref a :: St))) := by
  subst hp
  obtain ⟨T', X', e', st⟩ := getF X B.x B.z B.o (host := "") (Or.inl w) via eT F (g := mkF m pc Ls (.ref a :: St)) rfl rfl (B.d hd)
  exact Go.step st (K T' X' e')
theorem g_putF (X : Stand p l e R s m args below meth c T locs cells slots) (B : Bdy p s m meth c Z a0 own nm bytes maxL rt tabs) {i kk : Nat} {R0 O n d C : String} {a : Addr} {v old : Value} {ty : FieldType} (w : (Jvm.Cond.fieldLink own i R0 n d).before a0 Z = true) (via : Via Z R0 O n d) (eT : T.heap = h) (F : Fld Z h a O n d old) (E : Exa Z h a C)
    (L : (Jvm.Cond.lays C O n d).before a0 Z = true ∨ ((Jvm.Cond.laysFinal C O n d).before a0 Z = true ∧ own = O ∧ nm = "<init>")) (wi : (Jvm.Cond.instantiable C kk).before a0 Z = true) (hty : parseFieldDescriptor d = some ty) (hn : narrow ty v = v) (hf : fits ty v = true)
    (hd : decode bytes pc = .ok (.putfield i, 3)) (hp : pc + 3 = pc')
    (K : ∀ (T' : State) (h' : Heap), Stand p l e R s m args below meth c T' (locs ++ [⟨a, Jvm.RoadKit.slotOf Z O n d⟩]) cells slots → T'.heap = h' → Wr h h' a (Jvm.RoadKit.slotOf Z O n d) v → Go p e below s nc ns Q (T'.setTop (mkF m pc' Ls St))) : Go p e below s nc ns Q (T.setTop (mkF m pc Ls (v :: .ref a :: St))) := by
  subst hp
  obtain ⟨T', h', X', e', W, st⟩ := putF X B.x B.z B.o (host := "") (Or.inl w) via eT F E (L.imp id fun q => ⟨q.1, q.2.1, B.n.trans q.2.2⟩) wi hty hn hf (g := mkF m pc Ls (v :: .ref a :: St)) rfl rfl (B.d hd)
  exact Go.step st (K T' h' X' e' W)
theorem g_getS (X : Stand p l e R s m args below meth c T locs cells slots) (B : Bdy p s m meth c Z a0 own nm bytes maxL rt tabs) {i : Nat} {R0 O n d : String} {v : Value} (w : (Jvm.Cond.fieldLink own i R0 n d).before a0 Z = true) (via : Via Z R0 O n d) (eT : T.heap = h) (F : Sta Z h O n d v) (hd : decode bytes pc = .ok (.getstatic i, 3)) (hp : pc + 3 = pc')
    (K : ∀ T' : State, Stand p l e R s m args below meth c T' locs cells slots → T'.heap = h → Go p e below s nc ns Q (T'.setTop (mkF m pc' Ls (v :: St)))) : Go p e below s nc ns Q (T.setTop (mkF m pc Ls St)) := by
  subst hp
  obtain ⟨T', X', e', st⟩ := getS X B.x B.z B.o (host := "") w via eT F (g := mkF m pc Ls St) rfl (B.d hd)
  exact Go.step st (K T' X' e')
theorem g_new (X : Stand p l e R s m args below meth c T locs cells slots) (B : Bdy p s m meth c Z a0 own nm bytes maxL rt tabs) {i n : Nat} {C : String} (w : (Jvm.Cond.classLink own i C).before a0 Z = true) (wi : (Jvm.Cond.instantiable C n).before a0 Z = true) (wz : (Jvm.Cond.initialized C).before a0 Z = true) (eT : T.heap = h) (hd : decode bytes pc = .ok (.new i, 3)) (hp : pc + 3 = pc') (hc : cells + 1 ≤ R.cells) (hl : slots + n ≤ R.slots)
    (K : ∀ (T' : State) (h' : Heap) (a : Addr), a = h.size → Stand p l e R s m args below meth c T' locs (cells + 1) (slots + n) → T'.heap = h' → Ext h h' → Exa Z h' a C → (∀ {O nm d : String} {ty : FieldType}, Laid Z a0 C O nm d → parseFieldDescriptor d = some ty → Fld Z h' a O nm d (defaultValue ty)) → Go p e below s nc ns Q (T'.setTop (mkF m pc' Ls (.ref a :: St)))) : Go p e below s nc ns Q (T.setTop (mkF m pc Ls St)) := by
  subst hp
  obtain ⟨T', h', X', e', E, A, D, -, st⟩ := newO X B.x B.z B.o w wi wz eT (g := mkF m pc Ls St) rfl (B.d hd) hc hl
  exact Go.step st (K T' h' _ rfl X' e' E A D)
theorem g_newA (X : Stand p l e R s m args below meth c T locs cells slots) (B : Bdy p s m meth c Z a0 own nm bytes maxL rt tabs) {aty : ArrayType} {z : Int32} (k cap : Nat) (w : (Jvm.Cond.arrayClass (newarray.typeOf aty)).before a0 Z = true) (eT : T.heap = h) (hz : z.toInt = (k : Int)) (hcap : k ≤ cap) (hb : cap * 8 ≤ 536870912) (hd : decode bytes pc = .ok (.newarray aty, 2)) (hp : pc + 2 = pc') (hc : cells + 1 ≤ R.cells) (hl : slots + cap ≤ R.slots)
    (K : ∀ (T' : State) (h' : Heap) (a : Addr), a = h.size → Stand p l e R s m args below meth c T' locs (cells + 1) (slots + cap) → T'.heap = h' → Ext h h' → Ax Z h' a (newarray.typeOf aty) k (fun _ => defaultValue (newarray.typeOf aty)) → Go p e below s nc ns Q (T'.setTop (mkF m pc' Ls (.ref a :: St)))) : Go p e below s nc ns Q (T.setTop (mkF m pc Ls (.int z :: St))) := by
  subst hp
  have e1 : z.toNatClampNeg = k := by show z.toInt.toNat = k; omega
  have e0 : (0 : Int32).toInt = 0 := rfl
  have hlt := z.toInt_lt
  obtain ⟨T', h', cA, X', e', E, A, st⟩ := newP X B.x B.z w eT (g := mkF m pc Ls (.int z :: St)) rfl (B.d hd) rfl (by rw [Int32.lt_iff_toInt_lt, e0]; omega) (cap := cap) (by omega) hb hc hl
  refine Go.step st (K T' h' _ rfl X' e' E ⟨by omega, _, A, (sz_new _ _ _).trans e1, fun j hj => ?_⟩)
  simp [newA, e1, hj]
theorem g_arrlen (X : Stand p l e R s m args below meth c T locs cells slots) (B : Bdy p s m meth c Z a0 own nm bytes maxL rt tabs) {a : Addr} {ty : FieldType} {n : Nat} {w : Nat → Value} (z : Int32) (eT : T.heap = h) (F : Ax Z h a ty n w) (hz : z.toInt = (n : Int)) (hd : decode bytes pc = .ok (.arraylength, 1)) (hp : pc + 1 = pc') (K : Go p e below s nc ns Q (T.setTop (mkF m pc' Ls (.int z :: St)))) : Go p e below s nc ns Q (T.setTop (mkF m pc Ls (.ref a :: St))) := by
  subst hp
  obtain ⟨h0, c, A, r1, -⟩ := F
  have ez : c.slots.size.toInt32 = z := by
    apply Int32.toInt_inj.mp; rw [hz, r1]; exact Int32.toInt_ofNat_small (by omega)
  refine Go.step (fun t q => X.arraylength B.x (by rw [eT]; exact A.1) (State.isArrayOf_alike B.z.alike A.2.1) (g := mkF m pc Ls (.ref a :: St)) rfl rfl (B.d hd) t (by rw [ez]; exact q)) K
theorem g_iaload (X : Stand p l e R s m args below meth c T locs cells slots) (B : Bdy p s m meth c Z a0 own nm bytes maxL rt tabs) {a : Addr} {n : Nat} {w : Nat → Value} {j : Int32} {v : Value} (k : Nat) (eT : T.heap = h) (F : Ax Z h a .int n w) (hk : j.toInt = (k : Int)) (hn : k < n) (hv : w k = v) (hd : decode bytes pc = .ok (.iaload, 1)) (hp : pc + 1 = pc') (K : Go p e below s nc ns Q (T.setTop (mkF m pc' Ls (v :: St)))) : Go p e below s nc ns Q (T.setTop (mkF m pc Ls (.int j :: .ref a :: St))) := by
  subst hp
  obtain ⟨h0, c, A, r1, r2⟩ := F
  obtain ⟨q1, q2⟩ := own_idx hk hn
  exact Go.step (fun t q => X.iaload B.x (v := v) (by rw [eT]; exact A.1) (State.isArrayOf_alike B.z.alike A.2.1) A.2.2 (by rw [r1]; exact q1) (by rw [q2, ← hv]; exact r2 k hn) (g := mkF m pc Ls (.int j :: .ref a :: St)) rfl rfl (B.d hd) t q) K
theorem g_laload (X : Stand p l e R s m args below meth c T locs cells slots) (B : Bdy p s m meth c Z a0 own nm bytes maxL rt tabs) {a : Addr} {n : Nat} {w : Nat → Value} {j : Int32} {v : Value} (k : Nat) (eT : T.heap = h) (F : Ax Z h a .long n w) (hk : j.toInt = (k : Int)) (hn : k < n) (hv : w k = v) (hd : decode bytes pc = .ok (.laload, 1)) (hp : pc + 1 = pc') (K : Go p e below s nc ns Q (T.setTop (mkF m pc' Ls (v :: St)))) : Go p e below s nc ns Q (T.setTop (mkF m pc Ls (.int j :: .ref a :: St))) := by
  subst hp
  obtain ⟨h0, c, A, r1, r2⟩ := F
  obtain ⟨q1, q2⟩ := own_idx hk hn
  exact Go.step (fun t q => X.laload B.x (v := v) (by rw [eT]; exact A.1) (State.isArrayOf_alike B.z.alike A.2.1) A.2.2 (by rw [r1]; exact q1) (by rw [q2, ← hv]; exact r2 k hn) (g := mkF m pc Ls (.int j :: .ref a :: St)) rfl rfl (B.d hd) t q) K
theorem g_baloadB (X : Stand p l e R s m args below meth c T locs cells slots) (B : Bdy p s m meth c Z a0 own nm bytes maxL rt tabs) {a : Addr} {n : Nat} {w : Nat → Value} {j : Int32} {v : Value} (k : Nat) (eT : T.heap = h) (F : Ax Z h a .byte n w) (hk : j.toInt = (k : Int)) (hn : k < n) (hv : w k = v) (hd : decode bytes pc = .ok (.baload, 1)) (hp : pc + 1 = pc') (K : Go p e below s nc ns Q (T.setTop (mkF m pc' Ls (v :: St)))) : Go p e below s nc ns Q (T.setTop (mkF m pc Ls (.int j :: .ref a :: St))) := by
  subst hp
  obtain ⟨h0, c, A, r1, r2⟩ := F
  obtain ⟨q1, q2⟩ := own_idx hk hn
  exact Go.step (fun t q => X.baloadBytes B.x (v := v) (by rw [eT]; exact A.1) (State.isArrayOf_alike B.z.alike A.2.1) A.2.2 (by rw [r1]; exact q1) (by rw [q2, ← hv]; exact r2 k hn) (g := mkF m pc Ls (.int j :: .ref a :: St)) rfl rfl (B.d hd) t q) K
theorem g_baloadZ (X : Stand p l e R s m args below meth c T locs cells slots) (B : Bdy p s m meth c Z a0 own nm bytes maxL rt tabs) {a : Addr} {n : Nat} {w : Nat → Value} {j : Int32} {v : Value} (k : Nat) (eT : T.heap = h) (F : Ax Z h a .boolean n w) (hk : j.toInt = (k : Int)) (hn : k < n) (hv : w k = v) (hd : decode bytes pc = .ok (.baload, 1)) (hp : pc + 1 = pc') (K : Go p e below s nc ns Q (T.setTop (mkF m pc' Ls (v :: St)))) : Go p e below s nc ns Q (T.setTop (mkF m pc Ls (.int j :: .ref a :: St))) := by
  subst hp
  obtain ⟨h0, c, A, r1, r2⟩ := F
  obtain ⟨q1, q2⟩ := own_idx hk hn
  exact Go.step (fun t q => X.baloadBooleans B.x (v := v) (by rw [eT]; exact A.1) (State.isArrayOf_alike B.z.alike A.2.1) A.2.2 (by rw [r1]; exact q1) (by rw [q2, ← hv]; exact r2 k hn) (g := mkF m pc Ls (.int j :: .ref a :: St)) rfl rfl (B.d hd) t q) K
theorem g_iastore (X : Stand p l e R s m args below meth c T locs cells slots) (B : Bdy p s m meth c Z a0 own nm bytes maxL rt tabs) {a : Addr} {n : Nat} {w : Nat → Value} {j x : Int32} (k : Nat) (eT : T.heap = h) (F : Ax Z h a .int n w) (hk : j.toInt = (k : Int)) (hn : k < n) (hd : decode bytes pc = .ok (.iastore, 1)) (hp : pc + 1 = pc')
    (K : ∀ (T' : State) (h' : Heap), Stand p l e R s m args below meth c T' (locs ++ [⟨a, k⟩]) cells slots → T'.heap = h' → Wr h h' a k (.int x) → Go p e below s nc ns Q (T'.setTop (mkF m pc' Ls St))) : Go p e below s nc ns Q (T.setTop (mkF m pc Ls (.int x :: .int j :: .ref a :: St))) := by
  subst hp
  obtain ⟨h0, c, A, r1, r2⟩ := F
  obtain ⟨q1, q2⟩ := own_idx hk hn
  obtain ⟨T', h', X', e', W, st⟩ := stI X B.x B.z eT A (j := j) (x := x) (by rw [r1]; exact q1) (g := mkF m pc Ls (.int x :: .int j :: .ref a :: St)) rfl rfl (B.d hd)
  rw [q2] at X' W
  exact Go.step st (K T' h' X' e' W)
theorem g_lastore (X : Stand p l e R s m args below meth c T locs cells slots) (B : Bdy p s m meth c Z a0 own nm bytes maxL rt tabs) {a : Addr} {n : Nat} {w : Nat → Value} {j : Int32} {x : Int64} (k : Nat) (eT : T.heap = h) (F : Ax Z h a .long n w) (hk : j.toInt = (k : Int)) (hn : k < n) (hd : decode bytes pc = .ok (.lastore, 1)) (hp : pc + 1 = pc')
    (K : ∀ (T' : State) (h' : Heap), Stand p l e R s m args below meth c T' (locs ++ [⟨a, k⟩]) cells slots → T'.heap = h' → Wr h h' a k (.long x) → Go p e below s nc ns Q (T'.setTop (mkF m pc' Ls St))) : Go p e below s nc ns Q (T.setTop (mkF m pc Ls (.long x :: .int j :: .ref a :: St))) := by
  subst hp
  obtain ⟨h0, c, A, r1, r2⟩ := F
  obtain ⟨q1, q2⟩ := own_idx hk hn
  obtain ⟨T', h', X', e', W, st⟩ := stJ X B.x B.z eT A (j := j) (x := x) (by rw [r1]; exact q1) (g := mkF m pc Ls (.long x :: .int j :: .ref a :: St)) rfl rfl (B.d hd)
  rw [q2] at X' W
  exact Go.step st (K T' h' X' e' W)
theorem g_bastoreB (X : Stand p l e R s m args below meth c T locs cells slots) (B : Bdy p s m meth c Z a0 own nm bytes maxL rt tabs) {a : Addr} {n : Nat} {w : Nat → Value} {j x : Int32} (k : Nat) (eT : T.heap = h) (F : Ax Z h a .byte n w) (hk : j.toInt = (k : Int)) (hn : k < n) (hd : decode bytes pc = .ok (.bastore, 1)) (hp : pc + 1 = pc')
    (K : ∀ (T' : State) (h' : Heap), Stand p l e R s m args below meth c T' (locs ++ [⟨a, k⟩]) cells slots → T'.heap = h' → Wr h h' a k (.int (nar .byte x)) → Go p e below s nc ns Q (T'.setTop (mkF m pc' Ls St))) : Go p e below s nc ns Q (T.setTop (mkF m pc Ls (.int x :: .int j :: .ref a :: St))) := by
  subst hp
  obtain ⟨h0, c, A, r1, r2⟩ := F
  obtain ⟨q1, q2⟩ := own_idx hk hn
  obtain ⟨T', h', X', e', W, st⟩ := stB X B.x B.z eT A (j := j) (x := x) (by rw [r1]; exact q1) (g := mkF m pc Ls (.int x :: .int j :: .ref a :: St)) rfl rfl (B.d hd)
  rw [q2] at X' W
  exact Go.step st (K T' h' X' e' W)
theorem g_bastoreZ (X : Stand p l e R s m args below meth c T locs cells slots) (B : Bdy p s m meth c Z a0 own nm bytes maxL rt tabs) {a : Addr} {n : Nat} {w : Nat → Value} {j x : Int32} (k : Nat) (eT : T.heap = h) (F : Ax Z h a .boolean n w) (hk : j.toInt = (k : Int)) (hn : k < n) (hd : decode bytes pc = .ok (.bastore, 1)) (hp : pc + 1 = pc')
    (K : ∀ (T' : State) (h' : Heap), Stand p l e R s m args below meth c T' (locs ++ [⟨a, k⟩]) cells slots → T'.heap = h' → Wr h h' a k (.int (nar .boolean x)) → Go p e below s nc ns Q (T'.setTop (mkF m pc' Ls St))) : Go p e below s nc ns Q (T.setTop (mkF m pc Ls (.int x :: .int j :: .ref a :: St))) := by
  subst hp
  obtain ⟨h0, c, A, r1, r2⟩ := F
  obtain ⟨q1, q2⟩ := own_idx hk hn
  obtain ⟨T', h', X', e', W, st⟩ := stZ X B.x B.z eT A (j := j) (x := x) (by rw [r1]; exact q1) (g := mkF m pc Ls (.int x :: .int j :: .ref a :: St)) rfl rfl (B.d hd)
  rw [q2] at X' W
  exact Go.step st (K T' h' X' e' W)
theorem g_castore (X : Stand p l e R s m args below meth c T locs cells slots) (B : Bdy p s m meth c Z a0 own nm bytes maxL rt tabs) {a : Addr} {n : Nat} {w : Nat → Value} {j x : Int32} (k : Nat) (eT : T.heap = h) (F : Ax Z h a .char n w) (hk : j.toInt = (k : Int)) (hn : k < n) (hd : decode bytes pc = .ok (.castore, 1)) (hp : pc + 1 = pc')
    (K : ∀ (T' : State) (h' : Heap), Stand p l e R s m args below meth c T' (locs ++ [⟨a, k⟩]) cells slots → T'.heap = h' → Wr h h' a k (.int (nar .char x)) → Go p e below s nc ns Q (T'.setTop (mkF m pc' Ls St))) : Go p e below s nc ns Q (T.setTop (mkF m pc Ls (.int x :: .int j :: .ref a :: St))) := by
  subst hp
  obtain ⟨h0, c, A, r1, r2⟩ := F
  obtain ⟨q1, q2⟩ := own_idx hk hn
  obtain ⟨T', h', X', e', W, st⟩ := stC X B.x B.z eT A (j := j) (x := x) (by rw [r1]; exact q1) (g := mkF m pc Ls (.int x :: .int j :: .ref a :: St)) rfl rfl (B.d hd)
  rw [q2] at X' W
  exact Go.step st (K T' h' X' e' W)
theorem g_sastore (X : Stand p l e R s m args below meth c T locs cells slots) (B : Bdy p s m meth c Z a0 own nm bytes maxL rt tabs) {a : Addr} {n : Nat} {w : Nat → Value} {j x : Int32} (k : Nat) (eT : T.heap = h) (F : Ax Z h a .short n w) (hk : j.toInt = (k : Int)) (hn : k < n) (hd : decode bytes pc = .ok (.sastore, 1)) (hp : pc + 1 = pc')
    (K : ∀ (T' : State) (h' : Heap), Stand p l e R s m args below meth c T' (locs ++ [⟨a, k⟩]) cells slots → T'.heap = h' → Wr h h' a k (.int (nar .short x)) → Go p e below s nc ns Q (T'.setTop (mkF m pc' Ls St))) : Go p e below s nc ns Q (T.setTop (mkF m pc Ls (.int x :: .int j :: .ref a :: St))) := by
  subst hp
  obtain ⟨h0, c, A, r1, r2⟩ := F
  obtain ⟨q1, q2⟩ := own_idx hk hn
  obtain ⟨T', h', X', e', W, st⟩ := stS X B.x B.z eT A (j := j) (x := x) (by rw [r1]; exact q1) (g := mkF m pc Ls (.int x :: .int j :: .ref a :: St)) rfl rfl (B.d hd)
  rw [q2] at X' W
  exact Go.step st (K T' h' X' e' W)
theorem g_initO (X : Stand p l e R s m args below meth c T locs cells slots) (B : Bdy p s m meth c Z a0 own nm bytes maxL rt tabs) {i : Nat} {a : Addr} (W : Nat) (w1 : (Jvm.Cond.methodLink own i Lib.objectInit).before a0 Z = true) (w2 : (Jvm.Cond.instanceMethod Lib.objectInit).before a0 Z = true) (w3 : (Jvm.Cond.code Lib.objectInit ⟨#[0xb1]⟩ 1 none).before a0 Z = true) (eT : T.heap = h) (hsz : Ls.size = maxL) (hd : decode bytes pc = .ok (.invokespecial i, 3)) (hp : pc + 3 = pc')
    (hf : 1 ≤ R.frames) (hW : (St.map fun v => v.category).sum ≤ W) (hl : W + 12 ≤ R.locals) (K : ∀ T' : State, Stand p l e R s m args below meth c T' locs cells slots → T'.heap = h → Go p e below s nc ns Q (T'.setTop (mkF m pc' Ls St))) : Go p e below s nc ns Q (T.setTop (mkF m pc Ls (.ref a :: St))) := by
  subst hp
  obtain ⟨T', X', e', st⟩ := initO X B.x B.z B.o w1 w2 w3 eT (g := mkF m pc Ls (.ref a :: St)) rfl (by rw [B.ml]; exact hsz) rfl (B.d hd) hf (W := W) (by show 2 * 0 + _ ≤ _; omega) hl
  exact Go.step st (K T' X' e')
theorem g_special (X : Stand p l e R s m args below meth c T locs cells slots) (B : Bdy p s m meth c Z a0 own nm bytes maxL rt tabs) {y : MethodName} {i : Nat} {yb : ByteArray} {ym : Nat} {rm : Room} {a : Addr} {argsL rest : List Value} {Qc : Option Value → Heap → List Loc → Prop} (eT : T.heap = h) (W : Nat) (hy1 : y.name = "<init>")
    (w1 : (Jvm.Cond.methodLink own i y).before a0 Z = true) (w2 : (Jvm.Cond.instanceMethod y).before a0 Z = true) (w3 : (Jvm.Cond.initialized y.cls).before a0 Z = true) (w4 : (Jvm.Cond.code y yb ym none).before a0 Z = true) (hy : y.cls ≠ "java/lang/invoke/MethodHandle" ∧ y.cls ≠ "java/lang/invoke/VarHandle")
    (M : Met l Z y yb ym none [] rm (.ref a :: argsL).toArray h Qc) (hf : rm.frames + 1 ≤ R.frames) (hl : W + (ym + 11) + rm.locals ≤ R.locals) (hc : cells + rm.cells ≤ R.cells) (hs : slots + rm.slots ≤ R.slots)
    (hsz : Ls.size = maxL) (hlen : ∀ sig, parseMethodDescriptor y.desc = some sig → argsL.length = sig.parameters.length) (hst : St = argsL.reverse ++ .ref a :: rest) (hW : (rest.map fun v => v.category).sum ≤ W) (hd : decode bytes pc = .ok (.invokespecial i, 3)) (hp : pc + 3 = pc')
    (K : ∀ (T' : State) (v : Option Value) (L : List Loc), Stand p l e R s m args below meth c T' (locs ++ L) (cells + rm.cells) (slots + rm.slots) → Qc v T'.heap L → Go p e below s nc ns Q (T'.setTop (mkF m pc' Ls (v.toList ++ rest)))) : Go p e below s nc ns Q (T.setTop (mkF m pc Ls St)) := by
  subst hp
  obtain ⟨v, _, ⟨T', L', k', n'⟩, -, X', ⟨Lc, hQ, l', y', z'⟩, st⟩ := X.specialBack B.x (y := y) hy1 B.o (mvT B.z w1) (mvT B.z w2) (mvT B.z w4) hy (backOf (W := W) M B.z w4 w3 hf hl) (g := mkF m pc Ls St) rfl (by rw [B.ml]; exact hsz) (Steps.refl _) (a := a) (argsL := argsL) (rest := rest) hlen hst (by show 2 * 0 + _ ≤ _; omega) (B.d hd) (fun _ _ => ⟨rfl, eT, hc, hs⟩)
  dsimp only [Pt.U, Pt.locs, Pt.cells, Pt.slots] at X' l' y' z' st hQ
  subst l' y' z'
  exact Go.step (fun t q => st.trans q) (K T' v Lc X' hQ)
theorem g_virtual (X : Stand p l e R s m args below meth c T locs cells slots) (B : Bdy p s m meth c Z a0 own nm bytes maxL rt tabs) {y : MethodName} {C : String} {i : Nat} {yb : ByteArray} {ym : Nat} {yr : Option FieldType} {rm : Room} {a : Addr} {argsL rest : List Value} {Qc : Option Value → Heap → List Loc → Prop} (eT : T.heap = h) (W : Nat) (E : Exa Z h a C)
    (w1 : (Jvm.Cond.methodLink own i y).before a0 Z = true) (wd : (Jvm.Cond.declares y).before a0 Z = true) (wsel : (Jvm.Cond.selects C y y).before a0 Z = true) (w2 : (Jvm.Cond.instanceMethod y).before a0 Z = true) (w3 : (Jvm.Cond.initialized y.cls).before a0 Z = true) (w4 : (Jvm.Cond.code y yb ym yr).before a0 Z = true) (hy : y.cls ≠ "java/lang/invoke/MethodHandle" ∧ y.cls ≠ "java/lang/invoke/VarHandle")
    (M : Met l Z y yb ym yr [] rm (.ref a :: argsL).toArray h Qc) (hf : rm.frames + 1 ≤ R.frames) (hl : W + (ym + 11) + rm.locals ≤ R.locals) (hc : cells + rm.cells ≤ R.cells) (hs : slots + rm.slots ≤ R.slots)
    (hsz : Ls.size = maxL) (hlen : ∀ sig, parseMethodDescriptor y.desc = some sig → argsL.length = sig.parameters.length) (hst : St = argsL.reverse ++ .ref a :: rest) (hW : (rest.map fun v => v.category).sum ≤ W) (hd : decode bytes pc = .ok (.invokevirtual i, 3)) (hp : pc + 3 = pc')
    (K : ∀ (T' : State) (v : Option Value) (L : List Loc), Stand p l e R s m args below meth c T' (locs ++ L) (cells + rm.cells) (slots + rm.slots) → Qc v T'.heap L → Go p e below s nc ns Q (T'.setTop (mkF m pc' Ls (v.toList ++ rest)))) : Go p e below s nc ns Q (T.setTop (mkF m pc Ls St)) := by
  subst hp
  obtain ⟨cq, kq, q1, q2, q3⟩ := isOf B.z eT E
  obtain ⟨v, _, ⟨T', L', k', n'⟩, -, X', ⟨Lc, hQ, l', y', z'⟩, st⟩ := X.virtualBack B.x (y := y) (z := y) B.o (mvT B.z w1) (mvT B.z wd) (notFace_of_selects (args := #[]) (mvT B.z wsel)) (mvT B.z wsel) (mvT B.z w2) hy (backOf (W := W) M B.z w4 w3 hf hl) q1 q3 (g := mkF m pc Ls St) rfl (by rw [B.ml]; exact hsz) (Steps.refl _) (argsL := argsL) (rest := rest) hlen hst (by show 2 * 0 + _ ≤ _; omega) (B.d hd) (fun _ _ => ⟨rfl, eT, hc, hs⟩)
  dsimp only [Pt.U, Pt.locs, Pt.cells, Pt.slots] at X' l' y' z' st hQ
  subst l' y' z'
  exact Go.step (fun t q => st.trans q) (K T' v Lc X' hQ)
theorem g_ifnullR (X : Stand p l e R s m args below meth c T locs cells slots) (B : Bdy p s m meth c Z a0 own nm bytes maxL rt tabs) {a : Addr} {o : Int} (hd : decode bytes pc = .ok (.ifnull o, 3)) (hp : pc + 3 = pc') (K : Go p e below s nc ns Q (T.setTop (mkF m pc' Ls St))) : Go p e below s nc ns Q (T.setTop (mkF m pc Ls (.ref a :: St))) := by
  subst hp; exact Go.step (fun t q => XS.ifnullNo X.here B.x (g := mkF m pc Ls (.ref a :: St)) rfl (B.d hd) rfl q) K
theorem g_ifnullN (X : Stand p l e R s m args below meth c T locs cells slots) (B : Bdy p s m meth c Z a0 own nm bytes maxL rt tabs) {o : Int} (hd : decode bytes pc = .ok (.ifnull o, 3)) (ho : 0 ≤ (pc : Int) + o) (hp : ((pc : Int) + o).toNat = pc') (K : Go p e below s nc ns Q (T.setTop (mkF m pc' Ls St))) : Go p e below s nc ns Q (T.setTop (mkF m pc Ls (.null :: St))) :=
  Go.step (fun t q => XS.ifnullYes X.here B.x (g := mkF m pc Ls (.null :: St)) rfl rfl (B.d hd) rfl ho hp q) K
theorem g_ifnonnullR (X : Stand p l e R s m args below meth c T locs cells slots) (B : Bdy p s m meth c Z a0 own nm bytes maxL rt tabs) {a : Addr} {o : Int} (hd : decode bytes pc = .ok (.ifnonnull o, 3)) (ho : 0 ≤ (pc : Int) + o) (hp : ((pc : Int) + o).toNat = pc') (K : Go p e below s nc ns Q (T.setTop (mkF m pc' Ls St))) : Go p e below s nc ns Q (T.setTop (mkF m pc Ls (.ref a :: St))) :=
  Go.step (fun t q => XS.ifnonnullYes X.here B.x (g := mkF m pc Ls (.ref a :: St)) rfl rfl (B.d hd) rfl ho hp q) K
theorem g_ifnonnullN (X : Stand p l e R s m args below meth c T locs cells slots) (B : Bdy p s m meth c Z a0 own nm bytes maxL rt tabs) {o : Int} (hd : decode bytes pc = .ok (.ifnonnull o, 3)) (hp : pc + 3 = pc') (K : Go p e below s nc ns Q (T.setTop (mkF m pc' Ls St))) : Go p e below s nc ns Q (T.setTop (mkF m pc Ls (.null :: St))) := by
  subst hp; exact Go.step (fun t q => XS.ifnonnullNo X.here B.x (g := mkF m pc Ls (.null :: St)) rfl (B.d hd) rfl q) K
theorem g_acmp_eq (X : Stand p l e R s m args below meth c T locs cells slots) (B : Bdy p s m meth c Z a0 own nm bytes maxL rt tabs) {a b : Addr} {o : Int} {pcT pcF : Nat} (hd : decode bytes pc = .ok (.if_acmp .eq o, 3)) (ho : 0 ≤ (pc : Int) + o) (hT : ((pc : Int) + o).toNat = pcT) (hF : pc + 3 = pcF) (K1 : a = b → Go p e below s nc ns Q (T.setTop (mkF m pcT Ls St))) (K2 : ¬ a = b → Go p e below s nc ns Q (T.setTop (mkF m pcF Ls St))) : Go p e below s nc ns Q (T.setTop (mkF m pc Ls (.ref b :: .ref a :: St))) := by
  by_cases q : a = b
  · exact Go.step (fun t k => XS.acmpYes X.here B.x (g := mkF m pc Ls (.ref b :: .ref a :: St)) rfl rfl (B.d hd) rfl (by simp [if_acmp.holds, q]) ho hT k) (K1 q)
  · subst hF; exact Go.step (fun t k => XS.acmpNo X.here B.x (g := mkF m pc Ls (.ref b :: .ref a :: St)) rfl (B.d hd) rfl (by simp [if_acmp.holds, q]) k) (K2 q)
theorem g_acmp_ne (X : Stand p l e R s m args below meth c T locs cells slots) (B : Bdy p s m meth c Z a0 own nm bytes maxL rt tabs) {a b : Addr} {o : Int} {pcT pcF : Nat} (hd : decode bytes pc = .ok (.if_acmp .ne o, 3)) (ho : 0 ≤ (pc : Int) + o) (hT : ((pc : Int) + o).toNat = pcT) (hF : pc + 3 = pcF) (K1 : a = b → Go p e below s nc ns Q (T.setTop (mkF m pcF Ls St))) (K2 : ¬ a = b → Go p e below s nc ns Q (T.setTop (mkF m pcT Ls St))) : Go p e below s nc ns Q (T.setTop (mkF m pc Ls (.ref b :: .ref a :: St))) := by
  by_cases q : a = b
  · subst hF; exact Go.step (fun t k => XS.acmpNo X.here B.x (g := mkF m pc Ls (.ref b :: .ref a :: St)) rfl (B.d hd) rfl (by simp [if_acmp.holds, q]) k) (K1 q)
  · exact Go.step (fun t k => XS.acmpYes X.here B.x (g := mkF m pc Ls (.ref b :: .ref a :: St)) rfl rfl (B.d hd) rfl (by simp [if_acmp.holds, q]) ho hT k) (K2 q)
theorem own_fuq {a : Addr} {C n d : String} {v w : Value} (F : Fld Z h a C n d v) (G : Fld Z h a C n d w) : v = w := by
  obtain ⟨c1, _, _, _, _, h1, h2, -, -, -, -, h3⟩ := F
  obtain ⟨c2, _, _, _, _, g1, g2, -, -, -, -, g3⟩ := G
  cases h1.symm.trans g1
  cases h2.symm.trans g2
  exact Option.some.inj (h3.symm.trans g3)
theorem own_fl {x : Addr} {t : Term} {C n d : String} {k : Int32} {as : Array Value} (ht : t.eval as s none [] s = some (.ref x)) (q : (Jvm.Cond.eq (.field t C n d) (.int k)).value as s none s [] = some true) : s.fieldOf? x C n d = some (.int k) := by
  obtain ⟨x', y', e1, e2, k1, k2⟩ := cmp_v (Or.inl q)
  have e3 : y' = .int k := (Option.some.inj ((Term.int_eval k).symm.trans e2)).symm
  subst e3
  obtain ⟨z, rfl⟩ := k2
  have e4 := gotT (Cond.eq_ints e1 e2) q
  subst e4
  rw [← fld_at (C := C) (n := n) (dd := d) ht]; exact e1
end HeapKit
theorem own_ints_nil (x : Int32) : ∀ j : Nat, ∃ v : Int32, (fun _ : Nat => Value.int x) j = .int v := fun _ => ⟨x, rfl⟩
theorem own_ints_set {w : Nat → Value} (H : ∀ j : Nat, ∃ v : Int32, w j = .int v) (k : Nat) (x : Int32) : ∀ j : Nat, ∃ v : Int32, (fun j => if j = k then Value.int x else w j) j = .int v := fun j => by
  by_cases q : j = k
  · exact ⟨x, by simp [q]⟩
  · obtain ⟨v, hv⟩ := H j; exact ⟨v, by simp [q, hv]⟩
section HeapKit2
variable {p : Program} {l : Launch} {e : Env} {R : Room} {s : State} {m : MethodId} {args : Array Value} {below : List Frame} {meth : Method} {c : Code} {T : State} {locs : List Loc} {cells slots : Nat} {Z : State} {a0 : Array Value} {h h' : Heap} {nc ns : Nat} {Q Q' : Option Value → Heap → List Loc → Prop} {pc pc' : Nat} {Ls Ls' : Array Slot} {St : List Value} {own nm : String} {bytes : ByteArray} {maxL : Nat} {rt : Option FieldType} {tabs : List Jvm.Cond}
theorem g_iaload_any (X : Stand p l e R s m args below meth c T locs cells slots) (B : Bdy p s m meth c Z a0 own nm bytes maxL rt tabs) {a : Addr} {n : Nat} {w : Nat → Value} {j : Int32} (k : Nat) (eT : T.heap = h) (F : Ax Z h a .int n w) (hk : j.toInt = (k : Int)) (hn : k < n) (hall : ∀ j : Nat, ∃ v : Int32, w j = .int v) (hd : decode bytes pc = .ok (.iaload, 1)) (hp : pc + 1 = pc') (K : ∀ v : Int32, Go p e below s nc ns Q (T.setTop (mkF m pc' Ls (.int v :: St)))) : Go p e below s nc ns Q (T.setTop (mkF m pc Ls (.int j :: .ref a :: St))) := by
  obtain ⟨v, hv⟩ := hall k
  exact g_iaload X B k eT F hk hn hv hd hp (K v)
end HeapKit2
section HeapKit3
variable {p : Program} {l : Launch} {e : Env} {R : Room} {s : State} {m : MethodId} {args : Array Value} {below : List Frame} {meth : Method} {c : Code} {T : State} {locs : List Loc} {cells slots : Nat} {Z : State} {a0 : Array Value} {h h' : Heap} {nc ns : Nat} {Q Q' : Option Value → Heap → List Loc → Prop} {pc pc' : Nat} {Ls Ls' : Array Slot} {St : List Value} {own nm : String} {bytes : ByteArray} {maxL : Nat} {rt : Option FieldType} {tabs : List Jvm.Cond}
theorem g_private (X : Stand p l e R s m args below meth c T locs cells slots) (B : Bdy p s m meth c Z a0 own nm bytes maxL rt tabs) {y : MethodName} {C : String} {i kk : Nat} {yb : ByteArray} {ym : Nat} {yr : Option FieldType} {rm : Room} {a : Addr} {argsL rest : List Value} {Qc : Option Value → Heap → List Loc → Prop} (eT : T.heap = h) (W : Nat) (E : Exa Z h a C)
    (w1 : (Jvm.Cond.methodLink own i y).before a0 Z = true) (wi : (Jvm.Cond.instantiable y.cls kk).before a0 Z = true) (wp : (Jvm.Cond.privateMethod y).before a0 Z = true) (w2 : (Jvm.Cond.instanceMethod y).before a0 Z = true) (w3 : (Jvm.Cond.initialized y.cls).before a0 Z = true) (w4 : (Jvm.Cond.code y yb ym yr).before a0 Z = true) (hy : y.cls ≠ "java/lang/invoke/MethodHandle" ∧ y.cls ≠ "java/lang/invoke/VarHandle")
    (M : Met l Z y yb ym yr [] rm (.ref a :: argsL).toArray h Qc) (hf : rm.frames + 1 ≤ R.frames) (hl : W + (ym + 11) + rm.locals ≤ R.locals) (hc : cells + rm.cells ≤ R.cells) (hs : slots + rm.slots ≤ R.slots)
    (hsz : Ls.size = maxL) (hlen : ∀ sig, parseMethodDescriptor y.desc = some sig → argsL.length = sig.parameters.length) (hst : St = argsL.reverse ++ .ref a :: rest) (hW : (rest.map fun v => v.category).sum ≤ W) (hd : decode bytes pc = .ok (.invokevirtual i, 3)) (hp : pc + 3 = pc')
    (K : ∀ (T' : State) (v : Option Value) (L : List Loc), Stand p l e R s m args below meth c T' (locs ++ L) (cells + rm.cells) (slots + rm.slots) → Qc v T'.heap L → Go p e below s nc ns Q (T'.setTop (mkF m pc' Ls (v.toList ++ rest)))) : Go p e below s nc ns Q (T.setTop (mkF m pc Ls St)) := by
  subst hp
  obtain ⟨cq, q1, q2⟩ := E.cell
  have wi' : (Jvm.Cond.instantiable y.cls kk).before args s = true := mvT B.z wi
  have w2' : (Jvm.Cond.instanceMethod y).before args s = true := mvT B.z w2
  obtain ⟨c2, k2, i1, i2, i3, i4, -⟩ := Cond.instantiable_spec wi'
  have i5 : k2.isInterface = false := by
    cases hq : k2.isInterface with
    | false => rfl
    | true => rw [hq] at i4; cases i4
  have hpv := Cond.privateMethod_at (mvP B.z wp (args := #[]))
  obtain ⟨v, _, ⟨T', L', k', n'⟩, -, X', ⟨Lc, hQ, l', y', z'⟩, st⟩ := X.privateBack B.x (y := y) B.o (mvT B.z w1) w2' (selects_self_of_private i1 i2 i5 hpv w2' hy) hpv (mvT B.z w4) hy (backOf (W := W) M B.z w4 w3 hf hl) (g := mkF m pc Ls St) rfl (by rw [B.ml]; exact hsz) (Steps.refl _) (a := a) (by rw [eT]; exact q1) q2 (argsL := argsL) (rest := rest) hlen hst (by show 2 * 0 + _ ≤ _; omega) (B.d hd) (fun _ _ => ⟨rfl, eT, hc, hs⟩)
  dsimp only [Pt.U, Pt.locs, Pt.cells, Pt.slots] at X' l' y' z' st hQ
  subst l' y' z'
  exact Go.step (fun t q => st.trans q) (K T' v Lc X' hQ)
theorem g_pop2L (X : Stand p l e R s m args below meth c T locs cells slots) (B : Bdy p s m meth c Z a0 own nm bytes maxL rt tabs) {x : Int64} (hd : decode bytes pc = .ok (.pop2, 1)) (hp : pc + 1 = pc') (K : Go p e below s nc ns Q (T.setTop (mkF m pc' Ls St))) : Go p e below s nc ns Q (T.setTop (mkF m pc Ls (.long x :: St))) := by
  subst hp
  have hd' := B.d hd
  have hx := B.x
  refine Go.step (fun t q => ?_) K
  jvm_step X.here [X.here.top, hx, hd', Value.category]
  exact q
theorem g_instY (X : Stand p l e R s m args below meth c T locs cells slots) (B : Bdy p s m meth c Z a0 own nm bytes maxL rt tabs) {i : Nat} {C : String} {a : Addr} (w : (Jvm.Cond.classLink own i C).before a0 Z = true) (eT : T.heap = h) (F : Ins Z h a C true) (hd : decode bytes pc = .ok (.instanceof i, 3)) (hp : pc + 3 = pc')
    (K : ∀ T' : State, Stand p l e R s m args below meth c T' locs cells slots → T'.heap = h → Go p e below s nc ns Q (T'.setTop (mkF m pc' Ls (.int (1 : Int32) :: St)))) : Go p e below s nc ns Q (T.setTop (mkF m pc Ls (.ref a :: St))) := by
  subst hp
  obtain ⟨T', X', e', st⟩ := instY X B.x B.z B.o w eT F (g := mkF m pc Ls (.ref a :: St)) rfl rfl (B.d hd)
  exact Go.step st (K T' X' e')
theorem g_instN (X : Stand p l e R s m args below meth c T locs cells slots) (B : Bdy p s m meth c Z a0 own nm bytes maxL rt tabs) {i : Nat} {K' C : String} {a : Addr} (w : (Jvm.Cond.classLink own i K').before a0 Z = true) (eT : T.heap = h) (E : Exa Z h a C) (F : ∃ c t, Z.vm.findClass C = some c ∧ Z.vm.findClass K' = some t ∧ Z.vm.assignable c t = false) (hd : decode bytes pc = .ok (.instanceof i, 3)) (hp : pc + 3 = pc')
    (K : ∀ T' : State, Stand p l e R s m args below meth c T' locs cells slots → T'.heap = h → Go p e below s nc ns Q (T'.setTop (mkF m pc' Ls (.int (0 : Int32) :: St)))) : Go p e below s nc ns Q (T.setTop (mkF m pc Ls (.ref a :: St))) := by
  subst hp
  obtain ⟨T', X', e', st⟩ := instNo X B.x B.z B.o w eT E F (g := mkF m pc Ls (.ref a :: St)) rfl rfl (B.d hd)
  exact Go.step st (K T' X' e')
theorem g_castY (X : Stand p l e R s m args below meth c T locs cells slots) (B : Bdy p s m meth c Z a0 own nm bytes maxL rt tabs) {i : Nat} {C : String} {a : Addr} (w : (Jvm.Cond.classLink own i C).before a0 Z = true) (eT : T.heap = h) (F : Ins Z h a C true) (hd : decode bytes pc = .ok (.checkcast i, 3)) (hp : pc + 3 = pc')
    (K : ∀ T' : State, Stand p l e R s m args below meth c T' locs cells slots → T'.heap = h → Go p e below s nc ns Q (T'.setTop (mkF m pc' Ls (.ref a :: St)))) : Go p e below s nc ns Q (T.setTop (mkF m pc Ls (.ref a :: St))) := by
  subst hp
  obtain ⟨T', X', e', st⟩ := castY X B.x B.z B.o w eT F (g := mkF m pc Ls (.ref a :: St)) rfl rfl (B.d hd)
  exact Go.step st (K T' X' e')
end HeapKit3
theorem own_pd0 : parseMethodDescriptor "([BI)I" = some ⟨[(.array .byte), .int], some .int⟩ := by decide +kernel
theorem own_ip {i c : Int32} {k j : Nat} (hk : i.toInt = (k : Int)) (hc : c.toInt = (j : Int)) (hb : k + j < 2147483648) : (i + c).toInt = ((k + j : Nat) : Int) := by
  have e := c_iadd i c; have r1 := (i + c).toInt_lt; have r2 := (i + c).le_toInt
  omega
def own_val (b0 b1 b2 b3 : Int32) : Int32 := ((((b0 &&& (255 : Int32)) <<< ((24 : Int32) &&& 31)) ||| ((b1 &&& (255 : Int32)) <<< ((16 : Int32) &&& 31))) ||| ((b2 &&& (255 : Int32)) <<< ((8 : Int32) &&& 31))) ||| (b3 &&& (255 : Int32))
theorem gi_d0 : decode prog_41_method_4_code 0 = .ok (.aload_n 0, 1) := by decide +kernel
theorem gi_d1 : decode prog_41_method_4_code 1 = .ok (.iload_n 1, 1) := by decide +kernel
theorem gi_d2 : decode prog_41_method_4_code 2 = .ok (.baload, 1) := by decide +kernel
theorem gi_d3 : decode prog_41_method_4_code 3 = .ok (.sipush 255, 3) := by decide +kernel
theorem gi_d6 : decode prog_41_method_4_code 6 = .ok (.iand, 1) := by decide +kernel
theorem gi_d7 : decode prog_41_method_4_code 7 = .ok (.bipush 24, 2) := by decide +kernel
theorem gi_d9 : decode prog_41_method_4_code 9 = .ok (.ishl, 1) := by decide +kernel
theorem gi_d10 : decode prog_41_method_4_code 10 = .ok (.aload_n 0, 1) := by decide +kernel
theorem gi_d11 : decode prog_41_method_4_code 11 = .ok (.iload_n 1, 1) := by decide +kernel
theorem gi_d12 : decode prog_41_method_4_code 12 = .ok (.iconst 1, 1) := by decide +kernel
theorem gi_d13 : decode prog_41_method_4_code 13 = .ok (.iadd, 1) := by decide +kernel
theorem gi_d14 : decode prog_41_method_4_code 14 = .ok (.baload, 1) := by decide +kernel
theorem gi_d15 : decode prog_41_method_4_code 15 = .ok (.sipush 255, 3) := by decide +kernel
theorem gi_d18 : decode prog_41_method_4_code 18 = .ok (.iand, 1) := by decide +kernel
theorem gi_d19 : decode prog_41_method_4_code 19 = .ok (.bipush 16, 2) := by decide +kernel
theorem gi_d21 : decode prog_41_method_4_code 21 = .ok (.ishl, 1) := by decide +kernel
theorem gi_d22 : decode prog_41_method_4_code 22 = .ok (.ior, 1) := by decide +kernel
theorem gi_d23 : decode prog_41_method_4_code 23 = .ok (.aload_n 0, 1) := by decide +kernel
theorem gi_d24 : decode prog_41_method_4_code 24 = .ok (.iload_n 1, 1) := by decide +kernel
theorem gi_d25 : decode prog_41_method_4_code 25 = .ok (.iconst 2, 1) := by decide +kernel
theorem gi_d26 : decode prog_41_method_4_code 26 = .ok (.iadd, 1) := by decide +kernel
theorem gi_d27 : decode prog_41_method_4_code 27 = .ok (.baload, 1) := by decide +kernel
theorem gi_d28 : decode prog_41_method_4_code 28 = .ok (.sipush 255, 3) := by decide +kernel
theorem gi_d31 : decode prog_41_method_4_code 31 = .ok (.iand, 1) := by decide +kernel
theorem gi_d32 : decode prog_41_method_4_code 32 = .ok (.bipush 8, 2) := by decide +kernel
theorem gi_d34 : decode prog_41_method_4_code 34 = .ok (.ishl, 1) := by decide +kernel
theorem gi_d35 : decode prog_41_method_4_code 35 = .ok (.ior, 1) := by decide +kernel
theorem gi_d36 : decode prog_41_method_4_code 36 = .ok (.aload_n 0, 1) := by decide +kernel
theorem gi_d37 : decode prog_41_method_4_code 37 = .ok (.iload_n 1, 1) := by decide +kernel
theorem gi_d38 : decode prog_41_method_4_code 38 = .ok (.iconst 3, 1) := by decide +kernel
theorem gi_d39 : decode prog_41_method_4_code 39 = .ok (.iadd, 1) := by decide +kernel
theorem gi_d40 : decode prog_41_method_4_code 40 = .ok (.baload, 1) := by decide +kernel
theorem gi_d41 : decode prog_41_method_4_code 41 = .ok (.sipush 255, 3) := by decide +kernel
theorem gi_d44 : decode prog_41_method_4_code 44 = .ok (.iand, 1) := by decide +kernel
theorem gi_d45 : decode prog_41_method_4_code 45 = .ok (.ior, 1) := by decide +kernel
theorem gi_d46 : decode prog_41_method_4_code 46 = .ok (.ireturn, 1) := by decide +kernel
theorem own_pn_gi : plainFor (⟨"com/example/razione/razione/radius/Attribute", "getInt", "([BI)I"⟩ : MethodName) = true := plainFor_of_name (by first | (simp [plainName, overriddenIn]; done) | decide +kernel)
theorem own_ef_gi (m : MethodId) (o0 : Addr) (i1 : Int32) : entryFrame m #[(.ref o0), (.int i1)] 2 = (mkF m 0 #[.val (.ref o0), .val (.int i1)] []) := by first | (simp [entryFrame, mkF, argsToLocals, Value.category]; done) | rfl
set_option maxRecDepth 65536 in
set_option maxHeartbeats 40000000 in
theorem gi_go {p : Program} {l : Launch} {e : Env} {s : State} {m : MethodId} {args : Array Value} {below : List Frame} {meth : Method} {c : Code} {T : State} {Z : State} {a0 : Array Value} {h : Heap} (X : Stand p l e (⟨0, 0, 0, 0⟩ : Room) s m args below meth c T [] 0 0) (B : Bdy p s m meth c Z a0 "com/example/razione/razione/radius/Attribute" "getInt" prog_41_method_4_code 2 (some .int) tables_1) (eT : T.heap = h) (o0 : Addr) (i1 : Int32) (n : Nat) (k : Nat) (w : Nat → Value) (b0 : Int32) (b1 : Int32) (b2 : Int32) (b3 : Int32) (V : Ax Z h o0 .byte n w) (hk : i1.toInt = (k : Int)) (hn : k + 3 < n) (w0 : w k = .int b0) (w1 : w (k + 1) = .int b1) (w2 : w (k + 2) = .int b2) (w3 : w (k + 3) = .int b3) :
    Go p e below s 0 0 (PQ (some (.int (own_val b0 b1 b2 b3))) h []) (T.setTop (mkF m 0 #[.val (.ref o0), .val (.int i1)] [])) := by
  refine g_aloadN X B gi_d0 (pc' := 1) rfl (v := (.ref o0)) rfl rfl ?_
  refine g_iloadN X B gi_d1 (pc' := 2) rfl (v := i1) rfl ?_
  refine g_baloadB X B k eT V hk (by omega) (v := (.int b0)) w0 gi_d2 (pc' := 3) rfl ?_
  refine g_sipush X B gi_d3 (pc' := 6) rfl (v := (255 : Int32)) (by decide) ?_
  refine g_iand X B gi_d6 (pc' := 7) rfl ?_
  refine g_bipush X B gi_d7 (pc' := 9) rfl (v := (24 : Int32)) (by decide) ?_
  refine g_ishl X B gi_d9 (pc' := 10) rfl (z := (((b0 &&& (255 : Int32)) <<< ((24 : Int32) &&& 31)))) rfl ?_
  refine g_aloadN X B gi_d10 (pc' := 11) rfl (v := (.ref o0)) rfl rfl ?_
  refine g_iloadN X B gi_d11 (pc' := 12) rfl (v := i1) rfl ?_
  refine g_iconst X B gi_d12 (pc' := 13) rfl (v := (1 : Int32)) (by decide) ?_
  refine g_iadd X B gi_d13 (pc' := 14) rfl ?_
  refine g_baloadB X B (k + 1) eT V (own_ip hk (by decide) (by have := V.1; omega)) (by omega) (v := (.int b1)) w1 gi_d14 (pc' := 15) rfl ?_
  refine g_sipush X B gi_d15 (pc' := 18) rfl (v := (255 : Int32)) (by decide) ?_
  refine g_iand X B gi_d18 (pc' := 19) rfl ?_
  refine g_bipush X B gi_d19 (pc' := 21) rfl (v := (16 : Int32)) (by decide) ?_
  refine g_ishl X B gi_d21 (pc' := 22) rfl (z := (((b1 &&& (255 : Int32)) <<< ((16 : Int32) &&& 31)))) rfl ?_
  refine g_ior X B gi_d22 (pc' := 23) rfl ?_
  refine g_aloadN X B gi_d23 (pc' := 24) rfl (v := (.ref o0)) rfl rfl ?_
  refine g_iloadN X B gi_d24 (pc' := 25) rfl (v := i1) rfl ?_
  refine g_iconst X B gi_d25 (pc' := 26) rfl (v := (2 : Int32)) (by decide) ?_
  refine g_iadd X B gi_d26 (pc' := 27) rfl ?_
  refine g_baloadB X B (k + 2) eT V (own_ip hk (by decide) (by have := V.1; omega)) (by omega) (v := (.int b2)) w2 gi_d27 (pc' := 28) rfl ?_
  refine g_sipush X B gi_d28 (pc' := 31) rfl (v := (255 : Int32)) (by decide) ?_
  refine g_iand X B gi_d31 (pc' := 32) rfl ?_
  refine g_bipush X B gi_d32 (pc' := 34) rfl (v := (8 : Int32)) (by decide) ?_
  refine g_ishl X B gi_d34 (pc' := 35) rfl (z := (((b2 &&& (255 : Int32)) <<< ((8 : Int32) &&& 31)))) rfl ?_
  refine g_ior X B gi_d35 (pc' := 36) rfl ?_
  refine g_aloadN X B gi_d36 (pc' := 37) rfl (v := (.ref o0)) rfl rfl ?_
  refine g_iloadN X B gi_d37 (pc' := 38) rfl (v := i1) rfl ?_
  refine g_iconst X B gi_d38 (pc' := 39) rfl (v := (3 : Int32)) (by decide) ?_
  refine g_iadd X B gi_d39 (pc' := 40) rfl ?_
  refine g_baloadB X B (k + 3) eT V (own_ip hk (by decide) (by have := V.1; omega)) (by omega) (v := (.int b3)) w3 gi_d40 (pc' := 41) rfl ?_
  refine g_sipush X B gi_d41 (pc' := 44) rfl (v := (255 : Int32)) (by decide) ?_
  refine g_iand X B gi_d44 (pc' := 45) rfl ?_
  refine g_ior X B gi_d45 (pc' := 46) rfl ?_
  exact g_retI X B rfl gi_d46 (by decide) (by decide) ⟨rfl, eT, rfl⟩
theorem gi_met (l : Launch) (Z : State) (a0 : Array Value) (hw : ∀ d ∈ tables_1, d.before a0 Z = true) (ws : List Jvm.Cond) (h : Heap) (o0 : Addr) (i1 : Int32) (n : Nat) (k : Nat) (w : Nat → Value) (b0 : Int32) (b1 : Int32) (b2 : Int32) (b3 : Int32) (V : Ax Z h o0 .byte n w) (hk : i1.toInt = (k : Int)) (hn : k + 3 < n) (w0 : w k = .int b0) (w1 : w (k + 1) = .int b1) (w2 : w (k + 2) = .int b2) (w3 : w (k + 3) = .int b3) :
    Met l Z (⟨"com/example/razione/razione/radius/Attribute", "getInt", "([BI)I"⟩ : MethodName) prog_41_method_4_code 2 (some .int) ws (⟨0, 0, 0, 0⟩ : Room) #[(.ref o0), (.int i1)] h (PQ (some (.int (own_val b0 b1 b2 b3))) h []) :=
  met_of own_pn_gi hw fun p e s m below meth c T X B eT => Go.top (own_ef_gi m o0 i1) (gi_go X B eT o0 i1 n k w b0 b1 b2 b3 V hk hn w0 w1 w2 w3)
theorem own_byte (p : Int32) : ((nar .byte (p.toInt8.toInt32)) &&& (255 : Int32)).toInt = p.toInt % 256 ∧ (p &&& (255 : Int32)).toInt = p.toInt % 256 := by
  have e1 := c_mask (nar .byte (p.toInt8.toInt32)) 255 8 (by decide) (by decide)
  have e2 := c_mask p 255 8 (by decide) (by decide)
  have e3 := c_i2b (p.toInt8.toInt32); have e4 := c_i2b p
  have e5 : nar .byte (p.toInt8.toInt32) = p.toInt8.toInt32.toInt8.toInt32 := rfl
  rw [e5] at e1 ⊢
  omega
theorem own_valI (b0 b1 b2 b3 : Int32) (x0 x1 x2 x3 : Int) (h0 : (b0 &&& (255 : Int32)).toInt = x0 % 256) (h1 : (b1 &&& (255 : Int32)).toInt = x1 % 256) (h2 : (b2 &&& (255 : Int32)).toInt = x2 % 256) (h3 : (b3 &&& (255 : Int32)).toInt = x3 % 256) : (own_val b0 b1 b2 b3).toInt % 4294967296 = (x0 % 256) * 16777216 + (x1 % 256) * 65536 + (x2 % 256) * 256 + x3 % 256 := by
  unfold own_val
  generalize (b0 &&& (255 : Int32)) = a0 at *
  generalize (b1 &&& (255 : Int32)) = a1 at *
  generalize (b2 &&& (255 : Int32)) = a2 at *
  generalize (b3 &&& (255 : Int32)) = a3 at *
  have s0 := c_ishl a0 24 24 (by decide); have s1 := c_ishl a1 16 16 (by decide); have s2 := c_ishl a2 8 8 (by decide)
  generalize a0 <<< ((24 : Int32) &&& 31) = d0 at *
  generalize a1 <<< ((16 : Int32) &&& 31) = d1 at *
  generalize a2 <<< ((8 : Int32) &&& 31) = d2 at *
  have r1 := d1.toInt_lt; have r2 := d1.le_toInt; have r3 := d2.toInt_lt; have r4 := d2.le_toInt
  have o1 := c_or d0 d1 24 (by decide) 16777216 (by decide) (by omega) (by omega) (by omega)
  have o2 := c_or (d0 ||| d1) d2 16 (by decide) 65536 (by decide) (by omega) (by omega) (by omega)
  have o3 := c_or (d0 ||| d1 ||| d2) a3 8 (by decide) 256 (by decide) (by omega) (by omega) (by omega)
  omega
theorem own_ok (p0 p1 p2 p3 : Int32) : (own_val (nar .byte (p0.toInt8.toInt32)) (nar .byte (p1.toInt8.toInt32)) (nar .byte (p2.toInt8.toInt32)) (nar .byte (p3.toInt8.toInt32))).toInt64 &&& (4294967295 : Int64) = ((((p0 &&& (255 : Int32)).toInt64 * (16777216 : Int64)) + ((p1 &&& (255 : Int32)).toInt64 * (65536 : Int64))) + ((p2 &&& (255 : Int32)).toInt64 * (256 : Int64))) + (p3 &&& (255 : Int32)).toInt64 := by
  obtain ⟨u0, v0⟩ := own_byte p0; obtain ⟨u1, v1⟩ := own_byte p1; obtain ⟨u2, v2⟩ := own_byte p2; obtain ⟨u3, v3⟩ := own_byte p3
  have e := own_valI _ _ _ _ p0.toInt p1.toInt p2.toInt p3.toInt u0 u1 u2 u3
  generalize own_val (nar .byte (p0.toInt8.toInt32)) (nar .byte (p1.toInt8.toInt32)) (nar .byte (p2.toInt8.toInt32)) (nar .byte (p3.toInt8.toInt32)) = r at *
  have m := c_maskL r.toInt64 4294967295 32 (by decide) (by decide)
  have i := c_i2l r
  have j0 := c_i2l (p0 &&& 255); have j1 := c_i2l (p1 &&& 255); have j2 := c_i2l (p2 &&& 255); have j3 := c_i2l (p3 &&& 255)
  generalize (p0 &&& (255 : Int32)).toInt64 = y0 at *
  generalize (p1 &&& (255 : Int32)).toInt64 = y1 at *
  generalize (p2 &&& (255 : Int32)).toInt64 = y2 at *
  generalize (p3 &&& (255 : Int32)).toInt64 = y3 at *
  have l0 : (16777216 : Int64).toInt = 16777216 := by decide
  have l1 : (65536 : Int64).toInt = 65536 := by decide
  have l2 : (256 : Int64).toInt = 256 := by decide
  have m0 := c_lmul y0 16777216; have m1 := c_lmul y1 65536; have m2 := c_lmul y2 256
  rw [l0] at m0; rw [l1] at m1; rw [l2] at m2
  generalize y0 * (16777216 : Int64) = t0 at *
  generalize y1 * (65536 : Int64) = t1 at *
  generalize y2 * (256 : Int64) = t2 at *
  have r0 := t0.toInt_lt; have r0' := t0.le_toInt; have r1 := t1.toInt_lt; have r1' := t1.le_toInt; have r2 := t2.toInt_lt; have r2' := t2.le_toInt
  have a1 := c_ladd t0 t1; have a2 := c_ladd (t0 + t1) t2; have a3 := c_ladd (t0 + t1 + t2) y3
  have q1 := (t0 + t1).toInt_lt; have q1' := (t0 + t1).le_toInt; have q2 := (t0 + t1 + t2).toInt_lt; have q2' := (t0 + t1 + t2).le_toInt; have q3 := (t0 + t1 + t2 + y3).toInt_lt; have q3' := (t0 + t1 + t2 + y3).le_toInt
  apply Int64.toInt_inj.mp
  omega
theorem own_at (k : Int32) : 0 ≤ ((k &&& (2147483647 : Int32)) % (5 : Int32)).toInt ∧ ((k &&& (2147483647 : Int32)) % (5 : Int32)).toInt < 5 := by
  have e1 := c_mask k 2147483647 31 (by decide) (by decide)
  have e2 := (c_irem (k &&& 2147483647) 5 5 (by decide)).1 (by omega)
  omega
set_option maxRecDepth 65536 in
set_option maxHeartbeats 40000000 in
theorem law_go {p : Program} {l : Launch} {e : Env} {s : State} {m : MethodId} {args : Array Value} {below : List Frame} {meth : Method} {c : Code} {T : State} {Z : State} {a0 : Array Value} {h : Heap} (X : Stand p l e room_1 s m args below meth c T [] 0 0) (B : Bdy p s m meth c Z a0 "com/example/razione/razione/radius/AttributeGetIntPinLaw" "law" code 12 (some .boolean) tables_1) (eT : T.heap = h) (n0 : Nat) (Zs : n0 ≤ h.size) (i0 : Int32) (i1 : Int32) (i2 : Int32) (i3 : Int32) (i4 : Int32) (i5 : Int32)   :
    Go p e below s room_1.cells room_1.slots (fun v _ L => v = some (.int 1) ∧ Fr n0 L) (T.setTop (mkF m 0 #[.val (.int i0), .val (.int i1), .val (.int i2), .val (.int i3), .val (.int i4), .val (.int i5), .unset, .unset, .unset, .unset, .unset, .unset] [])) := by
  have N := Fr.nil n0
  refine g_iload X B at_0 (pc' := 2) rfl (v := i5) rfl ?_
  refine g_ldc X B (B.w 0 rfl) at_2 (pc' := 4) rfl ?_
  refine g_iand X B at_4 (pc' := 5) rfl ?_
  refine g_iconst X B at_5 (pc' := 6) rfl (v := (5 : Int32)) (by decide) ?_
  refine g_irem X B (by decide) at_6 (pc' := 7) rfl ?_
  refine g_istore X B at_7 (pc' := 9) rfl (Ls' := #[.val (.int i0), .val (.int i1), .val (.int i2), .val (.int i3), .val (.int i4), .val (.int i5), .val (.int ((i5 &&& (2147483647 : Int32)) % (5 : Int32))), .unset, .unset, .unset, .unset, .unset]) rfl ?_
  obtain ⟨at_, g_at_⟩ : ∃ z, z = ((i5 &&& (2147483647 : Int32)) % (5 : Int32)) := ⟨_, rfl⟩
  rw [← g_at_]
  obtain ⟨ka, hka, hk5⟩ : ∃ k : Nat, at_.toInt = (k : Int) ∧ k < 5 := ⟨at_.toInt.toNat, by have := own_at i5; rw [← g_at_] at this; omega, by have := own_at i5; rw [← g_at_] at this; omega⟩
  refine g_iload X B at_9 (pc' := 11) rfl (v := i4) rfl ?_
  refine g_i2b X B at_11 (pc' := 12) rfl ?_
  refine g_istore X B at_12 (pc' := 14) rfl (Ls' := #[.val (.int i0), .val (.int i1), .val (.int i2), .val (.int i3), .val (.int i4), .val (.int i5), .val (.int at_), .val (.int (i4.toInt8.toInt32)), .unset, .unset, .unset, .unset]) rfl ?_
  refine g_bipush X B at_14 (pc' := 16) rfl (v := (8 : Int32)) (by decide) ?_
  refine g_newA X B (aty := .byte) 8 8 (B.w 1 rfl) eT (by decide) (by decide) (by decide) at_16 (pc' := 18) rfl (by decide) (by decide) (fun T1 h1 o1 q1 X1 e1 E1 A1 => ?_)
  have G_o1 : n0 ≤ o1 := by rw [q1]; exact Zs
  have Zs_1 := Nat.le_trans Zs E1.1
  have A_o1 : Ax Z h1 o1 .byte 8 (fun _ => (.int (0 : Int32))) := A1
  refine g_astore X1 B at_18 (pc' := 20) rfl rfl (Ls' := #[.val (.int i0), .val (.int i1), .val (.int i2), .val (.int i3), .val (.int i4), .val (.int i5), .val (.int at_), .val (.int (i4.toInt8.toInt32)), .val (.ref o1), .unset, .unset, .unset]) rfl ?_
  refine g_aload X1 B at_20 (pc' := 22) rfl (v := (.ref o1)) rfl rfl ?_
  refine g_iconst X1 B at_22 (pc' := 23) rfl (v := (0 : Int32)) (by decide) ?_
  refine g_iload X1 B at_23 (pc' := 25) rfl (v := (i4.toInt8.toInt32)) rfl ?_
  refine g_bastoreB X1 B 0 e1 A_o1 (by decide) (by decide) at_25 (pc' := 26) rfl (fun T2 h2 X2 e2 W2 => ?_)
  have N2 := Fr.snoc X2 N G_o1
  have A_o1_2 := A_o1.set W2
  have Zs_2 := Nat.le_trans Zs_1 (Keep.of_wr W2).1
  refine g_aload X2 B at_26 (pc' := 28) rfl (v := (.ref o1)) rfl rfl ?_
  refine g_iconst X2 B at_28 (pc' := 29) rfl (v := (1 : Int32)) (by decide) ?_
  refine g_iload X2 B at_29 (pc' := 31) rfl (v := (i4.toInt8.toInt32)) rfl ?_
  refine g_bastoreB X2 B 1 e2 A_o1_2 (by decide) (by decide) at_31 (pc' := 32) rfl (fun T3 h3 X3 e3 W3 => ?_)
  have N3 := Fr.snoc X3 N2 G_o1
  have A_o1_3 := A_o1_2.set W3
  have Zs_3 := Nat.le_trans Zs_2 (Keep.of_wr W3).1
  refine g_aload X3 B at_32 (pc' := 34) rfl (v := (.ref o1)) rfl rfl ?_
  refine g_iconst X3 B at_34 (pc' := 35) rfl (v := (2 : Int32)) (by decide) ?_
  refine g_iload X3 B at_35 (pc' := 37) rfl (v := (i4.toInt8.toInt32)) rfl ?_
  refine g_bastoreB X3 B 2 e3 A_o1_3 (by decide) (by decide) at_37 (pc' := 38) rfl (fun T4 h4 X4 e4 W4 => ?_)
  have N4 := Fr.snoc X4 N3 G_o1
  have A_o1_4 := A_o1_3.set W4
  have Zs_4 := Nat.le_trans Zs_3 (Keep.of_wr W4).1
  refine g_aload X4 B at_38 (pc' := 40) rfl (v := (.ref o1)) rfl rfl ?_
  refine g_iconst X4 B at_40 (pc' := 41) rfl (v := (3 : Int32)) (by decide) ?_
  refine g_iload X4 B at_41 (pc' := 43) rfl (v := (i4.toInt8.toInt32)) rfl ?_
  refine g_bastoreB X4 B 3 e4 A_o1_4 (by decide) (by decide) at_43 (pc' := 44) rfl (fun T5 h5 X5 e5 W5 => ?_)
  have N5 := Fr.snoc X5 N4 G_o1
  have A_o1_5 := A_o1_4.set W5
  have Zs_5 := Nat.le_trans Zs_4 (Keep.of_wr W5).1
  refine g_aload X5 B at_44 (pc' := 46) rfl (v := (.ref o1)) rfl rfl ?_
  refine g_iconst X5 B at_46 (pc' := 47) rfl (v := (4 : Int32)) (by decide) ?_
  refine g_iload X5 B at_47 (pc' := 49) rfl (v := (i4.toInt8.toInt32)) rfl ?_
  refine g_bastoreB X5 B 4 e5 A_o1_5 (by decide) (by decide) at_49 (pc' := 50) rfl (fun T6 h6 X6 e6 W6 => ?_)
  have N6 := Fr.snoc X6 N5 G_o1
  have A_o1_6 := A_o1_5.set W6
  have Zs_6 := Nat.le_trans Zs_5 (Keep.of_wr W6).1
  refine g_aload X6 B at_50 (pc' := 52) rfl (v := (.ref o1)) rfl rfl ?_
  refine g_iconst X6 B at_52 (pc' := 53) rfl (v := (5 : Int32)) (by decide) ?_
  refine g_iload X6 B at_53 (pc' := 55) rfl (v := (i4.toInt8.toInt32)) rfl ?_
  refine g_bastoreB X6 B 5 e6 A_o1_6 (by decide) (by decide) at_55 (pc' := 56) rfl (fun T7 h7 X7 e7 W7 => ?_)
  have N7 := Fr.snoc X7 N6 G_o1
  have A_o1_7 := A_o1_6.set W7
  have Zs_7 := Nat.le_trans Zs_6 (Keep.of_wr W7).1
  refine g_aload X7 B at_56 (pc' := 58) rfl (v := (.ref o1)) rfl rfl ?_
  refine g_bipush X7 B at_58 (pc' := 60) rfl (v := (6 : Int32)) (by decide) ?_
  refine g_iload X7 B at_60 (pc' := 62) rfl (v := (i4.toInt8.toInt32)) rfl ?_
  refine g_bastoreB X7 B 6 e7 A_o1_7 (by decide) (by decide) at_62 (pc' := 63) rfl (fun T8 h8 X8 e8 W8 => ?_)
  have N8 := Fr.snoc X8 N7 G_o1
  have A_o1_8 := A_o1_7.set W8
  have Zs_8 := Nat.le_trans Zs_7 (Keep.of_wr W8).1
  refine g_aload X8 B at_63 (pc' := 65) rfl (v := (.ref o1)) rfl rfl ?_
  refine g_bipush X8 B at_65 (pc' := 67) rfl (v := (7 : Int32)) (by decide) ?_
  refine g_iload X8 B at_67 (pc' := 69) rfl (v := (i4.toInt8.toInt32)) rfl ?_
  refine g_bastoreB X8 B 7 e8 A_o1_8 (by decide) (by decide) at_69 (pc' := 70) rfl (fun T9 h9 X9 e9 W9 => ?_)
  have N9 := Fr.snoc X9 N8 G_o1
  have A_o1_9 := A_o1_8.set W9
  have Zs_9 := Nat.le_trans Zs_8 (Keep.of_wr W9).1
  refine g_aload X9 B at_70 (pc' := 72) rfl (v := (.ref o1)) rfl rfl ?_
  refine g_iload X9 B at_72 (pc' := 74) rfl (v := at_) rfl ?_
  refine g_iloadN X9 B at_74 (pc' := 75) rfl (v := i0) rfl ?_
  refine g_i2b X9 B at_75 (pc' := 76) rfl ?_
  refine g_bastoreB X9 B ka e9 A_o1_9 hka (by omega) at_76 (pc' := 77) rfl (fun T10 h10 X10 e10 W10 => ?_)
  have N10 := Fr.snoc X10 N9 G_o1
  have A_o1_10 := A_o1_9.set W10
  have Zs_10 := Nat.le_trans Zs_9 (Keep.of_wr W10).1
  refine g_aload X10 B at_77 (pc' := 79) rfl (v := (.ref o1)) rfl rfl ?_
  refine g_iload X10 B at_79 (pc' := 81) rfl (v := at_) rfl ?_
  refine g_iconst X10 B at_81 (pc' := 82) rfl (v := (1 : Int32)) (by decide) ?_
  refine g_iadd X10 B at_82 (pc' := 83) rfl ?_
  refine g_iloadN X10 B at_83 (pc' := 84) rfl (v := i1) rfl ?_
  refine g_i2b X10 B at_84 (pc' := 85) rfl ?_
  refine g_bastoreB X10 B (ka + 1) e10 A_o1_10 (own_ip hka (by decide) (by omega)) (by omega) at_85 (pc' := 86) rfl (fun T11 h11 X11 e11 W11 => ?_)
  have N11 := Fr.snoc X11 N10 G_o1
  have A_o1_11 := A_o1_10.set W11
  have Zs_11 := Nat.le_trans Zs_10 (Keep.of_wr W11).1
  refine g_aload X11 B at_86 (pc' := 88) rfl (v := (.ref o1)) rfl rfl ?_
  refine g_iload X11 B at_88 (pc' := 90) rfl (v := at_) rfl ?_
  refine g_iconst X11 B at_90 (pc' := 91) rfl (v := (2 : Int32)) (by decide) ?_
  refine g_iadd X11 B at_91 (pc' := 92) rfl ?_
  refine g_iloadN X11 B at_92 (pc' := 93) rfl (v := i2) rfl ?_
  refine g_i2b X11 B at_93 (pc' := 94) rfl ?_
  refine g_bastoreB X11 B (ka + 2) e11 A_o1_11 (own_ip hka (by decide) (by omega)) (by omega) at_94 (pc' := 95) rfl (fun T12 h12 X12 e12 W12 => ?_)
  have N12 := Fr.snoc X12 N11 G_o1
  have A_o1_12 := A_o1_11.set W12
  have Zs_12 := Nat.le_trans Zs_11 (Keep.of_wr W12).1
  refine g_aload X12 B at_95 (pc' := 97) rfl (v := (.ref o1)) rfl rfl ?_
  refine g_iload X12 B at_97 (pc' := 99) rfl (v := at_) rfl ?_
  refine g_iconst X12 B at_99 (pc' := 100) rfl (v := (3 : Int32)) (by decide) ?_
  refine g_iadd X12 B at_100 (pc' := 101) rfl ?_
  refine g_iloadN X12 B at_101 (pc' := 102) rfl (v := i3) rfl ?_
  refine g_i2b X12 B at_102 (pc' := 103) rfl ?_
  refine g_bastoreB X12 B (ka + 3) e12 A_o1_12 (own_ip hka (by decide) (by omega)) (by omega) at_103 (pc' := 104) rfl (fun T13 h13 X13 e13 W13 => ?_)
  have N13 := Fr.snoc X13 N12 G_o1
  have A_o1_13 := A_o1_12.set W13
  have Zs_13 := Nat.le_trans Zs_12 (Keep.of_wr W13).1
  refine g_iloadN X13 B at_104 (pc' := 105) rfl (v := i0) rfl ?_
  refine g_sipush X13 B at_105 (pc' := 108) rfl (v := (255 : Int32)) (by decide) ?_
  refine g_iand X13 B at_108 (pc' := 109) rfl ?_
  refine g_i2l X13 B at_109 (pc' := 110) rfl ?_
  refine g_ldc2 X13 B (B.w 2 rfl) at_110 (pc' := 113) rfl ?_
  refine g_lmul X13 B at_113 (pc' := 114) rfl ?_
  refine g_iloadN X13 B at_114 (pc' := 115) rfl (v := i1) rfl ?_
  refine g_sipush X13 B at_115 (pc' := 118) rfl (v := (255 : Int32)) (by decide) ?_
  refine g_iand X13 B at_118 (pc' := 119) rfl ?_
  refine g_i2l X13 B at_119 (pc' := 120) rfl ?_
  refine g_ldc2 X13 B (B.w 3 rfl) at_120 (pc' := 123) rfl ?_
  refine g_lmul X13 B at_123 (pc' := 124) rfl ?_
  refine g_ladd X13 B at_124 (pc' := 125) rfl ?_
  refine g_iloadN X13 B at_125 (pc' := 126) rfl (v := i2) rfl ?_
  refine g_sipush X13 B at_126 (pc' := 129) rfl (v := (255 : Int32)) (by decide) ?_
  refine g_iand X13 B at_129 (pc' := 130) rfl ?_
  refine g_i2l X13 B at_130 (pc' := 131) rfl ?_
  refine g_ldc2 X13 B (B.w 4 rfl) at_131 (pc' := 134) rfl ?_
  refine g_lmul X13 B at_134 (pc' := 135) rfl ?_
  refine g_ladd X13 B at_135 (pc' := 136) rfl ?_
  refine g_iloadN X13 B at_136 (pc' := 137) rfl (v := i3) rfl ?_
  refine g_sipush X13 B at_137 (pc' := 140) rfl (v := (255 : Int32)) (by decide) ?_
  refine g_iand X13 B at_140 (pc' := 141) rfl ?_
  refine g_i2l X13 B at_141 (pc' := 142) rfl ?_
  refine g_ladd X13 B at_142 (pc' := 143) rfl ?_
  refine g_lstore X13 B at_143 (pc' := 145) rfl (Ls' := #[.val (.int i0), .val (.int i1), .val (.int i2), .val (.int i3), .val (.int i4), .val (.int i5), .val (.int at_), .val (.int (i4.toInt8.toInt32)), .val (.ref o1), .val (.long ((((((i0 &&& (255 : Int32)).toInt64) * (16777216 : Int64)) + (((i1 &&& (255 : Int32)).toInt64) * (65536 : Int64))) + (((i2 &&& (255 : Int32)).toInt64) * (256 : Int64))) + ((i3 &&& (255 : Int32)).toInt64))), .second, .unset]) rfl ?_
  refine g_aload X13 B at_145 (pc' := 147) rfl (v := (.ref o1)) rfl rfl ?_
  refine g_iload X13 B at_147 (pc' := 149) rfl (v := at_) rfl ?_
  refine g_callP X13 B e13 0 (y := (⟨"com/example/razione/razione/radius/Attribute", "getInt", "([BI)I"⟩ : MethodName)) (argsL := [(.ref o1), (.int at_)]) (rest := []) (w := (.int (own_val (nar .byte (i0.toInt8.toInt32)) (nar .byte (i1.toInt8.toInt32)) (nar .byte (i2.toInt8.toInt32)) (nar .byte (i3.toInt8.toInt32))))) (B.w 5 rfl) (B.w 6 rfl) (B.w 7 rfl) (B.w 8 rfl) (by decide) (gi_met l Z a0 B.2.2.1 [] h13 o1 at_ 8 ka _ (nar .byte (i0.toInt8.toInt32)) (nar .byte (i1.toInt8.toInt32)) (nar .byte (i2.toInt8.toInt32)) (nar .byte (i3.toInt8.toInt32)) A_o1_13 hka (by omega) (by show (if ka = ka + 3 then _ else if ka = ka + 2 then _ else if ka = ka + 1 then _ else if ka = ka then _ else _) = _; rw [if_neg (by omega), if_neg (by omega), if_neg (by omega), if_pos rfl]) (by show (if ka + 1 = ka + 3 then _ else if ka + 1 = ka + 2 then _ else if ka + 1 = ka + 1 then _ else _) = _; rw [if_neg (by omega), if_neg (by omega), if_pos rfl]) (by show (if ka + 2 = ka + 3 then _ else if ka + 2 = ka + 2 then _ else _) = _; rw [if_neg (by omega), if_pos rfl]) (by show (if ka + 3 = ka + 3 then _ else _) = _; rw [if_pos rfl])) (by decide) (by decide) (by decide) (by decide) rfl (lenOf own_pd0 rfl) rfl (by decide) at_149 (pc' := 152) rfl (fun T14 X14 e14 => ?_)
  refine g_istore X14 B at_152 (pc' := 154) rfl (Ls' := #[.val (.int i0), .val (.int i1), .val (.int i2), .val (.int i3), .val (.int i4), .val (.int i5), .val (.int at_), .val (.int (i4.toInt8.toInt32)), .val (.ref o1), .val (.long ((((((i0 &&& (255 : Int32)).toInt64) * (16777216 : Int64)) + (((i1 &&& (255 : Int32)).toInt64) * (65536 : Int64))) + (((i2 &&& (255 : Int32)).toInt64) * (256 : Int64))) + ((i3 &&& (255 : Int32)).toInt64))), .second, .val (.int (own_val (nar .byte (i0.toInt8.toInt32)) (nar .byte (i1.toInt8.toInt32)) (nar .byte (i2.toInt8.toInt32)) (nar .byte (i3.toInt8.toInt32))))]) rfl ?_
  refine g_iload X14 B at_154 (pc' := 156) rfl (v := (own_val (nar .byte (i0.toInt8.toInt32)) (nar .byte (i1.toInt8.toInt32)) (nar .byte (i2.toInt8.toInt32)) (nar .byte (i3.toInt8.toInt32)))) rfl ?_
  refine g_i2l X14 B at_156 (pc' := 157) rfl ?_
  refine g_ldc2 X14 B (B.w 9 rfl) at_157 (pc' := 160) rfl ?_
  refine g_land X14 B at_160 (pc' := 161) rfl ?_
  refine g_lload X14 B at_161 (pc' := 163) rfl (v := ((((((i0 &&& (255 : Int32)).toInt64) * (16777216 : Int64)) + (((i1 &&& (255 : Int32)).toInt64) * (65536 : Int64))) + (((i2 &&& (255 : Int32)).toInt64) * (256 : Int64))) + ((i3 &&& (255 : Int32)).toInt64))) rfl ?_
  refine g_lcmp_ne X14 B at_163 at_164 (pcT := 171) (pcF := 167) (by decide) rfl rfl (fun c163_0 => ?_) (fun c163_0 => ?_)
  · refine g_iconst X14 B at_167 (pc' := 168) rfl (v := (1 : Int32)) (by decide) ?_
    refine g_goto X14 B at_168 (pc' := 172) (by decide) rfl ?_
    exact g_retN X14 B (t := .boolean) rfl (by simp) at_172 (by decide) (by decide) ⟨congrArg (fun z => some (Value.int z)) (by decide : nar .boolean (1 : Int32) = 1), N13⟩
  · exact absurd (own_ok _ _ _ _) c163_0
theorem own_pn_law : plainFor (⟨"com/example/razione/razione/radius/AttributeGetIntPinLaw", "law", "(IIIIII)Z"⟩ : MethodName) = true := plainFor_of_name (by first | (simp [plainName, overriddenIn]; done) | decide +kernel)
theorem own_ef_law (m : MethodId) (i0 : Int32) (i1 : Int32) (i2 : Int32) (i3 : Int32) (i4 : Int32) (i5 : Int32) : entryFrame m #[(.int i0), (.int i1), (.int i2), (.int i3), (.int i4), (.int i5)] 12 = (mkF m 0 #[.val (.int i0), .val (.int i1), .val (.int i2), .val (.int i3), .val (.int i4), .val (.int i5), .unset, .unset, .unset, .unset, .unset, .unset] []) := by first | (simp [entryFrame, mkF, argsToLocals, Value.category]; done) | rfl
theorem own_rm (l : Launch) (Z : State) (a0 : Array Value) (hw : ∀ d ∈ tables_1, d.before a0 Z = true) (ws : List Jvm.Cond) (h : Heap) (n0 : Nat) (Zs : n0 ≤ h.size) (i0 : Int32) (i1 : Int32) (i2 : Int32) (i3 : Int32) (i4 : Int32) (i5 : Int32)   :
    Met l Z x code maxLocals ret ws room_1 #[(.int i0), (.int i1), (.int i2), (.int i3), (.int i4), (.int i5)] h (fun v _ L => v = some (.int 1) ∧ Fr n0 L) :=
  met_of own_pn_law hw fun p e s m below meth c T X B eT => Go.top (own_ef_law m i0 i1 i2 i3 i4 i5) (law_go X B eT n0 Zs i0 i1 i2 i3 i4 i5  )
set_option maxRecDepth 65536 in
set_option maxHeartbeats 40000000 in
theorem comes_1 {Post : Tables → Env → Array Value → State → Outcome → State → Prop} (hpost : ∀ tb e args s v u, (limb_1_1.after args s (.returned v) u = true ∧ limb_1_2.after args s (.returned v) u = true ∧ True) → FrameEnd s (.returned v) u (Jvm.fieldLocs frame_1_writes args s ++ Jvm.arrayLocs frame_1_arrays args s ++ Jvm.staticLocs frame_1_statics s) 16 128 → Post tb e args s (.returned v) u) :
    ArmFor flags0 classFile x code maxLocals ret World_1 tables_1 room_1 Calls_1 rest_1 Pre_1 Post := by
  intro l hfl _ _ p e ha hc hk s m args below hf hA hF happ hP
  obtain ⟨hcalls, hrest, hpre⟩ := hP
  obtain ⟨-, -, -, hnamed, -, -, -, hat⟩ := (Spec.applies_iff hf).mp happ
  obtain ⟨hg, hn⟩ := and_e (Cond.before_iff.mp (show (Jvm.Cond.and given_1 narrow_1).before args s = true from hpre))
  obtain ⟨h1, g1⟩ := and_e hg
  obtain ⟨k0, g2⟩ := and_e g1
  obtain ⟨k1, g3⟩ := and_e g2
  obtain ⟨k2, g4⟩ := and_e g3
  obtain ⟨k3, g5⟩ := and_e g4
  obtain ⟨k4, g6⟩ := and_e g5
  obtain ⟨w0, w1, w2, w3, w4, w5, rfl⟩ : ∃ w0 w1 w2 w3 w4 w5 : Value, args = #[w0, w1, w2, w3, w4, w5] := by
    have hs : args.size = 6 := by simpa [Cond.value, given_1] using h1
    obtain ⟨L⟩ := args
    match L, hs with
    | [w0, w1, w2, w3, w4, w5], _ => exact ⟨w0, w1, w2, w3, w4, w5, rfl⟩
  have hw := fun d (hd : d ∈ tables_1) => atoms_spec (ws := Jvm.Cond.code x code maxLocals ret :: tables_1) hat d (List.mem_cons_of_mem _ hd)
  obtain ⟨z0, q0⟩ := is_v k0
  obtain rfl : w0 = (.int z0) := Option.some.inj q0
  obtain ⟨z1, q1⟩ := is_v k1
  obtain rfl : w1 = (.int z1) := Option.some.inj q1
  obtain ⟨z2, q2⟩ := is_v k2
  obtain rfl : w2 = (.int z2) := Option.some.inj q2
  obtain ⟨z3, q3⟩ := is_v k3
  obtain rfl : w3 = (.int z3) := Option.some.inj q3
  obtain ⟨z4, q4⟩ := is_v k4
  obtain rfl : w4 = (.int z4) := Option.some.inj q4
  obtain ⟨z5, q5⟩ := is_v g6
  obtain rfl : w5 = (.int z5) := Option.some.inj q5
  obtain ⟨n, o, h1, h2, h3, _, L, rfl, ⟨rfl, N⟩, hq⟩ := own_rm l s _ hw tables_1 s.heap s.heap.size (Nat.le_refl _) z0 z1 z2 z3 z4 z5  p e ha hc hk s m _ below hf ((Spec.applies_iff_loose hf).mp happ).1 ⟨rfl, State.Warmed39.refl s, rfl⟩ trivial
  refine ⟨n, _, h1, h2, h3, hpost _ _ _ _ _ _ ⟨Cond.after_iff.mpr rfl, Cond.after_iff.mpr (eq_i res_at (Term.int_eval (1)) rfl), trivial⟩ ⟨hq.1, hq.2.1, (hq.2.2.sift fun y hy => Or.inr (N y hy)).mono (by decide) (by decide)⟩⟩
theorem main_1_1 : Claimed_1_1 := comes_1 fun _ _ _ _ _ _ h hF => ⟨h.1, hF⟩
theorem main_1_2 : Claimed_1_2 := comes_1 fun _ _ _ _ _ _ h hF => ⟨h.2.1, hF⟩
end Jvm.Pilot.@@N@@
namespace Jvm.Pilot.@@N@@
open Jvm Jvm.ClassFile Sem Op Lib Jvm.Free Jvm.Stand Jvm.Pilot.@@N@@.Jvm.D
/-! MADE BY PROGRAM (witnessworld.py) out of the Statement's table words and the real class files: 10 classes; the members and pool entries that the words name. The judged class is class 1, her method 1. -/
namespace start1
open Jvm.ClassFile
def u (s : String) : CpInfo := .utf8 (stringToUtf16 s)
/-- a pool by its gaps: so many unusable entries, then the entry; so many at the end -/
def gap : Nat → List CpInfo → List CpInfo
  | 0, r => r
  | n + 1, r => .unusable :: gap n r
def poolList (es : List (Nat × CpInfo)) (last : Nat) : List CpInfo := es.foldr (fun e r => gap e.1 (e.2 :: r)) (gap last [])
def pool (es : List (Nat × CpInfo)) (last : Nat) : Array CpInfo := ⟨poolList es last⟩
def fileOf (pool : Array CpInfo) (this : Nat) (attrs : Array Attribute := #[]) (ms : Array MethodInfo := #[]) (fl : Nat := 33) (sup : Nat := 0) (ifs : Array Nat := #[]) (fds : Array FieldInfo := #[]) : ClassFile where
  minorVersion := 0
  majorVersion := 65
  constantPool := pool
  accessFlags := fl
  thisClass := this
  superClass := sup
  interfaces := ifs
  fields := fds
  methods := ms
  attributes := attrs
def plain (name : String) (sup : Option ClassId) : Class where
  name := name
  kind := .ordinary
  loader := none
  accessFlags := 33
  super := sup
  interfaces := #[]
  cf := none
  fields := #[]
  methods := #[]
  instanceTypes := #[]
  staticTypes := #[]
  resolved := #[]
  callSites := []
  init := .initialized
  statics := none
  mirror := none

def pool0 : Array CpInfo := pool [(5, u "<init>"), (0, u "()V"), (1, .class_ 10), (1, u "java/lang/Object")] 113

def k0m0 : Method := { name := "<init>", desc := "()V", sig := { parameters := [], returnType := none }, accessFlags := 1, code := none }
/-- java/lang/Object -/
def k0 : Class := { plain "java/lang/Object" none with
  accessFlags := 33
  interfaces := #[]
  cf := some (fileOf pool0 8 #[] #[{ accessFlags := 1, nameIndex := 5, descriptorIndex := 6, attributes := #[] }] 33 0 #[] #[])
  fields := #[]
  methods := #[k0m0]
  instanceTypes := #[]
  staticTypes := #[]
  resolved := Array.replicate 124 none
  statics := none }

def pool1 : Array CpInfo := pool [(2, .class_ 4), (1, u "java/lang/Object"), (0, u "<init>"), (0, u "()V"), (0, .integer 2147483647), (0, .long 16777216), (1, .long 65536), (1, .long 256), (1, .methodref 15 16), (0, .class_ 17), (0, .nameAndType 18 19), (0, u "com/example/razione/razione/radius/Attribute"), (0, u "getInt"), (0, u "([BI)I"), (0, .long 4294967295), (1, .class_ 23), (0, u "com/example/razione/razione/radius/AttributeGetIntPinLaw"), (2, u "law"), (0, u "(IIIIII)Z")] 5

def k1m0 : Method := { name := "<init>", desc := "()V", sig := { parameters := [], returnType := none }, accessFlags := 1, code := none }
def k1c1 : Code := { maxStack := 6, maxLocals := 12, code := code, exceptionTable := #[], attributes := #[] }
def k1m1 : Method := { name := "law", desc := "(IIIIII)Z", sig := { parameters := [.int, .int, .int, .int, .int, .int], returnType := some .boolean }, accessFlags := 9, code := some k1c1 }
/-- com/example/razione/razione/radius/AttributeGetIntPinLaw -/
def k1 : Class := { plain "com/example/razione/razione/radius/AttributeGetIntPinLaw" (some 0) with
  accessFlags := 49
  interfaces := #[]
  cf := some (fileOf pool1 22 #[] #[{ accessFlags := 1, nameIndex := 5, descriptorIndex := 6, attributes := #[] }, { accessFlags := 9, nameIndex := 26, descriptorIndex := 27, attributes := #[] }] 49 2 #[] #[])
  fields := #[]
  methods := #[k1m0, k1m1]
  instanceTypes := #[]
  staticTypes := #[]
  resolved := Array.replicate 33 none
  statics := none }

def pool2 : Array CpInfo := pool [(2, .class_ 4), (1, u "java/lang/Object"), (0, u "<init>"), (0, u "()V"), (0, .class_ 8), (0, u "java/lang/Record")] 13

def k2m0 : Method := { name := "<init>", desc := "()V", sig := { parameters := [], returnType := none }, accessFlags := 4, code := none }
/-- java/lang/Record -/
def k2 : Class := { plain "java/lang/Record" (some 0) with
  accessFlags := 1057
  interfaces := #[]
  cf := some (fileOf pool2 7 #[] #[{ accessFlags := 4, nameIndex := 5, descriptorIndex := 6, attributes := #[] }] 1057 2 #[] #[])
  fields := #[]
  methods := #[k2m0]
  instanceTypes := #[]
  staticTypes := #[]
  resolved := Array.replicate 22 none
  statics := none }

def pool3 : Array CpInfo := pool [(2, .class_ 4), (1, u "java/lang/Record"), (2, .class_ 8), (0, u "com/example/razione/razione/radius/Attribute"), (11, u "type"), (0, u "I"), (2, u "value"), (0, u "[B"), (142, u "USER_NAME"), (2, u "USER_PASSWORD"), (1, u "REPLY_MESSAGE"), (1, u "CLASS"), (1, u "VENDOR_SPECIFIC"), (1, u "SESSION_TIMEOUT"), (1, u "PROXY_STATE"), (1, u "ACCT_STATUS_TYPE"), (1, u "ACCT_INPUT_OCTETS"), (1, u "ACCT_OUTPUT_OCTETS"), (1, u "ACCT_SESSION_TIME"), (1, u "ACCT_INPUT_GIGAWORDS"), (1, u "ACCT_OUTPUT_GIGAWORDS"), (1, u "MESSAGE_AUTHENTICATOR"), (1, u "MAX_VALUE_OCTETS"), (1, u "HEADER_OCTETS"), (7, u "getInt"), (0, u "([BI)I")] 57

def k3c0 : Code := { maxStack := 4, maxLocals := 2, code := prog_41_method_4_code, exceptionTable := #[], attributes := #[] }
def k3m0 : Method := { name := "getInt", desc := "([BI)I", sig := { parameters := [(.array .byte), .int], returnType := some .int }, accessFlags := 8, code := some k3c0 }
/-- com/example/razione/razione/radius/Attribute -/
def k3 : Class := { plain "com/example/razione/razione/radius/Attribute" (some 2) with
  accessFlags := 48
  interfaces := #[]
  cf := some (fileOf pool3 7 #[] #[{ accessFlags := 8, nameIndex := 207, descriptorIndex := 208, attributes := #[] }] 48 2 #[] #[{ accessFlags := 18, nameIndex := 20, descriptorIndex := 21, attributes := #[] }, { accessFlags := 18, nameIndex := 24, descriptorIndex := 25, attributes := #[] }, { accessFlags := 24, nameIndex := 168, descriptorIndex := 21, attributes := #[] }, { accessFlags := 24, nameIndex := 171, descriptorIndex := 21, attributes := #[] }, { accessFlags := 24, nameIndex := 173, descriptorIndex := 21, attributes := #[] }, { accessFlags := 24, nameIndex := 175, descriptorIndex := 21, attributes := #[] }, { accessFlags := 24, nameIndex := 177, descriptorIndex := 21, attributes := #[] }, { accessFlags := 24, nameIndex := 179, descriptorIndex := 21, attributes := #[] }, { accessFlags := 24, nameIndex := 181, descriptorIndex := 21, attributes := #[] }, { accessFlags := 24, nameIndex := 183, descriptorIndex := 21, attributes := #[] }, { accessFlags := 24, nameIndex := 185, descriptorIndex := 21, attributes := #[] }, { accessFlags := 24, nameIndex := 187, descriptorIndex := 21, attributes := #[] }, { accessFlags := 24, nameIndex := 189, descriptorIndex := 21, attributes := #[] }, { accessFlags := 24, nameIndex := 191, descriptorIndex := 21, attributes := #[] }, { accessFlags := 24, nameIndex := 193, descriptorIndex := 21, attributes := #[] }, { accessFlags := 24, nameIndex := 195, descriptorIndex := 21, attributes := #[] }, { accessFlags := 24, nameIndex := 197, descriptorIndex := 21, attributes := #[] }, { accessFlags := 24, nameIndex := 199, descriptorIndex := 21, attributes := #[] }])
  fields := #[{ name := "type", type := .int, accessFlags := 18, slot := 0, constantValue := 0 }, { name := "value", type := (.array .byte), accessFlags := 18, slot := 1, constantValue := 0 }, { name := "USER_NAME", type := .int, accessFlags := 24, slot := 0, constantValue := 0 }, { name := "USER_PASSWORD", type := .int, accessFlags := 24, slot := 1, constantValue := 0 }, { name := "REPLY_MESSAGE", type := .int, accessFlags := 24, slot := 2, constantValue := 0 }, { name := "CLASS", type := .int, accessFlags := 24, slot := 3, constantValue := 0 }, { name := "VENDOR_SPECIFIC", type := .int, accessFlags := 24, slot := 4, constantValue := 0 }, { name := "SESSION_TIMEOUT", type := .int, accessFlags := 24, slot := 5, constantValue := 0 }, { name := "PROXY_STATE", type := .int, accessFlags := 24, slot := 6, constantValue := 0 }, { name := "ACCT_STATUS_TYPE", type := .int, accessFlags := 24, slot := 7, constantValue := 0 }, { name := "ACCT_INPUT_OCTETS", type := .int, accessFlags := 24, slot := 8, constantValue := 0 }, { name := "ACCT_OUTPUT_OCTETS", type := .int, accessFlags := 24, slot := 9, constantValue := 0 }, { name := "ACCT_SESSION_TIME", type := .int, accessFlags := 24, slot := 10, constantValue := 0 }, { name := "ACCT_INPUT_GIGAWORDS", type := .int, accessFlags := 24, slot := 11, constantValue := 0 }, { name := "ACCT_OUTPUT_GIGAWORDS", type := .int, accessFlags := 24, slot := 12, constantValue := 0 }, { name := "MESSAGE_AUTHENTICATOR", type := .int, accessFlags := 24, slot := 13, constantValue := 0 }, { name := "MAX_VALUE_OCTETS", type := .int, accessFlags := 24, slot := 14, constantValue := 0 }, { name := "HEADER_OCTETS", type := .int, accessFlags := 24, slot := 15, constantValue := 0 }]
  methods := #[k3m0]
  instanceTypes := #[.int, (.array .byte)]
  staticTypes := #[.int, .int, .int, .int, .int, .int, .int, .int, .int, .int, .int, .int, .int, .int, .int, .int]
  resolved := Array.replicate 266 none
  statics := none }

def pool4 : Array CpInfo := pool [(1, u "java/lang/Cloneable"), (0, .class_ 1), (0, u "java/lang/Object"), (0, .class_ 3)] 3

/-- java/lang/Cloneable -/
def k4 : Class := { plain "java/lang/Cloneable" (some 0) with
  accessFlags := 1537
  interfaces := #[]
  cf := some (fileOf pool4 2 #[] #[] 1537 4 #[] #[])
  fields := #[]
  methods := #[]
  instanceTypes := #[]
  staticTypes := #[]
  resolved := Array.replicate 8 none
  statics := none }

def pool5 : Array CpInfo := pool [(1, u "java/io/Serializable"), (0, .class_ 1), (0, u "java/lang/Object"), (0, .class_ 3)] 3

/-- java/io/Serializable -/
def k5 : Class := { plain "java/io/Serializable" (some 0) with
  accessFlags := 1537
  interfaces := #[]
  cf := some (fileOf pool5 2 #[] #[] 1537 4 #[] #[])
  fields := #[]
  methods := #[]
  instanceTypes := #[]
  staticTypes := #[]
  resolved := Array.replicate 8 none
  statics := none }

/-- the primitive byte -/
def k6 : Class := { plain "byte" none with kind := .primitive 'B', accessFlags := 0x411 }
/-- [B -/
def k7 : Class := { plain "[B" (some 0) with kind := .array 6 .byte, interfaces := #[4, 5], accessFlags := 1041 }

/-- the primitive int -/
def k8 : Class := { plain "int" none with kind := .primitive 'I', accessFlags := 0x411 }
/-- [I -/
def k9 : Class := { plain "[I" (some 0) with kind := .array 8 .int, interfaces := #[4, 5], accessFlags := 1041 }

def heap : Heap := #[]
def classes : Array Class := #[k0, k1, k2, k3, k4, k5, k6, k7, k8, k9]
def interned : List (Array UInt16 × Addr) := []
def slotsUsed : Nat := 0
def theMethod : MethodId := ⟨1, 1⟩
def args0 : Array Value := #[.int 5, .int 3, .int 7, .int 1, .int 2, .int 9]
def aboutOver (below : List Frame) : State where
  vm := { classes := classes, interned := interned.toArray }
  heap := heap
  slotsUsed := slotsUsed
  threads := #[{ frames := .invoking theMethod args0 :: below }]
def below0 : List Frame := [.native { method := ⟨0, 0⟩, args := #[] }]
def about1 : State := aboutOver below0
def p0 : Program := .bare "" "" ""
def e0 : Env := launch0.env 0 0 0
theorem w_frames : about1.frames = Frame.invoking theMethod args0 :: below0 := rfl
set_option maxRecDepth 65536 in
theorem w_args : argsFit about1.vm theMethod args0 = true := by decide +kernel
set_option maxRecDepth 65536 in
theorem w_heap : heapFits about1 = true := by decide +kernel
set_option maxRecDepth 65536 in
theorem w_runnable : about1.curStatus? = some .runnable := by decide +kernel
set_option maxRecDepth 65536 in
theorem w_alone : about1.alone = true := by decide +kernel
set_option maxRecDepth 65536 in
theorem w_named : about1.methodNamed? x = some theMethod := by decide +kernel
set_option maxRecDepth 65536 in
theorem w_hears : about1.hears theMethod below0 = true := by decide +kernel
set_option maxRecDepth 65536 in
theorem w_ripe : about1.ripe theMethod args0 below0 = true := by decide +kernel
theorem w_running : about1.status = .running := rfl
set_option maxRecDepth 65536 in
theorem w_room : about1.hasRoom e0.platform room_1 = true :=
  launch0.hasRoom_least _ room_1 (by decide +kernel) (by decide +kernel) (by decide +kernel) (by decide +kernel) (by decide +kernel) (by decide +kernel)
theorem allAtoms_all (ts : List Jvm.Cond) (a : Array Jvm.Value) (st : Jvm.State) : (allAtoms ts).before a st = ts.all (fun c => c.before a st) := by
  induction ts with
  | nil => rfl
  | cons c t ih =>
    show (Jvm.Cond.and c (allAtoms t)).before a st = _
    rw [Jvm.Cond.before_and, ih, List.all_cons]
def words1 : List Jvm.Cond := Jvm.Cond.code x code maxLocals ret :: tables_1
/-- a 'code' word, met by the world's own term for the bytes: nothing is compared byte by byte -/
theorem code_word {y : MethodName} {bytes : ByteArray} {mx : Nat} {rt : Option FieldType} {a : Array Value} {s : State} {m : MethodId} {meth : Method} {c : Code} (h1 : s.methodNamed? y = some m) (h2 : s.vm.method? m = some meth) (h3 : meth.code = some c) (h4 : c.code = bytes)
    (h5 : (c.maxLocals == mx && c.exceptionTable.isEmpty && decide (c.maxStack ≤ mostOperands) && decide (meth.sig.returnType = rt) && !meth.locks && decide (parseMethodDescriptor y.desc = some meth.sig)) = true) : (Jvm.Cond.code y bytes mx rt).before a s = true := by
  simp only [Bool.and_eq_true, beq_iff_eq, Bool.not_eq_true', decide_eq_true_eq] at h5
  obtain ⟨⟨⟨⟨⟨g1, g2⟩, g3⟩, g4⟩, g5⟩, g6⟩ := h5
  simp [Cond.before, Cond.holds, Cond.value, h1, h2, h3, h4, g1, g2, g3, g4, g5, g6]
def isCode : Jvm.Cond → Bool
  | .code _ _ _ _ => true
  | _ => false
theorem all_split {L : List Jvm.Cond} {P : Jvm.Cond → Bool} (h1 : L.all (fun c => isCode c || P c) = true) (h2 : ∀ c ∈ L.filter isCode, P c = true) : L.all P = true := by
  refine List.all_eq_true.mpr fun c hc => ?_
  have h := List.all_eq_true.mp h1 c hc
  rcases Bool.eq_false_or_eq_true (isCode c) with hi | hi
  · exact h2 c (List.mem_filter.mpr ⟨hc, hi⟩)
  · simpa [hi] using h
set_option maxRecDepth 65536 in
theorem w_c0 : (Jvm.Cond.code x code maxLocals ret).before args0 about1 = true := code_word (m := ⟨1, 1⟩) (meth := k1m1) (c := k1c1) (by decide +kernel) rfl rfl rfl (by decide +kernel)
set_option maxRecDepth 65536 in
theorem w_c1 : (Jvm.Cond.code ({ cls := "com/example/razione/razione/radius/Attribute", name := "getInt", desc := "([BI)I" } : Jvm.MethodName) prog_41_method_4_code (2 : Nat) (Option.some Jvm.ClassFile.FieldType.int)).before args0 about1 = true := code_word (m := ⟨3, 0⟩) (meth := k3m0) (c := k3c0) (by decide +kernel) rfl rfl rfl (by decide +kernel)
def codes1 : List Jvm.Cond := [Jvm.Cond.code x code maxLocals ret, Jvm.Cond.code ({ cls := "com/example/razione/razione/radius/Attribute", name := "getInt", desc := "([BI)I" } : Jvm.MethodName) prog_41_method_4_code (2 : Nat) (Option.some Jvm.ClassFile.FieldType.int)]
set_option maxRecDepth 65536 in
theorem codes_eq : words1.filter isCode = codes1 := rfl
theorem w_codes : ∀ c ∈ words1.filter isCode, c.before args0 about1 = true := by
  rw [codes_eq]
  intro c hc
  simp only [codes1, List.mem_cons, List.not_mem_nil, or_false] at hc
  rcases hc with rfl | rfl
  · exact w_c0
  · exact w_c1
set_option maxRecDepth 65536 in
theorem w_t1 : words1.all (fun c => isCode c || c.before args0 about1) = true := by decide +kernel
theorem w_tables : (allAtoms (Jvm.Cond.code x code maxLocals ret :: tables_1)).before args0 about1 = true := by
  rw [allAtoms_all]
  show words1.all (fun c => c.before args0 about1) = true
  refine all_split ?_ w_codes
  rw [w_t1]
set_option maxRecDepth 65536 in
theorem w_case : (Jvm.Cond.and given_1 narrow_1).before args0 about1 = true := by decide +kernel
theorem w_applies : (headSpec (Jvm.Cond.code x code maxLocals ret :: tables_1) room_1).applies x e0.platform about1 = true :=
  (Spec.applies_iff w_frames).mpr ⟨w_running, w_runnable, w_alone, w_named, w_hears, w_ripe, w_room, w_tables⟩
theorem atStart : AtStart classFile x code maxLocals ret World_1 tables_1 room_1 Calls_1 rest_1 Pre_1 launch0 p0 e0 about1 theMethod args0 below0 :=
  ⟨lists_1, trivial, launch0.admits_env _ _ _, launch0.least_env, fairChoices_fair.cas, fairChoices_fair.clock, w_frames, w_args, w_heap, w_applies, trivial, trivial, w_case⟩
end start1
theorem witness_1 : WitnessClaimed_1 := ⟨start1.p0, start1.e0, start1.about1, start1.theMethod, start1.args0, start1.below0, start1.atStart⟩
end Jvm.Pilot.@@N@@

import JvmDerived
import JvmDerived.Pilot.@@N@@Statement
import JvmDerived.Pilot.@@N@@Code
set_option linter.unusedVariables false
set_option linter.unusedSimpArgs false
namespace Jvm.Pilot.@@N@@
open Jvm Jvm.ClassFile Sem Op Lib Jvm.Free Jvm.Stand Jvm.LawKit Jvm.RoadKit Bundle Jvm.Pilot.@@N@@.Jvm.D
/-! own frame: 'Go': from here the run ends as Q says -/
def Go (p : Program) (e : Env) (below : List Frame) (s : State) (nc ns : Nat) (Q : Option Value → Heap → List Loc → Prop) (u : State) : Prop :=
  ∃ s₂ o, Steps p.tables e below u s₂ ∧ s₂.status = .running ∧ Ended s₂ below o ∧ ∃ v L, o = .returned v ∧ Q v s₂.heap L ∧ FrameEnd s o s₂ L nc ns
/-- what a body's walk stands on -/
def Bdy (p : Program) (s : State) (m : MethodId) (meth : Method) (c : Code) (Z : State) (a0 : Array Value) (own nm : String) (bytes : ByteArray) (maxL : Nat) (rt : Option FieldType) (tabs : List Jvm.Cond) : Prop :=
  p.tables.exec = Jvm.exec ∧ Z.Warmed39 s.vm ∧ (∀ d ∈ tabs, d.before a0 Z = true) ∧ c.code = bytes ∧ c.maxLocals = maxL ∧ s.vm.findClass own = some m.cls ∧ meth.sig.returnType = rt ∧ meth.locks = false ∧ meth.name = nm
def PQ (w : Option Value) (h : Heap) (locs : List Loc) : Option Value → Heap → List Loc → Prop := fun v h' L => v = w ∧ h' = h ∧ L = locs
section GoKit
variable {p : Program} {l : Launch} {e : Env} {R : Room} {s : State} {m : MethodId} {args : Array Value} {below : List Frame} {meth : Method} {c : Code} {T : State} {locs : List Loc} {cells slots : Nat} {Z : State} {a0 : Array Value} {h : Heap} {nc ns : Nat} {Q Q' : Option Value → Heap → List Loc → Prop} {pc pc' : Nat} {Ls Ls' : Array Slot} {St : List Value} {own nm : String} {bytes : ByteArray} {maxL : Nat} {rt : Option FieldType} {tabs : List Jvm.Cond}
theorem Go.step {u u' : State} (st : ∀ t, Steps p.tables e below u' t → Steps p.tables e below u t) (k : Go p e below s nc ns Q u') : Go p e below s nc ns Q u := by
  obtain ⟨s₂, o, h1, h2⟩ := k
  exact ⟨s₂, o, st _ h1, h2⟩
theorem Go.mono {u : State} (q : ∀ v h L, Q v h L → Q' v h L) (k : Go p e below s nc ns Q u) : Go p e below s nc ns Q' u := by
  obtain ⟨s₂, o, h1, h2, h3, v, L, h4, h5, h6⟩ := k
  exact ⟨s₂, o, h1, h2, h3, v, L, h4, q _ _ _ h5, h6⟩
theorem Go.wid {u : State} {nc' ns' : Nat} (q1 : nc ≤ nc') (q2 : ns ≤ ns') (k : Go p e below s nc ns Q u) : Go p e below s nc' ns' Q u := by
  obtain ⟨s₂, o, h1, h2, h3, v, L, h4, h5, h6, h7, h8⟩ := k
  exact ⟨s₂, o, h1, h2, h3, v, L, h4, h5, h6, h7, h8.mono q1 q2⟩
theorem Go.cw {u : State} {w w' : Option Value} (q : w = w') (k : Go p e below s nc ns (PQ w h locs) u) : Go p e below s nc ns (PQ w' h locs) u := q ▸ k
theorem Go.top {g g' : JFrame} (q : g = g') (k : Go p e below s nc ns Q (T.setTop g')) : Go p e below s nc ns Q (T.setTop g) := q ▸ k
theorem Bdy.w (B : Bdy p s m meth c Z a0 own nm bytes maxL rt tabs) {d : Jvm.Cond} (i : Nat) (q : tabs[i]? = some d) : d.before a0 Z = true := B.2.2.1 _ (List.mem_of_getElem? q)
theorem Bdy.d (B : Bdy p s m meth c Z a0 own nm bytes maxL rt tabs) {r : Except ClassFile.DecodeError (ClassFile.Instr × Nat)} (q : decode bytes pc = r) : decode c.code pc = r := hb B.2.2.2.1 q
theorem Bdy.x (B : Bdy p s m meth c Z a0 own nm bytes maxL rt tabs) : p.tables.exec = Jvm.exec := B.1
theorem Bdy.z (B : Bdy p s m meth c Z a0 own nm bytes maxL rt tabs) : Z.Warmed39 s.vm := B.2.1
theorem Bdy.ml (B : Bdy p s m meth c Z a0 own nm bytes maxL rt tabs) : c.maxLocals = maxL := B.2.2.2.2.1
theorem Bdy.o (B : Bdy p s m meth c Z a0 own nm bytes maxL rt tabs) : s.vm.findClass own = some m.cls := B.2.2.2.2.2.1
theorem Bdy.r (B : Bdy p s m meth c Z a0 own nm bytes maxL rt tabs) : meth.sig.returnType = rt := B.2.2.2.2.2.2.1
theorem Bdy.lk (B : Bdy p s m meth c Z a0 own nm bytes maxL rt tabs) : meth.locks = false := B.2.2.2.2.2.2.2.1
theorem Bdy.n (B : Bdy p s m meth c Z a0 own nm bytes maxL rt tabs) : meth.name = nm := B.2.2.2.2.2.2.2.2
theorem g_iloadN (X : Stand p l e R s m args below meth c T locs cells slots) (B : Bdy p s m meth c Z a0 own nm bytes maxL rt tabs) {k : Fin 4} {v : Int32} (hd : decode bytes pc = .ok (.iload_n k, 1)) (hp : pc + 1 = pc') (hl : Ls[k.val]? = some (.val (.int v))) (K : Go p e below s nc ns Q (T.setTop (mkF m pc' Ls (.int v :: St)))) : Go p e below s nc ns Q (T.setTop (mkF m pc Ls St)) := by
  subst hp; exact Go.step (fun t q => XS.iloadN X.here B.x (g := mkF m pc Ls St) rfl (B.d hd) hl q) K
theorem g_iload (X : Stand p l e R s m args below meth c T locs cells slots) (B : Bdy p s m meth c Z a0 own nm bytes maxL rt tabs) {k : Nat} {v : Int32} (hd : decode bytes pc = .ok (.iload k, 2)) (hp : pc + 2 = pc') (hl : Ls[k]? = some (.val (.int v))) (K : Go p e below s nc ns Q (T.setTop (mkF m pc' Ls (.int v :: St)))) : Go p e below s nc ns Q (T.setTop (mkF m pc Ls St)) := by
  subst hp; exact Go.step (fun t q => XS.iload X.here B.x (g := mkF m pc Ls St) rfl (B.d hd) hl q) K
theorem g_lloadN (X : Stand p l e R s m args below meth c T locs cells slots) (B : Bdy p s m meth c Z a0 own nm bytes maxL rt tabs) {k : Fin 4} {v : Int64} (hd : decode bytes pc = .ok (.lload_n k, 1)) (hp : pc + 1 = pc') (hl : Ls[k.val]? = some (.val (.long v))) (K : Go p e below s nc ns Q (T.setTop (mkF m pc' Ls (.long v :: St)))) : Go p e below s nc ns Q (T.setTop (mkF m pc Ls St)) := by
  subst hp; exact Go.step (fun t q => XS.lloadN X.here B.x (g := mkF m pc Ls St) rfl (B.d hd) hl q) K
theorem g_lload (X : Stand p l e R s m args below meth c T locs cells slots) (B : Bdy p s m meth c Z a0 own nm bytes maxL rt tabs) {k : Nat} {v : Int64} (hd : decode bytes pc = .ok (.lload k, 2)) (hp : pc + 2 = pc') (hl : Ls[k]? = some (.val (.long v))) (K : Go p e below s nc ns Q (T.setTop (mkF m pc' Ls (.long v :: St)))) : Go p e below s nc ns Q (T.setTop (mkF m pc Ls St)) := by
  subst hp; exact Go.step (fun t q => XS.lload X.here B.x (g := mkF m pc Ls St) rfl (B.d hd) hl q) K
theorem g_aloadN (X : Stand p l e R s m args below meth c T locs cells slots) (B : Bdy p s m meth c Z a0 own nm bytes maxL rt tabs) {k : Fin 4} {v : Value} (hd : decode bytes pc = .ok (.aload_n k, 1)) (hp : pc + 1 = pc') (hl : Ls[k.val]? = some (.val v)) (hv : v.isRef = true) (K : Go p e below s nc ns Q (T.setTop (mkF m pc' Ls (v :: St)))) : Go p e below s nc ns Q (T.setTop (mkF m pc Ls St)) := by
  subst hp; exact Go.step (fun t q => XS.aloadN X.here B.x (g := mkF m pc Ls St) rfl (B.d hd) hl hv q) K
theorem g_aload (X : Stand p l e R s m args below meth c T locs cells slots) (B : Bdy p s m meth c Z a0 own nm bytes maxL rt tabs) {k : Nat} {v : Value} (hd : decode bytes pc = .ok (.aload k, 2)) (hp : pc + 2 = pc') (hl : Ls[k]? = some (.val v)) (hv : v.isRef = true) (K : Go p e below s nc ns Q (T.setTop (mkF m pc' Ls (v :: St)))) : Go p e below s nc ns Q (T.setTop (mkF m pc Ls St)) := by
  subst hp; exact Go.step (fun t q => XS.aload X.here B.x (g := mkF m pc Ls St) rfl (B.d hd) hl hv q) K
theorem g_istoreN (X : Stand p l e R s m args below meth c T locs cells slots) (B : Bdy p s m meth c Z a0 own nm bytes maxL rt tabs) {k : Fin 4} {v : Int32} (hd : decode bytes pc = .ok (.istore_n k, 1)) (hp : pc + 1 = pc') (hl : storeLocals Ls k.val (.int v) = some Ls') (K : Go p e below s nc ns Q (T.setTop (mkF m pc' Ls' St))) : Go p e below s nc ns Q (T.setTop (mkF m pc Ls (.int v :: St))) := by
  subst hp; exact Go.step (fun t q => XS.istoreN X.here B.x (g := mkF m pc Ls (.int v :: St)) rfl (B.d hd) rfl hl q) K
theorem g_istore (X : Stand p l e R s m args below meth c T locs cells slots) (B : Bdy p s m meth c Z a0 own nm bytes maxL rt tabs) {k : Nat} {v : Int32} (hd : decode bytes pc = .ok (.istore k, 2)) (hp : pc + 2 = pc') (hl : storeLocals Ls k (.int v) = some Ls') (K : Go p e below s nc ns Q (T.setTop (mkF m pc' Ls' St))) : Go p e below s nc ns Q (T.setTop (mkF m pc Ls (.int v :: St))) := by
  subst hp; exact Go.step (fun t q => XS.istore X.here B.x (g := mkF m pc Ls (.int v :: St)) rfl (B.d hd) rfl hl q) K
theorem g_lstoreN (X : Stand p l e R s m args below meth c T locs cells slots) (B : Bdy p s m meth c Z a0 own nm bytes maxL rt tabs) {k : Fin 4} {v : Int64} (hd : decode bytes pc = .ok (.lstore_n k, 1)) (hp : pc + 1 = pc') (hl : storeLocals Ls k.val (.long v) = some Ls') (K : Go p e below s nc ns Q (T.setTop (mkF m pc' Ls' St))) : Go p e below s nc ns Q (T.setTop (mkF m pc Ls (.long v :: St))) := by
  subst hp; exact Go.step (fun t q => XS.lstoreN X.here B.x (g := mkF m pc Ls (.long v :: St)) rfl (B.d hd) rfl hl q) K
theorem g_lstore (X : Stand p l e R s m args below meth c T locs cells slots) (B : Bdy p s m meth c Z a0 own nm bytes maxL rt tabs) {k : Nat} {v : Int64} (hd : decode bytes pc = .ok (.lstore k, 2)) (hp : pc + 2 = pc') (hl : storeLocals Ls k (.long v) = some Ls') (K : Go p e below s nc ns Q (T.setTop (mkF m pc' Ls' St))) : Go p e below s nc ns Q (T.setTop (mkF m pc Ls (.long v :: St))) := by
  subst hp; exact Go.step (fun t q => XS.lstore X.here B.x (g := mkF m pc Ls (.long v :: St)) rfl (B.d hd) rfl hl q) K
theorem g_astoreN (X : Stand p l e R s m args below meth c T locs cells slots) (B : Bdy p s m meth c Z a0 own nm bytes maxL rt tabs) {k : Fin 4} {v : Value} (hd : decode bytes pc = .ok (.astore_n k, 1)) (hp : pc + 1 = pc') (hv : v.isRef = true) (hl : storeLocals Ls k.val v = some Ls') (K : Go p e below s nc ns Q (T.setTop (mkF m pc' Ls' St))) : Go p e below s nc ns Q (T.setTop (mkF m pc Ls (v :: St))) := by
  subst hp; exact Go.step (fun t q => XS.astoreN X.here B.x (g := mkF m pc Ls (v :: St)) rfl (B.d hd) rfl hv hl q) K
theorem g_astore (X : Stand p l e R s m args below meth c T locs cells slots) (B : Bdy p s m meth c Z a0 own nm bytes maxL rt tabs) {k : Nat} {v : Value} (hd : decode bytes pc = .ok (.astore k, 2)) (hp : pc + 2 = pc') (hv : v.isRef = true) (hl : storeLocals Ls k v = some Ls') (K : Go p e below s nc ns Q (T.setTop (mkF m pc' Ls' St))) : Go p e below s nc ns Q (T.setTop (mkF m pc Ls (v :: St))) := by
  subst hp; exact Go.step (fun t q => XS.astore X.here B.x (g := mkF m pc Ls (v :: St)) rfl (B.d hd) rfl hv hl q) K
theorem g_iinc (X : Stand p l e R s m args below meth c T locs cells slots) (B : Bdy p s m meth c Z a0 own nm bytes maxL rt tabs) {k : Nat} {i : Int} {v : Int32} (hd : decode bytes pc = .ok (.iinc k i, 3)) (hp : pc + 3 = pc') (hl : Ls[k]? = some (.val (.int v))) (hs : storeLocals Ls k (.int (v + Int32.ofInt i)) = some Ls') (K : Go p e below s nc ns Q (T.setTop (mkF m pc' Ls' St))) : Go p e below s nc ns Q (T.setTop (mkF m pc Ls St)) := by
  subst hp; exact Go.step (fun t q => XS.iinc X.here B.x (g := mkF m pc Ls St) rfl (B.d hd) hl hs q) K
theorem g_iconst (X : Stand p l e R s m args below meth c T locs cells slots) (B : Bdy p s m meth c Z a0 own nm bytes maxL rt tabs) {i : Int} {v : Int32} (hd : decode bytes pc = .ok (.iconst i, 1)) (hp : pc + 1 = pc') (hv : Int32.ofInt i = v) (K : Go p e below s nc ns Q (T.setTop (mkF m pc' Ls (.int v :: St)))) : Go p e below s nc ns Q (T.setTop (mkF m pc Ls St)) := by
  subst hp hv; exact Go.step (fun t q => XS.iconst X.here B.x (g := mkF m pc Ls St) rfl (B.d hd) q) K
theorem g_bipush (X : Stand p l e R s m args below meth c T locs cells slots) (B : Bdy p s m meth c Z a0 own nm bytes maxL rt tabs) {i : Int} {v : Int32} (hd : decode bytes pc = .ok (.bipush i, 2)) (hp : pc + 2 = pc') (hv : (Int8.ofInt i).toInt32 = v) (K : Go p e below s nc ns Q (T.setTop (mkF m pc' Ls (.int v :: St)))) : Go p e below s nc ns Q (T.setTop (mkF m pc Ls St)) := by
  subst hp hv; exact Go.step (fun t q => XS.bipush X.here B.x (g := mkF m pc Ls St) rfl (B.d hd) q) K
theorem g_sipush (X : Stand p l e R s m args below meth c T locs cells slots) (B : Bdy p s m meth c Z a0 own nm bytes maxL rt tabs) {i : Int} {v : Int32} (hd : decode bytes pc = .ok (.sipush i, 3)) (hp : pc + 3 = pc') (hv : (Int16.ofInt i).toInt32 = v) (K : Go p e below s nc ns Q (T.setTop (mkF m pc' Ls (.int v :: St)))) : Go p e below s nc ns Q (T.setTop (mkF m pc Ls St)) := by
  subst hp hv; exact Go.step (fun t q => XS.sipush X.here B.x (g := mkF m pc Ls St) rfl (B.d hd) q) K
theorem g_lconst (X : Stand p l e R s m args below meth c T locs cells slots) (B : Bdy p s m meth c Z a0 own nm bytes maxL rt tabs) {k : Fin 2} {v : Int64} (hd : decode bytes pc = .ok (.lconst k, 1)) (hp : pc + 1 = pc') (hv : Int64.ofNat k = v) (K : Go p e below s nc ns Q (T.setTop (mkF m pc' Ls (.long v :: St)))) : Go p e below s nc ns Q (T.setTop (mkF m pc Ls St)) := by
  subst hp hv; exact Go.step (fun t q => XS.lconst X.here B.x (g := mkF m pc Ls St) rfl (B.d hd) q) K
theorem g_null (X : Stand p l e R s m args below meth c T locs cells slots) (B : Bdy p s m meth c Z a0 own nm bytes maxL rt tabs) (hd : decode bytes pc = .ok (.aconst_null, 1)) (hp : pc + 1 = pc') (K : Go p e below s nc ns Q (T.setTop (mkF m pc' Ls (.null :: St)))) : Go p e below s nc ns Q (T.setTop (mkF m pc Ls St)) := by
  subst hp; exact Go.step (fun t q => XS.aconstNull X.here B.x (g := mkF m pc Ls St) rfl (B.d hd) q) K
theorem g_ldc (X : Stand p l e R s m args below meth c T locs cells slots) (B : Bdy p s m meth c Z a0 own nm bytes maxL rt tabs) {i : Nat} {v : Int32} (w : (Jvm.Cond.constant own i v).before a0 Z = true) (hd : decode bytes pc = .ok (.ldc i, 2)) (hp : pc + 2 = pc') (K : Go p e below s nc ns Q (T.setTop (mkF m pc' Ls (.int v :: St)))) : Go p e below s nc ns Q (T.setTop (mkF m pc Ls St)) := by
  subst hp; exact Go.step (fun t q => X.ldcInt B.x B.o (mvT B.z w) (g := mkF m pc Ls St) rfl (B.d hd) t q) K
theorem g_ldcw (X : Stand p l e R s m args below meth c T locs cells slots) (B : Bdy p s m meth c Z a0 own nm bytes maxL rt tabs) {i : Nat} {v : Int32} (w : (Jvm.Cond.constant own i v).before a0 Z = true) (hd : decode bytes pc = .ok (.ldc_w i, 3)) (hp : pc + 3 = pc') (K : Go p e below s nc ns Q (T.setTop (mkF m pc' Ls (.int v :: St)))) : Go p e below s nc ns Q (T.setTop (mkF m pc Ls St)) := by
  subst hp; exact Go.step (fun t q => X.ldcwInt B.x B.o (mvT B.z w) (g := mkF m pc Ls St) rfl (B.d hd) t q) K
theorem g_ldc2 (X : Stand p l e R s m args below meth c T locs cells slots) (B : Bdy p s m meth c Z a0 own nm bytes maxL rt tabs) {i : Nat} {v : Int64} (w : (Jvm.Cond.constantLong own i v).before a0 Z = true) (hd : decode bytes pc = .ok (.ldc2_w i, 3)) (hp : pc + 3 = pc') (K : Go p e below s nc ns Q (T.setTop (mkF m pc' Ls (.long v :: St)))) : Go p e below s nc ns Q (T.setTop (mkF m pc Ls St)) := by
  subst hp; exact Go.step (fun t q => X.ldc2Long B.x B.o (mvT B.z w) (g := mkF m pc Ls St) rfl (B.d hd) t q) K
theorem g_iadd (X : Stand p l e R s m args below meth c T locs cells slots) (B : Bdy p s m meth c Z a0 own nm bytes maxL rt tabs) {x y : Int32} (hd : decode bytes pc = .ok (.iadd, 1)) (hp : pc + 1 = pc') (K : Go p e below s nc ns Q (T.setTop (mkF m pc' Ls (.int (x + y) :: St)))) : Go p e below s nc ns Q (T.setTop (mkF m pc Ls (.int y :: .int x :: St))) := by
  subst hp; exact Go.step (fun t q => XS.iadd X.here B.x (g := mkF m pc Ls (.int y :: .int x :: St)) rfl (B.d hd) rfl q) K
theorem g_isub (X : Stand p l e R s m args below meth c T locs cells slots) (B : Bdy p s m meth c Z a0 own nm bytes maxL rt tabs) {x y : Int32} (hd : decode bytes pc = .ok (.isub, 1)) (hp : pc + 1 = pc') (K : Go p e below s nc ns Q (T.setTop (mkF m pc' Ls (.int (x - y) :: St)))) : Go p e below s nc ns Q (T.setTop (mkF m pc Ls (.int y :: .int x :: St))) := by
  subst hp; exact Go.step (fun t q => XS.isub X.here B.x (g := mkF m pc Ls (.int y :: .int x :: St)) rfl (B.d hd) rfl q) K
theorem g_imul (X : Stand p l e R s m args below meth c T locs cells slots) (B : Bdy p s m meth c Z a0 own nm bytes maxL rt tabs) {x y : Int32} (hd : decode bytes pc = .ok (.imul, 1)) (hp : pc + 1 = pc') (K : Go p e below s nc ns Q (T.setTop (mkF m pc' Ls (.int (x * y) :: St)))) : Go p e below s nc ns Q (T.setTop (mkF m pc Ls (.int y :: .int x :: St))) := by
  subst hp; exact Go.step (fun t q => XS.imul X.here B.x (g := mkF m pc Ls (.int y :: .int x :: St)) rfl (B.d hd) rfl q) K
theorem g_iand (X : Stand p l e R s m args below meth c T locs cells slots) (B : Bdy p s m meth c Z a0 own nm bytes maxL rt tabs) {x y : Int32} (hd : decode bytes pc = .ok (.iand, 1)) (hp : pc + 1 = pc') (K : Go p e below s nc ns Q (T.setTop (mkF m pc' Ls (.int (x &&& y) :: St)))) : Go p e below s nc ns Q (T.setTop (mkF m pc Ls (.int y :: .int x :: St))) := by
  subst hp; exact Go.step (fun t q => XS.iand X.here B.x (g := mkF m pc Ls (.int y :: .int x :: St)) rfl (B.d hd) rfl q) K
theorem g_ior (X : Stand p l e R s m args below meth c T locs cells slots) (B : Bdy p s m meth c Z a0 own nm bytes maxL rt tabs) {x y : Int32} (hd : decode bytes pc = .ok (.ior, 1)) (hp : pc + 1 = pc') (K : Go p e below s nc ns Q (T.setTop (mkF m pc' Ls (.int (x ||| y) :: St)))) : Go p e below s nc ns Q (T.setTop (mkF m pc Ls (.int y :: .int x :: St))) := by
  subst hp; exact Go.step (fun t q => XS.ior X.here B.x (g := mkF m pc Ls (.int y :: .int x :: St)) rfl (B.d hd) rfl q) K
theorem g_ixor (X : Stand p l e R s m args below meth c T locs cells slots) (B : Bdy p s m meth c Z a0 own nm bytes maxL rt tabs) {x y : Int32} (hd : decode bytes pc = .ok (.ixor, 1)) (hp : pc + 1 = pc') (K : Go p e below s nc ns Q (T.setTop (mkF m pc' Ls (.int (x ^^^ y) :: St)))) : Go p e below s nc ns Q (T.setTop (mkF m pc Ls (.int y :: .int x :: St))) := by
  subst hp; exact Go.step (fun t q => XS.ixor X.here B.x (g := mkF m pc Ls (.int y :: .int x :: St)) rfl (B.d hd) rfl q) K
theorem g_ishl (X : Stand p l e R s m args below meth c T locs cells slots) (B : Bdy p s m meth c Z a0 own nm bytes maxL rt tabs) {x z : Int32} {y : Int32} (hd : decode bytes pc = .ok (.ishl, 1)) (hp : pc + 1 = pc') (hz : x <<< (y &&& 31) = z) (K : Go p e below s nc ns Q (T.setTop (mkF m pc' Ls (.int z :: St)))) : Go p e below s nc ns Q (T.setTop (mkF m pc Ls (.int y :: .int x :: St))) := by
  subst hp hz; exact Go.step (fun t q => XS.ishl X.here B.x (g := mkF m pc Ls (.int y :: .int x :: St)) rfl (B.d hd) rfl q) K
theorem g_ishr (X : Stand p l e R s m args below meth c T locs cells slots) (B : Bdy p s m meth c Z a0 own nm bytes maxL rt tabs) {x z : Int32} {y : Int32} (hd : decode bytes pc = .ok (.ishr, 1)) (hp : pc + 1 = pc') (hz : x >>> (y &&& 31) = z) (K : Go p e below s nc ns Q (T.setTop (mkF m pc' Ls (.int z :: St)))) : Go p e below s nc ns Q (T.setTop (mkF m pc Ls (.int y :: .int x :: St))) := by
  subst hp hz; exact Go.step (fun t q => XS.ishr X.here B.x (g := mkF m pc Ls (.int y :: .int x :: St)) rfl (B.d hd) rfl q) K
theorem g_iushr (X : Stand p l e R s m args below meth c T locs cells slots) (B : Bdy p s m meth c Z a0 own nm bytes maxL rt tabs) {x z : Int32} {y : Int32} (hd : decode bytes pc = .ok (.iushr, 1)) (hp : pc + 1 = pc') (hz : (x.toUInt32 >>> (y &&& 31).toUInt32).toInt32 = z) (K : Go p e below s nc ns Q (T.setTop (mkF m pc' Ls (.int z :: St)))) : Go p e below s nc ns Q (T.setTop (mkF m pc Ls (.int y :: .int x :: St))) := by
  subst hp hz; exact Go.step (fun t q => XS.iushr X.here B.x (g := mkF m pc Ls (.int y :: .int x :: St)) rfl (B.d hd) rfl q) K
theorem g_ladd (X : Stand p l e R s m args below meth c T locs cells slots) (B : Bdy p s m meth c Z a0 own nm bytes maxL rt tabs) {x y : Int64} (hd : decode bytes pc = .ok (.ladd, 1)) (hp : pc + 1 = pc') (K : Go p e below s nc ns Q (T.setTop (mkF m pc' Ls (.long (x + y) :: St)))) : Go p e below s nc ns Q (T.setTop (mkF m pc Ls (.long y :: .long x :: St))) := by
  subst hp; exact Go.step (fun t q => XS.ladd X.here B.x (g := mkF m pc Ls (.long y :: .long x :: St)) rfl (B.d hd) rfl q) K
theorem g_lsub (X : Stand p l e R s m args below meth c T locs cells slots) (B : Bdy p s m meth c Z a0 own nm bytes maxL rt tabs) {x y : Int64} (hd : decode bytes pc = .ok (.lsub, 1)) (hp : pc + 1 = pc') (K : Go p e below s nc ns Q (T.setTop (mkF m pc' Ls (.long (x - y) :: St)))) : Go p e below s nc ns Q (T.setTop (mkF m pc Ls (.long y :: .long x :: St))) := by
  subst hp; exact Go.step (fun t q => XS.lsub X.here B.x (g := mkF m pc Ls (.long y :: .long x :: St)) rfl (B.d hd) rfl q) K
theorem g_lmul (X : Stand p l e R s m args below meth c T locs cells slots) (B : Bdy p s m meth c Z a0 own nm bytes maxL rt tabs) {x y : Int64} (hd : decode bytes pc = .ok (.lmul, 1)) (hp : pc + 1 = pc') (K : Go p e below s nc ns Q (T.setTop (mkF m pc' Ls (.long (x * y) :: St)))) : Go p e below s nc ns Q (T.setTop (mkF m pc Ls (.long y :: .long x :: St))) := by
  subst hp; exact Go.step (fun t q => XS.lmul X.here B.x (g := mkF m pc Ls (.long y :: .long x :: St)) rfl (B.d hd) rfl q) K
theorem g_land (X : Stand p l e R s m args below meth c T locs cells slots) (B : Bdy p s m meth c Z a0 own nm bytes maxL rt tabs) {x y : Int64} (hd : decode bytes pc = .ok (.land, 1)) (hp : pc + 1 = pc') (K : Go p e below s nc ns Q (T.setTop (mkF m pc' Ls (.long (x &&& y) :: St)))) : Go p e below s nc ns Q (T.setTop (mkF m pc Ls (.long y :: .long x :: St))) := by
  subst hp; exact Go.step (fun t q => XS.land X.here B.x (g := mkF m pc Ls (.long y :: .long x :: St)) rfl (B.d hd) rfl q) K
theorem g_lor (X : Stand p l e R s m args below meth c T locs cells slots) (B : Bdy p s m meth c Z a0 own nm bytes maxL rt tabs) {x y : Int64} (hd : decode bytes pc = .ok (.lor, 1)) (hp : pc + 1 = pc') (K : Go p e below s nc ns Q (T.setTop (mkF m pc' Ls (.long (x ||| y) :: St)))) : Go p e below s nc ns Q (T.setTop (mkF m pc Ls (.long y :: .long x :: St))) := by
  subst hp; exact Go.step (fun t q => XS.lor X.here B.x (g := mkF m pc Ls (.long y :: .long x :: St)) rfl (B.d hd) rfl q) K
theorem g_lxor (X : Stand p l e R s m args below meth c T locs cells slots) (B : Bdy p s m meth c Z a0 own nm bytes maxL rt tabs) {x y : Int64} (hd : decode bytes pc = .ok (.lxor, 1)) (hp : pc + 1 = pc') (K : Go p e below s nc ns Q (T.setTop (mkF m pc' Ls (.long (x ^^^ y) :: St)))) : Go p e below s nc ns Q (T.setTop (mkF m pc Ls (.long y :: .long x :: St))) := by
  subst hp; exact Go.step (fun t q => XS.lxor X.here B.x (g := mkF m pc Ls (.long y :: .long x :: St)) rfl (B.d hd) rfl q) K
theorem g_lshl (X : Stand p l e R s m args below meth c T locs cells slots) (B : Bdy p s m meth c Z a0 own nm bytes maxL rt tabs) {x z : Int64} {y : Int32} (hd : decode bytes pc = .ok (.lshl, 1)) (hp : pc + 1 = pc') (hz : x <<< (y &&& 63).toInt64 = z) (K : Go p e below s nc ns Q (T.setTop (mkF m pc' Ls (.long z :: St)))) : Go p e below s nc ns Q (T.setTop (mkF m pc Ls (.int y :: .long x :: St))) := by
  subst hp hz; exact Go.step (fun t q => XS.lshl X.here B.x (g := mkF m pc Ls (.int y :: .long x :: St)) rfl (B.d hd) rfl q) K
theorem g_lshr (X : Stand p l e R s m args below meth c T locs cells slots) (B : Bdy p s m meth c Z a0 own nm bytes maxL rt tabs) {x z : Int64} {y : Int32} (hd : decode bytes pc = .ok (.lshr, 1)) (hp : pc + 1 = pc') (hz : x >>> (y &&& 63).toInt64 = z) (K : Go p e below s nc ns Q (T.setTop (mkF m pc' Ls (.long z :: St)))) : Go p e below s nc ns Q (T.setTop (mkF m pc Ls (.int y :: .long x :: St))) := by
  subst hp hz; exact Go.step (fun t q => XS.lshr X.here B.x (g := mkF m pc Ls (.int y :: .long x :: St)) rfl (B.d hd) rfl q) K
theorem g_lushr (X : Stand p l e R s m args below meth c T locs cells slots) (B : Bdy p s m meth c Z a0 own nm bytes maxL rt tabs) {x z : Int64} {y : Int32} (hd : decode bytes pc = .ok (.lushr, 1)) (hp : pc + 1 = pc') (hz : (x.toUInt64 >>> (y &&& 63).toInt64.toUInt64).toInt64 = z) (K : Go p e below s nc ns Q (T.setTop (mkF m pc' Ls (.long z :: St)))) : Go p e below s nc ns Q (T.setTop (mkF m pc Ls (.int y :: .long x :: St))) := by
  subst hp hz; exact Go.step (fun t q => XS.lushr X.here B.x (g := mkF m pc Ls (.int y :: .long x :: St)) rfl (B.d hd) rfl q) K
theorem g_ineg (X : Stand p l e R s m args below meth c T locs cells slots) (B : Bdy p s m meth c Z a0 own nm bytes maxL rt tabs) {x : Int32} (hd : decode bytes pc = .ok (.ineg, 1)) (hp : pc + 1 = pc') (K : Go p e below s nc ns Q (T.setTop (mkF m pc' Ls (.int ((-x)) :: St)))) : Go p e below s nc ns Q (T.setTop (mkF m pc Ls (.int x :: St))) := by
  subst hp; exact Go.step (fun t q => XS.ineg X.here B.x (g := mkF m pc Ls (.int x :: St)) rfl (B.d hd) rfl q) K
theorem g_lneg (X : Stand p l e R s m args below meth c T locs cells slots) (B : Bdy p s m meth c Z a0 own nm bytes maxL rt tabs) {x : Int64} (hd : decode bytes pc = .ok (.lneg, 1)) (hp : pc + 1 = pc') (K : Go p e below s nc ns Q (T.setTop (mkF m pc' Ls (.long ((-x)) :: St)))) : Go p e below s nc ns Q (T.setTop (mkF m pc Ls (.long x :: St))) := by
  subst hp; exact Go.step (fun t q => XS.lneg X.here B.x (g := mkF m pc Ls (.long x :: St)) rfl (B.d hd) rfl q) K
theorem g_i2l (X : Stand p l e R s m args below meth c T locs cells slots) (B : Bdy p s m meth c Z a0 own nm bytes maxL rt tabs) {x : Int32} (hd : decode bytes pc = .ok (.i2l, 1)) (hp : pc + 1 = pc') (K : Go p e below s nc ns Q (T.setTop (mkF m pc' Ls (.long (x.toInt64) :: St)))) : Go p e below s nc ns Q (T.setTop (mkF m pc Ls (.int x :: St))) := by
  subst hp; exact Go.step (fun t q => XS.i2l X.here B.x (g := mkF m pc Ls (.int x :: St)) rfl (B.d hd) rfl q) K
theorem g_l2i (X : Stand p l e R s m args below meth c T locs cells slots) (B : Bdy p s m meth c Z a0 own nm bytes maxL rt tabs) {x : Int64} (hd : decode bytes pc = .ok (.l2i, 1)) (hp : pc + 1 = pc') (K : Go p e below s nc ns Q (T.setTop (mkF m pc' Ls (.int (x.toInt32) :: St)))) : Go p e below s nc ns Q (T.setTop (mkF m pc Ls (.long x :: St))) := by
  subst hp; exact Go.step (fun t q => XS.l2i X.here B.x (g := mkF m pc Ls (.long x :: St)) rfl (B.d hd) rfl q) K
theorem g_i2b (X : Stand p l e R s m args below meth c T locs cells slots) (B : Bdy p s m meth c Z a0 own nm bytes maxL rt tabs) {x : Int32} (hd : decode bytes pc = .ok (.i2b, 1)) (hp : pc + 1 = pc') (K : Go p e below s nc ns Q (T.setTop (mkF m pc' Ls (.int (x.toInt8.toInt32) :: St)))) : Go p e below s nc ns Q (T.setTop (mkF m pc Ls (.int x :: St))) := by
  subst hp; exact Go.step (fun t q => XS.i2b X.here B.x (g := mkF m pc Ls (.int x :: St)) rfl (B.d hd) rfl q) K
theorem g_i2s (X : Stand p l e R s m args below meth c T locs cells slots) (B : Bdy p s m meth c Z a0 own nm bytes maxL rt tabs) {x : Int32} (hd : decode bytes pc = .ok (.i2s, 1)) (hp : pc + 1 = pc') (K : Go p e below s nc ns Q (T.setTop (mkF m pc' Ls (.int (x.toInt16.toInt32) :: St)))) : Go p e below s nc ns Q (T.setTop (mkF m pc Ls (.int x :: St))) := by
  subst hp; exact Go.step (fun t q => XS.i2s X.here B.x (g := mkF m pc Ls (.int x :: St)) rfl (B.d hd) rfl q) K
theorem g_i2c (X : Stand p l e R s m args below meth c T locs cells slots) (B : Bdy p s m meth c Z a0 own nm bytes maxL rt tabs) {x : Int32} (hd : decode bytes pc = .ok (.i2c, 1)) (hp : pc + 1 = pc') (K : Go p e below s nc ns Q (T.setTop (mkF m pc' Ls (.int (x.toUInt32.toUInt16.toUInt32.toInt32) :: St)))) : Go p e below s nc ns Q (T.setTop (mkF m pc Ls (.int x :: St))) := by
  subst hp; exact Go.step (fun t q => XS.i2c X.here B.x (g := mkF m pc Ls (.int x :: St)) rfl (B.d hd) rfl q) K
theorem g_irem (X : Stand p l e R s m args below meth c T locs cells slots) (B : Bdy p s m meth c Z a0 own nm bytes maxL rt tabs) {x y : Int32} (hy : y ≠ 0) (hd : decode bytes pc = .ok (.irem, 1)) (hp : pc + 1 = pc') (K : Go p e below s nc ns Q (T.setTop (mkF m pc' Ls (.int (x % y) :: St)))) : Go p e below s nc ns Q (T.setTop (mkF m pc Ls (.int y :: .int x :: St))) := by
  subst hp; exact Go.step (fun t q => Jvm.RoadKit.iremM X B.x (g := mkF m pc Ls (.int y :: .int x :: St)) rfl (B.d hd) rfl hy q) K
theorem g_idiv (X : Stand p l e R s m args below meth c T locs cells slots) (B : Bdy p s m meth c Z a0 own nm bytes maxL rt tabs) {x y : Int32} (hy : y ≠ 0) (hd : decode bytes pc = .ok (.idiv, 1)) (hp : pc + 1 = pc') (K : Go p e below s nc ns Q (T.setTop (mkF m pc' Ls (.int (x / y) :: St)))) : Go p e below s nc ns Q (T.setTop (mkF m pc Ls (.int y :: .int x :: St))) := by
  subst hp; exact Go.step (fun t q => XS.idiv X.here B.x (g := mkF m pc Ls (.int y :: .int x :: St)) rfl (B.d hd) rfl hy q) K
theorem g_ldiv (X : Stand p l e R s m args below meth c T locs cells slots) (B : Bdy p s m meth c Z a0 own nm bytes maxL rt tabs) {x y : Int64} (hy : y ≠ 0) (hd : decode bytes pc = .ok (.ldiv, 1)) (hp : pc + 1 = pc') (K : Go p e below s nc ns Q (T.setTop (mkF m pc' Ls (.long (x / y) :: St)))) : Go p e below s nc ns Q (T.setTop (mkF m pc Ls (.long y :: .long x :: St))) := by
  subst hp; exact Go.step (fun t q => XS.ldiv X.here B.x (g := mkF m pc Ls (.long y :: .long x :: St)) rfl (B.d hd) rfl hy q) K
theorem g_lrem (X : Stand p l e R s m args below meth c T locs cells slots) (B : Bdy p s m meth c Z a0 own nm bytes maxL rt tabs) {x y : Int64} (hy : y ≠ 0) (hd : decode bytes pc = .ok (.lrem, 1)) (hp : pc + 1 = pc') (K : Go p e below s nc ns Q (T.setTop (mkF m pc' Ls (.long (x % y) :: St)))) : Go p e below s nc ns Q (T.setTop (mkF m pc Ls (.long y :: .long x :: St))) := by
  subst hp; rw [← lrem_mod] at K; exact Go.step (fun t q => XS.lrem X.here B.x (g := mkF m pc Ls (.long y :: .long x :: St)) rfl (B.d hd) rfl hy q) K
theorem g_dup (X : Stand p l e R s m args below meth c T locs cells slots) (B : Bdy p s m meth c Z a0 own nm bytes maxL rt tabs) {v : Value} (hd : decode bytes pc = .ok (.dup, 1)) (hp : pc + 1 = pc') (hv : v.category = 1) (K : Go p e below s nc ns Q (T.setTop (mkF m pc' Ls (v :: v :: St)))) : Go p e below s nc ns Q (T.setTop (mkF m pc Ls (v :: St))) := by
  subst hp; exact Go.step (fun t q => XS.dup X.here B.x (g := mkF m pc Ls (v :: St)) rfl (B.d hd) rfl hv q) K
theorem g_dupX1 (X : Stand p l e R s m args below meth c T locs cells slots) (B : Bdy p s m meth c Z a0 own nm bytes maxL rt tabs) {v w : Value} (hd : decode bytes pc = .ok (.dup_x1, 1)) (hp : pc + 1 = pc') (hv : v.category = 1) (hw : w.category = 1) (K : Go p e below s nc ns Q (T.setTop (mkF m pc' Ls (v :: w :: v :: St)))) : Go p e below s nc ns Q (T.setTop (mkF m pc Ls (v :: w :: St))) := by
  subst hp; exact Go.step (fun t q => XS.dupX1 X.here B.x (g := mkF m pc Ls (v :: w :: St)) rfl (B.d hd) rfl hv hw q) K
theorem g_dup2 (X : Stand p l e R s m args below meth c T locs cells slots) (B : Bdy p s m meth c Z a0 own nm bytes maxL rt tabs) {v w : Value} (hd : decode bytes pc = .ok (.dup2, 1)) (hp : pc + 1 = pc') (hv : v.category = 1) (hw : w.category = 1) (K : Go p e below s nc ns Q (T.setTop (mkF m pc' Ls (v :: w :: v :: w :: St)))) : Go p e below s nc ns Q (T.setTop (mkF m pc Ls (v :: w :: St))) := by
  subst hp; have hd' := B.d hd; have hx := B.x
  refine Go.step (fun t q => ?_) K
  jvm_step X.here [X.here.top, hx, hd', hv, hw]
  exact q
theorem g_dup2L (X : Stand p l e R s m args below meth c T locs cells slots) (B : Bdy p s m meth c Z a0 own nm bytes maxL rt tabs) {v : Int64} (hd : decode bytes pc = .ok (.dup2, 1)) (hp : pc + 1 = pc') (K : Go p e below s nc ns Q (T.setTop (mkF m pc' Ls (.long v :: .long v :: St)))) : Go p e below s nc ns Q (T.setTop (mkF m pc Ls (.long v :: St))) := by
  subst hp; have hd' := B.d hd; have hx := B.x
  refine Go.step (fun t q => ?_) K
  jvm_step X.here [X.here.top, hx, hd', Value.category]
  exact q
theorem g_pop (X : Stand p l e R s m args below meth c T locs cells slots) (B : Bdy p s m meth c Z a0 own nm bytes maxL rt tabs) {v : Value} (hd : decode bytes pc = .ok (.pop, 1)) (hp : pc + 1 = pc') (hv : v.category = 1) (K : Go p e below s nc ns Q (T.setTop (mkF m pc' Ls St))) : Go p e below s nc ns Q (T.setTop (mkF m pc Ls (v :: St))) := by
  subst hp; exact Go.step (fun t q => XS.pop X.here B.x (g := mkF m pc Ls (v :: St)) rfl (B.d hd) rfl hv q) K
theorem g_goto (X : Stand p l e R s m args below meth c T locs cells slots) (B : Bdy p s m meth c Z a0 own nm bytes maxL rt tabs) {o : Int} (hd : decode bytes pc = .ok (.goto o, 3)) (ho : 0 ≤ (pc : Int) + o) (hp : ((pc : Int) + o).toNat = pc') (K : Go p e below s nc ns Q (T.setTop (mkF m pc' Ls St))) : Go p e below s nc ns Q (T.setTop (mkF m pc Ls St)) :=
  Go.step (fun t q => XS.goto X.here B.x (g := mkF m pc Ls St) rfl rfl (B.d hd) ho hp q) K
/-! branches: K1 where the comparison holds, K2 where it doesn't -/
theorem g_icmp_lt (X : Stand p l e R s m args below meth c T locs cells slots) (B : Bdy p s m meth c Z a0 own nm bytes maxL rt tabs) {x y : Int32} {o : Int} {pcT pcF : Nat} (hd : decode bytes pc = .ok (.if_icmp .lt o, 3)) (ho : 0 ≤ (pc : Int) + o) (hT : ((pc : Int) + o).toNat = pcT) (hF : pc + 3 = pcF) (K1 : x < y → Go p e below s nc ns Q (T.setTop (mkF m pcT Ls St))) (K2 : ¬ x < y → Go p e below s nc ns Q (T.setTop (mkF m pcF Ls St))) : Go p e below s nc ns Q (T.setTop (mkF m pc Ls (.int y :: .int x :: St))) := by
  by_cases q : x < y
  · exact Go.step (fun t k => XS.icmpYes X.here B.x (g := mkF m pc Ls (.int y :: .int x :: St)) rfl rfl (B.d hd) rfl (tlt q).1 ho hT k) (K1 q)
  · subst hF; exact Go.step (fun t k => XS.icmpNo X.here B.x (g := mkF m pc Ls (.int y :: .int x :: St)) rfl (B.d hd) rfl (flt q).1 k) (K2 q)
theorem g_if_lt (X : Stand p l e R s m args below meth c T locs cells slots) (B : Bdy p s m meth c Z a0 own nm bytes maxL rt tabs) {x : Int32} {o : Int} {pcT pcF : Nat} (hd : decode bytes pc = .ok (.ifCond .lt o, 3)) (ho : 0 ≤ (pc : Int) + o) (hT : ((pc : Int) + o).toNat = pcT) (hF : pc + 3 = pcF) (K1 : x < (0 : Int32) → Go p e below s nc ns Q (T.setTop (mkF m pcT Ls St))) (K2 : ¬ x < (0 : Int32) → Go p e below s nc ns Q (T.setTop (mkF m pcF Ls St))) : Go p e below s nc ns Q (T.setTop (mkF m pc Ls (.int x :: St))) := by
  by_cases q : x < (0 : Int32)
  · exact Go.step (fun t k => XS.ifYes X.here B.x (g := mkF m pc Ls (.int x :: St)) rfl rfl (B.d hd) rfl ((if0 _ _).trans (tlt q).1) ho hT k) (K1 q)
  · subst hF; exact Go.step (fun t k => XS.ifNo X.here B.x (g := mkF m pc Ls (.int x :: St)) rfl (B.d hd) rfl ((if0 _ _).trans (flt q).1) k) (K2 q)
theorem g_lcmp_lt (X : Stand p l e R s m args below meth c T locs cells slots) (B : Bdy p s m meth c Z a0 own nm bytes maxL rt tabs) {x y : Int64} {o : Int} {pcT pcF : Nat} (hd1 : decode bytes pc = .ok (.lcmp, 1)) (hd : decode bytes (pc + 1) = .ok (.ifCond .lt o, 3)) (ho : 0 ≤ ((pc + 1 : Nat) : Int) + o) (hT : (((pc + 1 : Nat) : Int) + o).toNat = pcT) (hF : pc + 4 = pcF) (K1 : x < y → Go p e below s nc ns Q (T.setTop (mkF m pcT Ls St))) (K2 : ¬ x < y → Go p e below s nc ns Q (T.setTop (mkF m pcF Ls St))) : Go p e below s nc ns Q (T.setTop (mkF m pc Ls (.long y :: .long x :: St))) :=
  Go.step (fun t q => XS.lcmp X.here B.x (g := mkF m pc Ls (.long y :: .long x :: St)) rfl (B.d hd1) rfl q) (g_if_lt X B hd ho hT hF (fun q => K1 ((lw_lt x y).mp q)) (fun q => K2 fun z => q ((lw_lt x y).mpr z)))
theorem g_icmp_ge (X : Stand p l e R s m args below meth c T locs cells slots) (B : Bdy p s m meth c Z a0 own nm bytes maxL rt tabs) {x y : Int32} {o : Int} {pcT pcF : Nat} (hd : decode bytes pc = .ok (.if_icmp .ge o, 3)) (ho : 0 ≤ (pc : Int) + o) (hT : ((pc : Int) + o).toNat = pcT) (hF : pc + 3 = pcF) (K1 : x < y → Go p e below s nc ns Q (T.setTop (mkF m pcF Ls St))) (K2 : ¬ x < y → Go p e below s nc ns Q (T.setTop (mkF m pcT Ls St))) : Go p e below s nc ns Q (T.setTop (mkF m pc Ls (.int y :: .int x :: St))) := by
  by_cases q : x < y
  · subst hF; exact Go.step (fun t k => XS.icmpNo X.here B.x (g := mkF m pc Ls (.int y :: .int x :: St)) rfl (B.d hd) rfl (tlt q).2.1 k) (K1 q)
  · exact Go.step (fun t k => XS.icmpYes X.here B.x (g := mkF m pc Ls (.int y :: .int x :: St)) rfl rfl (B.d hd) rfl (flt q).2.1 ho hT k) (K2 q)
theorem g_if_ge (X : Stand p l e R s m args below meth c T locs cells slots) (B : Bdy p s m meth c Z a0 own nm bytes maxL rt tabs) {x : Int32} {o : Int} {pcT pcF : Nat} (hd : decode bytes pc = .ok (.ifCond .ge o, 3)) (ho : 0 ≤ (pc : Int) + o) (hT : ((pc : Int) + o).toNat = pcT) (hF : pc + 3 = pcF) (K1 : x < (0 : Int32) → Go p e below s nc ns Q (T.setTop (mkF m pcF Ls St))) (K2 : ¬ x < (0 : Int32) → Go p e below s nc ns Q (T.setTop (mkF m pcT Ls St))) : Go p e below s nc ns Q (T.setTop (mkF m pc Ls (.int x :: St))) := by
  by_cases q : x < (0 : Int32)
  · subst hF; exact Go.step (fun t k => XS.ifNo X.here B.x (g := mkF m pc Ls (.int x :: St)) rfl (B.d hd) rfl ((if0 _ _).trans (tlt q).2.1) k) (K1 q)
  · exact Go.step (fun t k => XS.ifYes X.here B.x (g := mkF m pc Ls (.int x :: St)) rfl rfl (B.d hd) rfl ((if0 _ _).trans (flt q).2.1) ho hT k) (K2 q)
theorem g_lcmp_ge (X : Stand p l e R s m args below meth c T locs cells slots) (B : Bdy p s m meth c Z a0 own nm bytes maxL rt tabs) {x y : Int64} {o : Int} {pcT pcF : Nat} (hd1 : decode bytes pc = .ok (.lcmp, 1)) (hd : decode bytes (pc + 1) = .ok (.ifCond .ge o, 3)) (ho : 0 ≤ ((pc + 1 : Nat) : Int) + o) (hT : (((pc + 1 : Nat) : Int) + o).toNat = pcT) (hF : pc + 4 = pcF) (K1 : x < y → Go p e below s nc ns Q (T.setTop (mkF m pcF Ls St))) (K2 : ¬ x < y → Go p e below s nc ns Q (T.setTop (mkF m pcT Ls St))) : Go p e below s nc ns Q (T.setTop (mkF m pc Ls (.long y :: .long x :: St))) :=
  Go.step (fun t q => XS.lcmp X.here B.x (g := mkF m pc Ls (.long y :: .long x :: St)) rfl (B.d hd1) rfl q) (g_if_ge X B hd ho hT hF (fun q => K1 ((lw_lt x y).mp q)) (fun q => K2 fun z => q ((lw_lt x y).mpr z)))
theorem g_icmp_gt (X : Stand p l e R s m args below meth c T locs cells slots) (B : Bdy p s m meth c Z a0 own nm bytes maxL rt tabs) {x y : Int32} {o : Int} {pcT pcF : Nat} (hd : decode bytes pc = .ok (.if_icmp .gt o, 3)) (ho : 0 ≤ (pc : Int) + o) (hT : ((pc : Int) + o).toNat = pcT) (hF : pc + 3 = pcF) (K1 : y < x → Go p e below s nc ns Q (T.setTop (mkF m pcT Ls St))) (K2 : ¬ y < x → Go p e below s nc ns Q (T.setTop (mkF m pcF Ls St))) : Go p e below s nc ns Q (T.setTop (mkF m pc Ls (.int y :: .int x :: St))) := by
  by_cases q : y < x
  · exact Go.step (fun t k => XS.icmpYes X.here B.x (g := mkF m pc Ls (.int y :: .int x :: St)) rfl rfl (B.d hd) rfl (tlt q).2.2.1 ho hT k) (K1 q)
  · subst hF; exact Go.step (fun t k => XS.icmpNo X.here B.x (g := mkF m pc Ls (.int y :: .int x :: St)) rfl (B.d hd) rfl (flt q).2.2.1 k) (K2 q)
theorem g_if_gt (X : Stand p l e R s m args below meth c T locs cells slots) (B : Bdy p s m meth c Z a0 own nm bytes maxL rt tabs) {x : Int32} {o : Int} {pcT pcF : Nat} (hd : decode bytes pc = .ok (.ifCond .gt o, 3)) (ho : 0 ≤ (pc : Int) + o) (hT : ((pc : Int) + o).toNat = pcT) (hF : pc + 3 = pcF) (K1 : (0 : Int32) < x → Go p e below s nc ns Q (T.setTop (mkF m pcT Ls St))) (K2 : ¬ (0 : Int32) < x → Go p e below s nc ns Q (T.setTop (mkF m pcF Ls St))) : Go p e below s nc ns Q (T.setTop (mkF m pc Ls (.int x :: St))) := by
  by_cases q : (0 : Int32) < x
  · exact Go.step (fun t k => XS.ifYes X.here B.x (g := mkF m pc Ls (.int x :: St)) rfl rfl (B.d hd) rfl ((if0 _ _).trans (tlt q).2.2.1) ho hT k) (K1 q)
  · subst hF; exact Go.step (fun t k => XS.ifNo X.here B.x (g := mkF m pc Ls (.int x :: St)) rfl (B.d hd) rfl ((if0 _ _).trans (flt q).2.2.1) k) (K2 q)
theorem g_lcmp_gt (X : Stand p l e R s m args below meth c T locs cells slots) (B : Bdy p s m meth c Z a0 own nm bytes maxL rt tabs) {x y : Int64} {o : Int} {pcT pcF : Nat} (hd1 : decode bytes pc = .ok (.lcmp, 1)) (hd : decode bytes (pc + 1) = .ok (.ifCond .gt o, 3)) (ho : 0 ≤ ((pc + 1 : Nat) : Int) + o) (hT : (((pc + 1 : Nat) : Int) + o).toNat = pcT) (hF : pc + 4 = pcF) (K1 : y < x → Go p e below s nc ns Q (T.setTop (mkF m pcT Ls St))) (K2 : ¬ y < x → Go p e below s nc ns Q (T.setTop (mkF m pcF Ls St))) : Go p e below s nc ns Q (T.setTop (mkF m pc Ls (.long y :: .long x :: St))) :=
  Go.step (fun t q => XS.lcmp X.here B.x (g := mkF m pc Ls (.long y :: .long x :: St)) rfl (B.d hd1) rfl q) (g_if_gt X B hd ho hT hF (fun q => K1 ((lw_gt x y).mp q)) (fun q => K2 fun z => q ((lw_gt x y).mpr z)))
theorem g_icmp_le (X : Stand p l e R s m args below meth c T locs cells slots) (B : Bdy p s m meth c Z a0 own nm bytes maxL rt tabs) {x y : Int32} {o : Int} {pcT pcF : Nat} (hd : decode bytes pc = .ok (.if_icmp .le o, 3)) (ho : 0 ≤ (pc : Int) + o) (hT : ((pc : Int) + o).toNat = pcT) (hF : pc + 3 = pcF) (K1 : y < x → Go p e below s nc ns Q (T.setTop (mkF m pcF Ls St))) (K2 : ¬ y < x → Go p e below s nc ns Q (T.setTop (mkF m pcT Ls St))) : Go p e below s nc ns Q (T.setTop (mkF m pc Ls (.int y :: .int x :: St))) := by
  by_cases q : y < x
  · subst hF; exact Go.step (fun t k => XS.icmpNo X.here B.x (g := mkF m pc Ls (.int y :: .int x :: St)) rfl (B.d hd) rfl (tlt q).2.2.2 k) (K1 q)
  · exact Go.step (fun t k => XS.icmpYes X.here B.x (g := mkF m pc Ls (.int y :: .int x :: St)) rfl rfl (B.d hd) rfl (flt q).2.2.2 ho hT k) (K2 q)
theorem g_if_le (X : Stand p l e R s m args below meth c T locs cells slots) (B : Bdy p s m meth c Z a0 own nm bytes maxL rt tabs) {x : Int32} {o : Int} {pcT pcF : Nat} (hd : decode bytes pc = .ok (.ifCond .le o, 3)) (ho : 0 ≤ (pc : Int) + o) (hT : ((pc : Int) + o).toNat = pcT) (hF : pc + 3 = pcF) (K1 : (0 : Int32) < x → Go p e below s nc ns Q (T.setTop (mkF m pcF Ls St))) (K2 : ¬ (0 : Int32) < x → Go p e below s nc ns Q (T.setTop (mkF m pcT Ls St))) : Go p e below s nc ns Q (T.setTop (mkF m pc Ls (.int x :: St))) := by
  by_cases q : (0 : Int32) < x
  · subst hF; exact Go.step (fun t k => XS.ifNo X.here B.x (g := mkF m pc Ls (.int x :: St)) rfl (B.d hd) rfl ((if0 _ _).trans (tlt q).2.2.2) k) (K1 q)
  · exact Go.step (fun t k => XS.ifYes X.here B.x (g := mkF m pc Ls (.int x :: St)) rfl rfl (B.d hd) rfl ((if0 _ _).trans (flt q).2.2.2) ho hT k) (K2 q)
theorem g_lcmp_le (X : Stand p l e R s m args below meth c T locs cells slots) (B : Bdy p s m meth c Z a0 own nm bytes maxL rt tabs) {x y : Int64} {o : Int} {pcT pcF : Nat} (hd1 : decode bytes pc = .ok (.lcmp, 1)) (hd : decode bytes (pc + 1) = .ok (.ifCond .le o, 3)) (ho : 0 ≤ ((pc + 1 : Nat) : Int) + o) (hT : (((pc + 1 : Nat) : Int) + o).toNat = pcT) (hF : pc + 4 = pcF) (K1 : y < x → Go p e below s nc ns Q (T.setTop (mkF m pcF Ls St))) (K2 : ¬ y < x → Go p e below s nc ns Q (T.setTop (mkF m pcT Ls St))) : Go p e below s nc ns Q (T.setTop (mkF m pc Ls (.long y :: .long x :: St))) :=
  Go.step (fun t q => XS.lcmp X.here B.x (g := mkF m pc Ls (.long y :: .long x :: St)) rfl (B.d hd1) rfl q) (g_if_le X B hd ho hT hF (fun q => K1 ((lw_gt x y).mp q)) (fun q => K2 fun z => q ((lw_gt x y).mpr z)))
theorem g_icmp_eq (X : Stand p l e R s m args below meth c T locs cells slots) (B : Bdy p s m meth c Z a0 own nm bytes maxL rt tabs) {x y : Int32} {o : Int} {pcT pcF : Nat} (hd : decode bytes pc = .ok (.if_icmp .eq o, 3)) (ho : 0 ≤ (pc : Int) + o) (hT : ((pc : Int) + o).toNat = pcT) (hF : pc + 3 = pcF) (K1 : x = y → Go p e below s nc ns Q (T.setTop (mkF m pcT Ls St))) (K2 : ¬ x = y → Go p e below s nc ns Q (T.setTop (mkF m pcF Ls St))) : Go p e below s nc ns Q (T.setTop (mkF m pc Ls (.int y :: .int x :: St))) := by
  by_cases q : x = y
  · exact Go.step (fun t k => XS.icmpYes X.here B.x (g := mkF m pc Ls (.int y :: .int x :: St)) rfl rfl (B.d hd) rfl (teq q).1 ho hT k) (K1 q)
  · subst hF; exact Go.step (fun t k => XS.icmpNo X.here B.x (g := mkF m pc Ls (.int y :: .int x :: St)) rfl (B.d hd) rfl (feq q).1 k) (K2 q)
theorem g_if_eq (X : Stand p l e R s m args below meth c T locs cells slots) (B : Bdy p s m meth c Z a0 own nm bytes maxL rt tabs) {x : Int32} {o : Int} {pcT pcF : Nat} (hd : decode bytes pc = .ok (.ifCond .eq o, 3)) (ho : 0 ≤ (pc : Int) + o) (hT : ((pc : Int) + o).toNat = pcT) (hF : pc + 3 = pcF) (K1 : x = (0 : Int32) → Go p e below s nc ns Q (T.setTop (mkF m pcT Ls St))) (K2 : ¬ x = (0 : Int32) → Go p e below s nc ns Q (T.setTop (mkF m pcF Ls St))) : Go p e below s nc ns Q (T.setTop (mkF m pc Ls (.int x :: St))) := by
  by_cases q : x = (0 : Int32)
  · exact Go.step (fun t k => XS.ifYes X.here B.x (g := mkF m pc Ls (.int x :: St)) rfl rfl (B.d hd) rfl ((if0 _ _).trans (teq q).1) ho hT k) (K1 q)
  · subst hF; exact Go.step (fun t k => XS.ifNo X.here B.x (g := mkF m pc Ls (.int x :: St)) rfl (B.d hd) rfl ((if0 _ _).trans (feq q).1) k) (K2 q)
theorem g_lcmp_eq (X : Stand p l e R s m args below meth c T locs cells slots) (B : Bdy p s m meth c Z a0 own nm bytes maxL rt tabs) {x y : Int64} {o : Int} {pcT pcF : Nat} (hd1 : decode bytes pc = .ok (.lcmp, 1)) (hd : decode bytes (pc + 1) = .ok (.ifCond .eq o, 3)) (ho : 0 ≤ ((pc + 1 : Nat) : Int) + o) (hT : (((pc + 1 : Nat) : Int) + o).toNat = pcT) (hF : pc + 4 = pcF) (K1 : x = y → Go p e below s nc ns Q (T.setTop (mkF m pcT Ls St))) (K2 : ¬ x = y → Go p e below s nc ns Q (T.setTop (mkF m pcF Ls St))) : Go p e below s nc ns Q (T.setTop (mkF m pc Ls (.long y :: .long x :: St))) :=
  Go.step (fun t q => XS.lcmp X.here B.x (g := mkF m pc Ls (.long y :: .long x :: St)) rfl (B.d hd1) rfl q) (g_if_eq X B hd ho hT hF (fun q => K1 ((lw_eq x y).mp q)) (fun q => K2 fun z => q ((lw_eq x y).mpr z)))
theorem g_icmp_ne (X : Stand p l e R s m args below meth c T locs cells slots) (B : Bdy p s m meth c Z a0 own nm bytes maxL rt tabs) {x y : Int32} {o : Int} {pcT pcF : Nat} (hd : decode bytes pc = .ok (.if_icmp .ne o, 3)) (ho : 0 ≤ (pc : Int) + o) (hT : ((pc : Int) + o).toNat = pcT) (hF : pc + 3 = pcF) (K1 : x = y → Go p e below s nc ns Q (T.setTop (mkF m pcF Ls St))) (K2 : ¬ x = y → Go p e below s nc ns Q (T.setTop (mkF m pcT Ls St))) : Go p e below s nc ns Q (T.setTop (mkF m pc Ls (.int y :: .int x :: St))) := by
  by_cases q : x = y
  · subst hF; exact Go.step (fun t k => XS.icmpNo X.here B.x (g := mkF m pc Ls (.int y :: .int x :: St)) rfl (B.d hd) rfl (teq q).2 k) (K1 q)
  · exact Go.step (fun t k => XS.icmpYes X.here B.x (g := mkF m pc Ls (.int y :: .int x :: St)) rfl rfl (B.d hd) rfl (feq q).2 ho hT k) (K2 q)
theorem g_if_ne (X : Stand p l e R s m args below meth c T locs cells slots) (B : Bdy p s m meth c Z a0 own nm bytes maxL rt tabs) {x : Int32} {o : Int} {pcT pcF : Nat} (hd : decode bytes pc = .ok (.ifCond .ne o, 3)) (ho : 0 ≤ (pc : Int) + o) (hT : ((pc : Int) + o).toNat = pcT) (hF : pc + 3 = pcF) (K1 : x = (0 : Int32) → Go p e below s nc ns Q (T.setTop (mkF m pcF Ls St))) (K2 : ¬ x = (0 : Int32) → Go p e below s nc ns Q (T.setTop (mkF m pcT Ls St))) : Go p e below s nc ns Q (T.setTop (mkF m pc Ls (.int x :: St))) := by
  by_cases q : x = (0 : Int32)
  · subst hF; exact Go.step (fun t k => XS.ifNo X.here B.x (g := mkF m pc Ls (.int x :: St)) rfl (B.d hd) rfl ((if0 _ _).trans (teq q).2) k) (K1 q)
  · exact Go.step (fun t k => XS.ifYes X.here B.x (g := mkF m pc Ls (.int x :: St)) rfl rfl (B.d hd) rfl ((if0 _ _).trans (feq q).2) ho hT k) (K2 q)
theorem g_lcmp_ne (X : Stand p l e R s m args below meth c T locs cells slots) (B : Bdy p s m meth c Z a0 own nm bytes maxL rt tabs) {x y : Int64} {o : Int} {pcT pcF : Nat} (hd1 : decode bytes pc = .ok (.lcmp, 1)) (hd : decode bytes (pc + 1) = .ok (.ifCond .ne o, 3)) (ho : 0 ≤ ((pc + 1 : Nat) : Int) + o) (hT : (((pc + 1 : Nat) : Int) + o).toNat = pcT) (hF : pc + 4 = pcF) (K1 : x = y → Go p e below s nc ns Q (T.setTop (mkF m pcF Ls St))) (K2 : ¬ x = y → Go p e below s nc ns Q (T.setTop (mkF m pcT Ls St))) : Go p e below s nc ns Q (T.setTop (mkF m pc Ls (.long y :: .long x :: St))) :=
  Go.step (fun t q => XS.lcmp X.here B.x (g := mkF m pc Ls (.long y :: .long x :: St)) rfl (B.d hd1) rfl q) (g_if_ne X B hd ho hT hF (fun q => K1 ((lw_eq x y).mp q)) (fun q => K2 fun z => q ((lw_eq x y).mpr z)))
/-! ends -/
theorem g_ret0 (X : Stand p l e R s m args below meth c T locs cells slots) (B : Bdy p s m meth c Z a0 own nm bytes maxL rt tabs) (hr : rt = none) (hd : decode bytes pc = .ok (.return_, 1)) (hc : cells ≤ nc) (hs : slots ≤ ns) (q : Q none T.heap locs) : Go p e below s nc ns Q (T.setTop (mkF m pc Ls [])) := by
  subst hr
  obtain ⟨fs, hr, hrun, hended, hW, hsame⟩ := X.leave (v := none) (fun _ => rfl) B.lk
  exact ⟨_, _, X.returnOut B.x B.r (B.d hd) hr, hrun, hended, _, _, rfl, q, ⟨_, rfl⟩, hW, hsame.mono hc hs⟩
theorem g_retV (X : Stand p l e R s m args below meth c T locs cells slots) (B : Bdy p s m meth c Z a0 own nm bytes maxL rt tabs) {w : Value} {t : FieldType} {i : Instr} (hr : rt = some t) (hn : narrow t w = w)
    (hi : (i = .ireturn ∧ (t = .int ∨ t = .boolean ∨ t = .byte ∨ t = .char ∨ t = .short) ∧ ∃ z, w = .int z) ∨ (i = .lreturn ∧ t = .long ∧ ∃ z, w = .long z) ∨ (i = .dreturn ∧ t = .double ∧ ∃ z, w = .double z) ∨ (i = .freturn ∧ t = .float ∧ ∃ z, w = .float z) ∨ (i = .areturn ∧ t.isReference = true ∧ w.isRef = true))
    (hd : decode bytes pc = .ok (i, 1)) (hc : cells ≤ nc) (hs : slots ≤ ns) (q : Q (some w) T.heap locs) : Go p e below s nc ns Q (T.setTop (mkF m pc Ls (w :: St))) := by
  subst hr
  obtain ⟨fs, hr, hrun, hended, hW, hsame⟩ := X.leave (v := some w) (fun h => by rw [B.r] at h; cases h) B.lk
  exact ⟨_, _, retOut X B.x B.r hn hi (B.d hd) hr, hrun, hended, _, _, rfl, q, ⟨_, rfl⟩, hW, hsame.mono hc hs⟩
theorem g_retI (X : Stand p l e R s m args below meth c T locs cells slots) (B : Bdy p s m meth c Z a0 own nm bytes maxL rt tabs) {z : Int32} (hr : rt = some .int) (hd : decode bytes pc = .ok (.ireturn, 1)) (hc : cells ≤ nc) (hs : slots ≤ ns) (q : Q (some (.int z)) T.heap locs) : Go p e below s nc ns Q (T.setTop (mkF m pc Ls (.int z :: St))) :=
  g_retV X B hr rfl (Or.inl ⟨rfl, Or.inl rfl, z, rfl⟩) hd hc hs q
theorem g_retL (X : Stand p l e R s m args below meth c T locs cells slots) (B : Bdy p s m meth c Z a0 own nm bytes maxL rt tabs) {z : Int64} (hr : rt = some .long) (hd : decode bytes pc = .ok (.lreturn, 1)) (hc : cells ≤ nc) (hs : slots ≤ ns) (q : Q (some (.long z)) T.heap locs) : Go p e below s nc ns Q (T.setTop (mkF m pc Ls (.long z :: St))) :=
  g_retV X B hr rfl (Or.inr (Or.inl ⟨rfl, rfl, z, rfl⟩)) hd hc hs q
theorem g_retA (X : Stand p l e R s m args below meth c T locs cells slots) (B : Bdy p s m meth c Z a0 own nm bytes maxL rt tabs) {w : Value} {t : FieldType} (hr : rt = some t) (ht : t.isReference = true) (hw : w.isRef = true) (hn : narrow t w = w) (hd : decode bytes pc = .ok (.areturn, 1)) (hc : cells ≤ nc) (hs : slots ≤ ns) (q : Q (some w) T.heap locs) : Go p e below s nc ns Q (T.setTop (mkF m pc Ls (w :: St))) :=
  g_retV X B hr hn (Or.inr (Or.inr (Or.inr (Or.inr ⟨rfl, ht, hw⟩)))) hd hc hs q
theorem g_retN (X : Stand p l e R s m args below meth c T locs cells slots) (B : Bdy p s m meth c Z a0 own nm bytes maxL rt tabs) {z : Int32} {t : FieldType} (hr : rt = some t) (ht : t = .boolean ∨ t = .byte ∨ t = .char ∨ t = .short) (hd : decode bytes pc = .ok (.ireturn, 1)) (hc : cells ≤ nc) (hs : slots ≤ ns) (q : Q (some (.int (nar t z))) T.heap locs) : Go p e below s nc ns Q (T.setTop (mkF m pc Ls (.int z :: St))) := by
  subst hr
  obtain ⟨fs, hr, hrun, hended, hW, hsame⟩ := X.leave (v := some (.int (nar t z))) (fun h => by rw [B.r] at h; cases h) B.lk
  exact ⟨_, _, retN X B.x B.r ht (B.d hd) hr, hrun, hended, _, _, rfl, q, ⟨_, rfl⟩, hW, hsame.mono hc hs⟩
/-! calls -/
abbrev Met (l : Launch) (Z : State) (y : MethodName) (yb : ByteArray) (ym : Nat) (yr : Option FieldType) (ws : List Jvm.Cond) (rm : Room) (as : Array Value) (h : Heap) (Qc : Option Value → Heap → List Loc → Prop) : Prop :=
  MetFree l y (head1 (Jvm.Cond.code y yb ym yr :: ws) rm) (fun a U => a = as ∧ Z.Warmed39 U.vm ∧ U.heap = h) (fun _ _ _ _ _ => True) (fun _ U o U' => ∃ v L, o = .returned v ∧ Qc v U'.heap L ∧ FrameEnd U o U' L rm.cells rm.slots)
theorem met_of {y : MethodName} {rm : Room} {as : Array Value} {ws : List Jvm.Cond} (hpl : plainFor y = true) (hw : ∀ d ∈ tabs, d.before a0 Z = true)
    (body : ∀ (p : Program) (e : Env) (s : State) (m : MethodId) (below : List Frame) (meth : Method) (c : Code) (T : State), Stand p l e rm s m as below meth c T [] 0 0 → Bdy p s m meth c Z a0 y.cls y.name bytes maxL rt tabs → T.heap = h → Go p e below s rm.cells rm.slots Q (T.setTop (entryFrame m as maxL))) :
    Met l Z y bytes maxL rt ws rm as h Q := by
  refine MetFree.of_bodySF hpl hisR ?_
  intro p e s m args below meth c s₁ Bd hml0 hP hK
  obtain ⟨rfl, hZ, hh⟩ := hP
  exact body p e s m below meth c s₁ (Stand.of_body Bd) ⟨Bd.exec, hZ, hw, Bd.bytes, hml0, findClass_of_methodNamed Bd.named, Bd.returns, BodyLoose.notSynchronized Bd, (name_of_methodNamed Bd.named Bd.method).1⟩ (by rw [← hh, Bd.state]; rfl)
theorem g_callS (X : Stand p l e R s m args below meth c T locs cells slots) (B : Bdy p s m meth c Z a0 own nm bytes maxL rt tabs) {y : MethodName} {i : Nat} {yb : ByteArray} {ym : Nat} {yr : Option FieldType} {rm : Room} {argsL rest : List Value} {Qc : Option Value → Heap → List Loc → Prop} (eT : T.heap = h) (W : Nat)
    (w1 : (Jvm.Cond.methodLink own i y).before a0 Z = true) (w2 : (Jvm.Cond.static y).before a0 Z = true) (w3 : (Jvm.Cond.initialized y.cls).before a0 Z = true) (w4 : (Jvm.Cond.code y yb ym yr).before a0 Z = true) (hy : y.cls ≠ "java/lang/invoke/MethodHandle" ∧ y.cls ≠ "java/lang/invoke/VarHandle")
    (M : Met l Z y yb ym yr [] rm argsL.toArray h Qc) (hf : rm.frames + 1 ≤ R.frames) (hl : W + (ym + 11) + rm.locals ≤ R.locals) (hc : cells + rm.cells ≤ R.cells) (hs : slots + rm.slots ≤ R.slots)
    (hsz : Ls.size = maxL) (hlen : ∀ sig, parseMethodDescriptor y.desc = some sig → argsL.length = sig.parameters.length) (hst : St = argsL.reverse ++ rest) (hW : (rest.map fun v => v.category).sum ≤ W) (hd : decode bytes pc = .ok (.invokestatic i, 3)) (hp : pc + 3 = pc')
    (K : ∀ (T' : State) (v : Option Value) (L : List Loc), Stand p l e R s m args below meth c T' (locs ++ L) (cells + rm.cells) (slots + rm.slots) → Qc v T'.heap L → Go p e below s nc ns Q (T'.setTop (mkF m pc' Ls (v.toList ++ rest)))) : Go p e below s nc ns Q (T.setTop (mkF m pc Ls St)) := by
  subst hp
  obtain ⟨v, _, ⟨T', L', k', n'⟩, -, X', ⟨Lc, hQ, l', y', z'⟩, st⟩ := Jvm.LawKit.callS X B.x (y := y) B.o (mvT B.z w1) (mvT B.z w2) (mvT B.z w3) (mvT B.z w4) hy (backOf (W := W) M B.z w4 w3 hf hl) (g := mkF m pc Ls St) rfl (by rw [B.ml]; exact hsz) (argsL := argsL) (rest := rest) hlen hst (by show 2 * 0 + _ ≤ _; omega) (B.d hd) (fun _ _ => ⟨rfl, eT, hc, hs⟩)
  dsimp only [Pt.U, Pt.locs, Pt.cells, Pt.slots] at X' l' y' z' st hQ
  subst l' y' z'
  exact Go.step st (K T' v Lc X' hQ)
theorem g_callP (X : Stand p l e R s m args below meth c T locs cells slots) (B : Bdy p s m meth c Z a0 own nm bytes maxL rt tabs) {y : MethodName} {i : Nat} {yb : ByteArray} {ym : Nat} {yr : Option FieldType} {fr lo : Nat} {argsL rest : List Value} {w : Value} (eT : T.heap = h) (W : Nat)
    (w1 : (Jvm.Cond.methodLink own i y).before a0 Z = true) (w2 : (Jvm.Cond.static y).before a0 Z = true) (w3 : (Jvm.Cond.initialized y.cls).before a0 Z = true) (w4 : (Jvm.Cond.code y yb ym yr).before a0 Z = true) (hy : y.cls ≠ "java/lang/invoke/MethodHandle" ∧ y.cls ≠ "java/lang/invoke/VarHandle")
    (M : Met l Z y yb ym yr [] ⟨fr, 0, 0, lo⟩ argsL.toArray h (PQ (some w) h [])) (hf : fr + 1 ≤ R.frames) (hl : W + (ym + 11) + lo ≤ R.locals) (hc : cells ≤ R.cells) (hs : slots ≤ R.slots)
    (hsz : Ls.size = maxL) (hlen : ∀ sig, parseMethodDescriptor y.desc = some sig → argsL.length = sig.parameters.length) (hst : St = argsL.reverse ++ rest) (hW : (rest.map fun v => v.category).sum ≤ W) (hd : decode bytes pc = .ok (.invokestatic i, 3)) (hp : pc + 3 = pc')
    (K : ∀ (T' : State), Stand p l e R s m args below meth c T' locs cells slots → T'.heap = h → Go p e below s nc ns Q (T'.setTop (mkF m pc' Ls (w :: rest)))) : Go p e below s nc ns Q (T.setTop (mkF m pc Ls St)) := by
  refine g_callS X B eT W w1 w2 w3 w4 hy M hf hl hc hs hsz hlen hst hW hd hp fun T' v L X' q => ?_
  obtain ⟨rfl, q2, rfl⟩ := q
  rw [List.append_nil] at X'
  exact K T' X' q2
end GoKit
/-! own frame, the heap's steps -/
def Ax (Z : State) (h : Heap) (a : Addr) (ty : FieldType) (n : Nat) (w : Nat → Value) : Prop := n < 2147483648 ∧ ∃ c : Cell, Arr Z h a c ty ∧ c.slots.size = n ∧ ∀ j, j < n → c.slots[j]? = some (w j)
section HeapKit
variable {p : Program} {l : Launch} {e : Env} {R : Room} {s : State} {m : MethodId} {args : Array Value} {below : List Frame} {meth : Method} {c : Code} {T : State} {locs : List Loc} {cells slots : Nat} {Z : State} {a0 : Array Value} {h h' : Heap} {nc ns : Nat} {Q Q' : Option Value → Heap → List Loc → Prop} {pc pc' : Nat} {Ls Ls' : Array Slot} {St : List Value} {own nm : String} {bytes : ByteArray} {maxL : Nat} {rt : Option FieldType} {tabs : List Jvm.Cond}
theorem Ax.lt {a : Addr} {ty : FieldType} {n : Nat} {w : Nat → Value} (F : Ax Z h a ty n w) : a < h.size := by obtain ⟨-, c, A, -⟩ := F; exact A.lt
theorem Ax.ext {a : Addr} {ty : FieldType} {n : Nat} {w : Nat → Value} (F : Ax Z h a ty n w) (E : Ext h h') : Ax Z h' a ty n w := by obtain ⟨h0, c, A, r⟩ := F; exact ⟨h0, c, A.ext E, r⟩
theorem Ax.other {a b : Addr} {ty : FieldType} {n sl : Nat} {v : Value} {w : Nat → Value} (F : Ax Z h b ty n w) (W : Wr h h' a sl v) (q : b ≠ a) : Ax Z h' b ty n w := by obtain ⟨h0, c, A, r⟩ := F; exact ⟨h0, c, A.other W q, r⟩
theorem Ax.keep {a : Addr} {ty : FieldType} {n : Nat} {w : Nat → Value} {ws : List Addr} (F : Ax Z h a ty n w) (K : Keep h h' ws) (q : a ∉ ws) : Ax Z h' a ty n w := by obtain ⟨h0, c, A, r⟩ := F; exact ⟨h0, c, ⟨K.2.1 a c A.1 q, A.2⟩, r⟩
theorem Ax.set {a : Addr} {ty : FieldType} {n k : Nat} {v : Value} {w : Nat → Value} (F : Ax Z h a ty n w) (W : Wr h h' a k v) : Ax Z h' a ty n (fun j => if j = k then v else w j) := by
  obtain ⟨h0, c, A, r1, r2⟩ := F
  refine ⟨h0, _, A.same W, by rw [sz_set]; exact r1, fun j hj => ?_⟩
  by_cases q : j = k
  · subst q; simp [Cell.setSlot, r1, hj]
  · simp only [Cell.setSlot, if_neg q]; rw [Array.getElem?_setIfInBounds_ne (Ne.symm q)]; exact r2 j hj
theorem Ax.eqw {a : Addr} {ty : FieldType} {n : Nat} {w w' : Nat → Value} (F : Ax Z h a ty n w) (q : ∀ j, j < n → w j = w' j) : Ax Z h a ty n w' := by
  obtain ⟨h0, c, A, r1, r2⟩ := F
  exact ⟨h0, c, A, r1, fun j hj => by rw [← q j hj]; exact r2 j hj⟩
theorem own_idx {j : Int32} {k n : Nat} (hk : j.toInt = (k : Int)) (hn : k < n) : ¬ (j < 0 ∨ n ≤ j.toNatClampNeg) ∧ j.toNatClampNeg = k := by
  have e0 : (0 : Int32).toInt = 0 := rfl
  have e1 : j.toNatClampNeg = j.toInt.toNat := rfl
  rw [Int32.lt_iff_toInt_lt, e0, e1, hk]; omega
theorem g_getF (X : Stand p l e R s m args below meth c T locs cells slots) (B : Bdy p s m meth c Z a0 own nm bytes maxL rt tabs) {i : Nat} {R0 O n d : String} {a : Addr} {v : Value} (w : (Jvm.Cond.fieldLink own i R0 n d).before a0 Z = true) (via : Via Z R0 O n d) (eT : T.heap = h) (F : Fld Z h a O n d v) (hd : decode bytes pc = .ok (.getfield i, 3)) (hp : pc + 3 = pc')
    (K : ∀ T' : State, Stand p l e R s m args below meth c T' locs cells slots → T'.heap = h → Go p e below s nc ns Q (T'.setTop (mkF m pc' Ls (v :: St)))) : Go p e below s nc ns Q (T.setTop (mkF m pc Ls (.ref a :: St))) := by
  subst hp
  obtain ⟨T', X', e', st⟩ := getF X B.x B.z B.o (host := "") (Or.inl w) via eT F (g := mkF m pc Ls (.ref a :: St)) rfl rfl (B.d hd)
  exact Go.step st (K T' X' e')
theorem g_putF (X : Stand p l e R s m args below meth c T locs cells slots) (B : Bdy p s m meth c Z a0 own nm bytes maxL rt tabs) {i kk : Nat} {R0 O n d C : String} {a : Addr} {v old : Value} {ty : FieldType} (w : (Jvm.Cond.fieldLink own i R0 n d).before a0 Z = true) (via : Via Z R0 O n d) (eT : T.heap = h) (F : Fld Z h a O n d old) (E : Exa Z h a C)
    (L : (Jvm.Cond.lays C O n d).before a0 Z = true ∨ ((Jvm.Cond.laysFinal C O n d).before a0 Z = true ∧ own = O ∧ nm = "<init>")) (wi : (Jvm.Cond.instantiable C kk).before a0 Z = true) (hty : parseFieldDescriptor d = some ty) (hn : narrow ty v = v) (hf : fits ty v = true)
    (hd : decode bytes pc = .ok (.putfield i, 3)) (hp : pc + 3 = pc')
    (K : ∀ (T' : State) (h' : Heap), Stand p l e R s m args below meth c T' (locs ++ [⟨a, Jvm.RoadKit.slotOf Z O n d⟩]) cells slots → T'.heap = h' → Wr h h' a (Jvm.RoadKit.slotOf Z O n d) v → Go p e below s nc ns Q (T'.setTop (mkF m pc' Ls St))) : Go p e below s nc ns Q (T.setTop (mkF m pc Ls (v :: .ref a :: St))) := by
  subst hp
  obtain ⟨T', h', X', e', W, st⟩ := putF X B.x B.z B.o (host := "") (Or.inl w) via eT F E (L.imp id fun q => ⟨q.1, q.2.1, B.n.trans q.2.2⟩) wi hty hn hf (g := mkF m pc Ls (v :: .ref a :: St)) rfl rfl (B.d hd)
  exact Go.step st (K T' h' X' e' W)
theorem g_getS (X : Stand p l e R s m args below meth c T locs cells slots) (B : Bdy p s m meth c Z a0 own nm bytes maxL rt tabs) {i : Nat} {R0 O n d : String} {v : Value} (w : (Jvm.Cond.fieldLink own i R0 n d).before a0 Z = true) (via : Via Z R0 O n d) (eT : T.heap = h) (F : Sta Z h O n d v) (hd : decode bytes pc = .ok (.getstatic i, 3)) (hp : pc + 3 = pc')
    (K : ∀ T' : State, Stand p l e R s m args below meth c T' locs cells slots → T'.heap = h → Go p e below s nc ns Q (T'.setTop (mkF m pc' Ls (v :: St)))) : Go p e below s nc ns Q (T.setTop (mkF m pc Ls St)) := by
  subst hp
  obtain ⟨T', X', e', st⟩ := getS X B.x B.z B.o (host := "") w via eT F (g := mkF m pc Ls St) rfl (B.d hd)
  exact Go.step st (K T' X' e')
theorem g_new (X : Stand p l e R s m args below meth c T locs cells slots) (B : Bdy p s m meth c Z a0 own nm bytes maxL rt tabs) {i n : Nat} {C : String} (w : (Jvm.Cond.classLink own i C).before a0 Z = true) (wi : (Jvm.Cond.instantiable C n).before a0 Z = true) (wz : (Jvm.Cond.initialized C).before a0 Z = true) (eT : T.heap = h) (hd : decode bytes pc = .ok (.new i, 3)) (hp : pc + 3 = pc') (hc : cells + 1 ≤ R.cells) (hl : slots + n ≤ R.slots)
    (K : ∀ (T' : State) (h' : Heap) (a : Addr), a = h.size → Stand p l e R s m args below meth c T' locs (cells + 1) (slots + n) → T'.heap = h' → Ext h h' → Exa Z h' a C → (∀ {O nm d : String} {ty : FieldType}, Laid Z a0 C O nm d → parseFieldDescriptor d = some ty → Fld Z h' a O nm d (defaultValue ty)) → Go p e below s nc ns Q (T'.setTop (mkF m pc' Ls (.ref a :: St)))) : Go p e below s nc ns Q (T.setTop (mkF m pc Ls St)) := by
  subst hp
  obtain ⟨T', h', X', e', E, A, D, -, st⟩ := newO X B.x B.z B.o w wi wz eT (g := mkF m pc Ls St) rfl (B.d hd) hc hl
  exact Go.step st (K T' h' _ rfl X' e' E A D)
theorem g_newA (X : Stand p l e R s m args below meth c T locs cells slots) (B : Bdy p s m meth c Z a0 own nm bytes maxL rt tabs) {aty : ArrayType} {z : Int32} (k cap : Nat) (w : (Jvm.Cond.arrayClass (newarray.typeOf aty)).before a0 Z = true) (eT : T.heap = h) (hz : z.toInt = (k : Int)) (hcap : k ≤ cap) (hb : cap * 8 ≤ 536870912) (hd : decode bytes pc = .ok (.newarray aty, 2)) (hp : pc + 2 = pc') (hc : cells + 1 ≤ R.cells) (hl : slots + cap ≤ R.slots)
    (K : ∀ (T' : State) (h' : Heap) (a : Addr), a = h.size → Stand p l e R s m args below meth c T' locs (cells + 1) (slots + cap) → T'.heap = h' → Ext h h' → Ax Z h' a (newarray.typeOf aty) k (fun _ => defaultValue (newarray.typeOf aty)) → Go p e below s nc ns Q (T'.setTop (mkF m pc' Ls (.ref a :: St)))) : Go p e below s nc ns Q (T.setTop (mkF m pc Ls (.int z :: St))) := by
  subst hp
  have e1 : z.toNatClampNeg = k := by show z.toInt.toNat = k; omega
  have e0 : (0 : Int32).toInt = 0 := rfl
  have hlt := z.toInt_lt
  obtain ⟨T', h', cA, X', e', E, A, st⟩ := newP X B.x B.z w eT (g := mkF m pc Ls (.int z :: St)) rfl (B.d hd) rfl (by rw [Int32.lt_iff_toInt_lt, e0]; omega) (cap := cap) (by omega) hb hc hl
  refine Go.step st (K T' h' _ rfl X' e' E ⟨by omega, _, A, (sz_new _ _ _).trans e1, fun j hj => ?_⟩)
  simp [newA, e1, hj]
theorem g_arrlen (X : Stand p l e R s m args below meth c T locs cells slots) (B : Bdy p s m meth c Z a0 own nm bytes maxL rt tabs) {a : Addr} {ty : FieldType} {n : Nat} {w : Nat → Value} (z : Int32) (eT : T.heap = h) (F : Ax Z h a ty n w) (hz : z.toInt = (n : Int)) (hd : decode bytes pc = .ok (.arraylength, 1)) (hp : pc + 1 = pc') (K : Go p e below s nc ns Q (T.setTop (mkF m pc' Ls (.int z :: St)))) : Go p e below s nc ns Q (T.setTop (mkF m pc Ls (.ref a :: St))) := by
  subst hp
  obtain ⟨h0, c, A, r1, -⟩ := F
  have ez : c.slots.size.toInt32 = z := by
    apply Int32.toInt_inj.mp; rw [hz, r1]; exact Int32.toInt_ofNat_small (by omega)
  refine Go.step (fun t q => X.arraylength B.x (by rw [eT]; exact A.1) (State.isArrayOf_alike B.z.alike A.2.1) (g := mkF m pc Ls (.ref a :: St)) rfl rfl (B.d hd) t (by rw [ez]; exact q)) K
theorem g_iaload (X : Stand p l e R s m args below meth c T locs cells slots) (B : Bdy p s m meth c Z a0 own nm bytes maxL rt tabs) {a : Addr} {n : Nat} {w : Nat → Value} {j : Int32} {v : Value} (k : Nat) (eT : T.heap = h) (F : Ax Z h a .int n w) (hk : j.toInt = (k : Int)) (hn : k < n) (hv : w k = v) (hd : decode bytes pc = .ok (.iaload, 1)) (hp : pc + 1 = pc') (K : Go p e below s nc ns Q (T.setTop (mkF m pc' Ls (v :: St)))) : Go p e below s nc ns Q (T.setTop (mkF m pc Ls (.int j :: .ref a :: St))) := by
  subst hp
  obtain ⟨h0, c, A, r1, r2⟩ := F
  obtain ⟨q1, q2⟩ := own_idx hk hn
  exact Go.step (fun t q => X.iaload B.x (v := v) (by rw [eT]; exact A.1) (State.isArrayOf_alike B.z.alike A.2.1) A.2.2 (by rw [r1]; exact q1) (by rw [q2, ← hv]; exact r2 k hn) (g := mkF m pc Ls (.int j :: .ref a :: St)) rfl rfl (B.d hd) t q) K
theorem g_laload (X : Stand p l e R s m args below meth c T locs cells slots) (B : Bdy p s m meth c Z a0 own nm bytes maxL rt tabs) {a : Addr} {n : Nat} {w : Nat → Value} {j : Int32} {v : Value} (k : Nat) (eT : T.heap = h) (F : Ax Z h a .long n w) (hk : j.toInt = (k : Int)) (hn : k < n) (hv : w k = v) (hd : decode bytes pc = .ok (.laload, 1)) (hp : pc + 1 = pc') (K : Go p e below s nc ns Q (T.setTop (mkF m pc' Ls (v :: St)))) : Go p e below s nc ns Q (T.setTop (mkF m pc Ls (.int j :: .ref a :: St))) := by
  subst hp
  obtain ⟨h0, c, A, r1, r2⟩ := F
  obtain ⟨q1, q2⟩ := own_idx hk hn
  exact Go.step (fun t q => X.laload B.x (v := v) (by rw [eT]; exact A.1) (State.isArrayOf_alike B.z.alike A.2.1) A.2.2 (by rw [r1]; exact q1) (by rw [q2, ← hv]; exact r2 k hn) (g := mkF m pc Ls (.int j :: .ref a :: St)) rfl rfl (B.d hd) t q) K
theorem g_baloadB (X : Stand p l e R s m args below meth c T locs cells slots) (B : Bdy p s m meth c Z a0 own nm bytes maxL rt tabs) {a : Addr} {n : Nat} {w : Nat → Value} {j : Int32} {v : Value} (k : Nat) (eT : T.heap = h) (F : Ax Z h a .byte n w) (hk : j.toInt = (k : Int)) (hn : k < n) (hv : w k = v) (hd : decode bytes pc = .ok (.baload, 1)) (hp : pc + 1 = pc') (K : Go p e below s nc ns Q (T.setTop (mkF m pc' Ls (v :: St)))) : Go p e below s nc ns Q (T.setTop (mkF m pc Ls (.int j :: .ref a :: St))) := by
  subst hp
  obtain ⟨h0, c, A, r1, r2⟩ := F
  obtain ⟨q1, q2⟩ := own_idx hk hn
  exact Go.step (fun t q => X.baloadBytes B.x (v := v) (by rw [eT]; exact A.1) (State.isArrayOf_alike B.z.alike A.2.1) A.2.2 (by rw [r1]; exact q1) (by rw [q2, ← hv]; exact r2 k hn) (g := mkF m pc Ls (.int j :: .ref a :: St)) rfl rfl (B.d hd) t q) K
theorem g_baloadZ (X : Stand p l e R s m args below meth c T locs cells slots) (B : Bdy p s m meth c Z a0 own nm bytes maxL rt tabs) {a : Addr} {n : Nat} {w : Nat → Value} {j : Int32} {v : Value} (k : Nat) (eT : T.heap = h) (F : Ax Z h a .boolean n w) (hk : j.toInt = (k : Int)) (hn : k < n) (hv : w k = v) (hd : decode bytes pc = .ok (.baload, 1)) (hp : pc + 1 = pc') (K : Go p e below s nc ns Q (T.setTop (mkF m pc' Ls (v :: St)))) : Go p e below s nc ns Q (T.setTop (mkF m pc Ls (.int j :: .ref a :: St))) := by
  subst hp
  obtain ⟨h0, c, A, r1, r2⟩ := F
  obtain ⟨q1, q2⟩ := own_idx hk hn
  exact Go.step (fun t q => X.baloadBooleans B.x (v := v) (by rw [eT]; exact A.1) (State.isArrayOf_alike B.z.alike A.2.1) A.2.2 (by rw [r1]; exact q1) (by rw [q2, ← hv]; exact r2 k hn) (g := mkF m pc Ls (.int j :: .ref a :: St)) rfl rfl (B.d hd) t q) K
theorem g_iastore (X : Stand p l e R s m args below meth c T locs cells slots) (B : Bdy p s m meth c Z a0 own nm bytes maxL rt tabs) {a : Addr} {n : Nat} {w : Nat → Value} {j x : Int32} (k : Nat) (eT : T.heap = h) (F : Ax Z h a .int n w) (hk : j.toInt = (k : Int)) (hn : k < n) (hd : decode bytes pc = .ok (.iastore, 1)) (hp : pc + 1 = pc')
    (K : ∀ (T' : State) (h' : Heap), Stand p l e R s m args below meth c T' (locs ++ [⟨a, k⟩]) cells slots → T'.heap = h' → Wr h h' a k (.int x) → Go p e below s nc ns Q (T'.setTop (mkF m pc' Ls St))) : Go p e below s nc ns Q (T.setTop (mkF m pc Ls (.int x :: .int j :: .ref a :: St))) := by
  subst hp
  obtain ⟨h0, c, A, r1, r2⟩ := F
  obtain ⟨q1, q2⟩ := own_idx hk hn
  obtain ⟨T', h', X', e', W, st⟩ := stI X B.x B.z eT A (j := j) (x := x) (by rw [r1]; exact q1) (g := mkF m pc Ls (.int x :: .int j :: .ref a :: St)) rfl rfl (B.d hd)
  rw [q2] at X' W
  exact Go.step st (K T' h' X' e' W)
theorem g_lastore (X : Stand p l e R s m args below meth c T locs cells slots) (B : Bdy p s m meth c Z a0 own nm bytes maxL rt tabs) {a : Addr} {n : Nat} {w : Nat → Value} {j : Int32} {x : Int64} (k : Nat) (eT : T.heap = h) (F : Ax Z h a .long n w) (hk : j.toInt = (k : Int)) (hn : k < n) (hd : decode bytes pc = .ok (.lastore, 1)) (hp : pc + 1 = pc')
    (K : ∀ (T' : State) (h' : Heap), Stand p l e R s m args below meth c T' (locs ++ [⟨a, k⟩]) cells slots → T'.heap = h' → Wr h h' a k (.long x) → Go p e below s nc ns Q (T'.setTop (mkF m pc' Ls St))) : Go p e below s nc ns Q (T.setTop (mkF m pc Ls (.long x :: .int j :: .ref a :: St))) := by
  subst hp
  obtain ⟨h0, c, A, r1, r2⟩ := F
  obtain ⟨q1, q2⟩ := own_idx hk hn
  obtain ⟨T', h', X', e', W, st⟩ := stJ X B.x B.z eT A (j := j) (x := x) (by rw [r1]; exact q1) (g := mkF m pc Ls (.long x :: .int j :: .ref a :: St)) rfl rfl (B.d hd)
  rw [q2] at X' W
  exact Go.step st (K T' h' X' e' W)
theorem g_bastoreB (X : Stand p l e R s m args below meth c T locs cells slots) (B : Bdy p s m meth c Z a0 own nm bytes maxL rt tabs) {a : Addr} {n : Nat} {w : Nat → Value} {j x : Int32} (k : Nat) (eT : T.heap = h) (F : Ax Z h a .byte n w) (hk : j.toInt = (k : Int)) (hn : k < n) (hd : decode bytes pc = .ok (.bastore, 1)) (hp : pc + 1 = pc')
    (K : ∀ (T' : State) (h' : Heap), Stand p l e R s m args below meth c T' (locs ++ [⟨a, k⟩]) cells slots → T'.heap = h' → Wr h h' a k (.int (nar .byte x)) → Go p e below s nc ns Q (T'.setTop (mkF m pc' Ls St))) : Go p e below s nc ns Q (T.setTop (mkF m pc Ls (.int x :: .int j :: .ref a :: St))) := by
  subst hp
  obtain ⟨h0, c, A, r1, r2⟩ := F
  obtain ⟨q1, q2⟩ := own_idx hk hn
  obtain ⟨T', h', X', e', W, st⟩ := stB X B.x B.z eT A (j := j) (x := x) (by rw [r1]; exact q1) (g := mkF m pc Ls (.int x :: .int j :: .ref a :: St)) rfl rfl (B.d hd)
  rw [q2] at X' W
  exact Go.step st (K T' h' X' e' W)
theorem g_bastoreZ (X : Stand p l e R s m args below meth c T locs cells slots) (B : Bdy p s m meth c Z a0 own nm bytes maxL rt tabs) {a : Addr} {n : Nat} {w : Nat → Value} {j x : Int32} (k : Nat) (eT : T.heap = h) (F : Ax Z h a .boolean n w) (hk : j.toInt = (k : Int)) (hn : k < n) (hd : decode bytes pc = .ok (.bastore, 1)) (hp : pc + 1 = pc')
    (K : ∀ (T' : State) (h' : Heap), Stand p l e R s m args below meth c T' (locs ++ [⟨a, k⟩]) cells slots → T'.heap = h' → Wr h h' a k (.int (nar .boolean x)) → Go p e below s nc ns Q (T'.setTop (mkF m pc' Ls St))) : Go p e below s nc ns Q (T.setTop (mkF m pc Ls (.int x :: .int j :: .ref a :: St))) := by
  subst hp
  obtain ⟨h0, c, A, r1, r2⟩ := F
  obtain ⟨q1, q2⟩ := own_idx hk hn
  obtain ⟨T', h', X', e', W, st⟩ := stZ X B.x B.z eT A (j := j) (x := x) (by rw [r1]; exact q1) (g := mkF m pc Ls (.int x :: .int j :: .ref a :: St)) rfl rfl (B.d hd)
  rw [q2] at X' W
  exact Go.step st (K T' h' X' e' W)
theorem g_castore (X : Stand p l e R s m args below meth c T locs cells slots) (B : Bdy p s m meth c Z a0 own nm bytes maxL rt tabs) {a : Addr} {n : Nat} {w : Nat → Value} {j x : Int32} (k : Nat) (eT : T.heap = h) (F : Ax Z h a .char n w) (hk : j.toInt = (k : Int)) (hn : k < n) (hd : decode bytes pc = .ok (.castore, 1)) (hp : pc + 1 = pc')
    (K : ∀ (T' : State) (h' : Heap), Stand p l e R s m args below meth c T' (locs ++ [⟨a, k⟩]) cells slots → T'.heap = h' → Wr h h' a k (.int (nar .char x)) → Go p e below s nc ns Q (T'.setTop (mkF m pc' Ls St))) : Go p e below s nc ns Q (T.setTop (mkF m pc Ls (.int x :: .int j :: .ref a :: St))) := by
  subst hp
  obtain ⟨h0, c, A, r1, r2⟩ := F
  obtain ⟨q1, q2⟩ := own_idx hk hn
  obtain ⟨T', h', X', e', W, st⟩ := stC X B.x B.z eT A (j := j) (x := x) (by rw [r1]; exact q1) (g := mkF m pc Ls (.int x :: .int j :: .ref a :: St)) rfl rfl (B.d hd)
  rw [q2] at X' W
  exact Go.step st (K T' h' X' e' W)
theorem g_sastore (X : Stand p l e R s m args below meth c T locs cells slots) (B : Bdy p s m meth c Z a0 own nm bytes maxL rt tabs) {a : Addr} {n : Nat} {w : Nat → Value} {j x : Int32} (k : Nat) (eT : T.heap = h) (F : Ax Z h a .short n w) (hk : j.toInt = (k : Int)) (hn : k < n) (hd : decode bytes pc = .ok (.sastore, 1)) (hp : pc + 1 = pc')
    (K : ∀ (T' : State) (h' : Heap), Stand p l e R s m args below meth c T' (locs ++ [⟨a, k⟩]) cells slots → T'.heap = h' → Wr h h' a k (.int (nar .short x)) → Go p e below s nc ns Q (T'.setTop (mkF m pc' Ls St))) : Go p e below s nc ns Q (T.setTop (mkF m pc Ls (.int x :: .int j :: .ref a :: St))) := by
  subst hp
  obtain ⟨h0, c, A, r1, r2⟩ := F
  obtain ⟨q1, q2⟩ := own_idx hk hn
  obtain ⟨T', h', X', e', W, st⟩ := stS X B.x B.z eT A (j := j) (x := x) (by rw [r1]; exact q1) (g := mkF m pc Ls (.int x :: .int j :: .ref a :: St)) rfl rfl (B.d hd)
  rw [q2] at X' W
  exact Go.step st (K T' h' X' e' W)
theorem g_initO (X : Stand p l e R s m args below meth c T locs cells slots) (B : Bdy p s m meth c Z a0 own nm bytes maxL rt tabs) {i : Nat} {a : Addr} (W : Nat) (w1 : (Jvm.Cond.methodLink own i Lib.objectInit).before a0 Z = true) (w2 : (Jvm.Cond.instanceMethod Lib.objectInit).before a0 Z = true) (w3 : (Jvm.Cond.code Lib.objectInit ⟨#[0xb1]⟩ 1 none).before a0 Z = true) (eT : T.heap = h) (hsz : Ls.size = maxL) (hd : decode bytes pc = .ok (.invokespecial i, 3)) (hp : pc + 3 = pc')
    (hf : 1 ≤ R.frames) (hW : (St.map fun v => v.category).sum ≤ W) (hl : W + 12 ≤ R.locals) (K : ∀ T' : State, Stand p l e R s m args below meth c T' locs cells slots → T'.heap = h → Go p e below s nc ns Q (T'.setTop (mkF m pc' Ls St))) : Go p e below s nc ns Q (T.setTop (mkF m pc Ls (.ref a :: St))) := by
  subst hp
  obtain ⟨T', X', e', st⟩ := initO X B.x B.z B.o w1 w2 w3 eT (g := mkF m pc Ls (.ref a :: St)) rfl (by rw [B.ml]; exact hsz) rfl (B.d hd) hf (W := W) (by show 2 * 0 + _ ≤ _; omega) hl
  exact Go.step st (K T' X' e')
theorem g_special (X : Stand p l e R s m args below meth c T locs cells slots) (B : Bdy p s m meth c Z a0 own nm bytes maxL rt tabs) {y : MethodName} {i : Nat} {yb : ByteArray} {ym : Nat} {rm : Room} {a : Addr} {argsL rest : List Value} {Qc : Option Value → Heap → List Loc → Prop} (eT : T.heap = h) (W : Nat) (hy1 : y.name = "<init>")
    (w1 : (Jvm.Cond.methodLink own i y).before a0 Z = true) (w2 : (Jvm.Cond.instanceMethod y).before a0 Z = true) (w3 : (Jvm.Cond.initialized y.cls).before a0 Z = true) (w4 : (Jvm.Cond.code y yb ym none).before a0 Z = true) (hy : y.cls ≠ "java/lang/invoke/MethodHandle" ∧ y.cls ≠ "java/lang/invoke/VarHandle")
    (M : Met l Z y yb ym none [] rm (.ref a :: argsL).toArray h Qc) (hf : rm.frames + 1 ≤ R.frames) (hl : W + (ym + 11) + rm.locals ≤ R.locals) (hc : cells + rm.cells ≤ R.cells) (hs : slots + rm.slots ≤ R.slots)
    (hsz : Ls.size = maxL) (hlen : ∀ sig, parseMethodDescriptor y.desc = some sig → argsL.length = sig.parameters.length) (hst : St = argsL.reverse ++ .ref a :: rest) (hW : (rest.map fun v => v.category).sum ≤ W) (hd : decode bytes pc = .ok (.invokespecial i, 3)) (hp : pc + 3 = pc')
    (K : ∀ (T' : State) (v : Option Value) (L : List Loc), Stand p l e R s m args below meth c T' (locs ++ L) (cells + rm.cells) (slots + rm.slots) → Qc v T'.heap L → Go p e below s nc ns Q (T'.setTop (mkF m pc' Ls (v.toList ++ rest)))) : Go p e below s nc ns Q (T.setTop (mkF m pc Ls St)) := by
  subst hp
  obtain ⟨v, _, ⟨T', L', k', n'⟩, -, X', ⟨Lc, hQ, l', y', z'⟩, st⟩ := X.specialBack B.x (y := y) hy1 B.o (mvT B.z w1) (mvT B.z w2) (mvT B.z w4) hy (backOf (W := W) M B.z w4 w3 hf hl) (g := mkF m pc Ls St) rfl (by rw [B.ml]; exact hsz) (Steps.refl _) (a := a) (argsL := argsL) (rest := rest) hlen hst (by show 2 * 0 + _ ≤ _; omega) (B.d hd) (fun _ _ => ⟨rfl, eT, hc, hs⟩)
  dsimp only [Pt.U, Pt.locs, Pt.cells, Pt.slots] at X' l' y' z' st hQ
  subst l' y' z'
  exact Go.step (fun t q => st.trans q) (K T' v Lc X' hQ)
theorem g_virtual (X : Stand p l e R s m args below meth c T locs cells slots) (B : Bdy p s m meth c Z a0 own nm bytes maxL rt tabs) {y : MethodName} {C : String} {i : Nat} {yb : ByteArray} {ym : Nat} {yr : Option FieldType} {rm : Room} {a : Addr} {argsL rest : List Value} {Qc : Option Value → Heap → List Loc → Prop} (eT : T.heap = h) (W : Nat) (E : Exa Z h a C)
    (w1 : (Jvm.Cond.methodLink own i y).before a0 Z = true) (wd : (Jvm.Cond.declares y).before a0 Z = true) (wsel : (Jvm.Cond.selects C y y).before a0 Z = true) (w2 : (Jvm.Cond.instanceMethod y).before a0 Z = true) (w3 : (Jvm.Cond.initialized y.cls).before a0 Z = true) (w4 : (Jvm.Cond.code y yb ym yr).before a0 Z = true) (hy : y.cls ≠ "java/lang/invoke/MethodHandle" ∧ y.cls ≠ "java/lang/invoke/VarHandle")
    (M : Met l Z y yb ym yr [] rm (.ref a :: argsL).toArray h Qc) (hf : rm.frames + 1 ≤ R.frames) (hl : W + (ym + 11) + rm.locals ≤ R.locals) (hc : cells + rm.cells ≤ R.cells) (hs : slots + rm.slots ≤ R.slots)
    (hsz : Ls.size = maxL) (hlen : ∀ sig, parseMethodDescriptor y.desc = some sig → argsL.length = sig.parameters.length) (hst : St = argsL.reverse ++ .ref a :: rest) (hW : (rest.map fun v => v.category).sum ≤ W) (hd : decode bytes pc = .ok (.invokevirtual i, 3)) (hp : pc + 3 = pc')
    (K : ∀ (T' : State) (v : Option Value) (L : List Loc), Stand p l e R s m args below meth c T' (locs ++ L) (cells + rm.cells) (slots + rm.slots) → Qc v T'.heap L → Go p e below s nc ns Q (T'.setTop (mkF m pc' Ls (v.toList ++ rest)))) : Go p e below s nc ns Q (T.setTop (mkF m pc Ls St)) := by
  subst hp
  obtain ⟨cq, kq, q1, q2, q3⟩ := isOf B.z eT E
  obtain ⟨v, _, ⟨T', L', k', n'⟩, -, X', ⟨Lc, hQ, l', y', z'⟩, st⟩ := X.virtualBack B.x (y := y) (z := y) B.o (mvT B.z w1) (mvT B.z wd) (notFace_of_selects (args := #[]) (mvT B.z wsel)) (mvT B.z wsel) (mvT B.z w2) hy (backOf (W := W) M B.z w4 w3 hf hl) q1 q3 (g := mkF m pc Ls St) rfl (by rw [B.ml]; exact hsz) (Steps.refl _) (argsL := argsL) (rest := rest) hlen hst (by show 2 * 0 + _ ≤ _; omega) (B.d hd) (fun _ _ => ⟨rfl, eT, hc, hs⟩)
  dsimp only [Pt.U, Pt.locs, Pt.cells, Pt.slots] at X' l' y' z' st hQ
  subst l' y' z'
  exact Go.step (fun t q => st.trans q) (K T' v Lc X' hQ)
theorem g_ifnullR (X : Stand p l e R s m args below meth c T locs cells slots) (B : Bdy p s m meth c Z a0 own nm bytes maxL rt tabs) {a : Addr} {o : Int} (hd : decode bytes pc = .ok (.ifnull o, 3)) (hp : pc + 3 = pc') (K : Go p e below s nc ns Q (T.setTop (mkF m pc' Ls St))) : Go p e below s nc ns Q (T.setTop (mkF m pc Ls (.ref a :: St))) := by
  subst hp; exact Go.step (fun t q => XS.ifnullNo X.here B.x (g := mkF m pc Ls (.ref a :: St)) rfl (B.d hd) rfl q) K
theorem g_ifnullN (X : Stand p l e R s m args below meth c T locs cells slots) (B : Bdy p s m meth c Z a0 own nm bytes maxL rt tabs) {o : Int} (hd : decode bytes pc = .ok (.ifnull o, 3)) (ho : 0 ≤ (pc : Int) + o) (hp : ((pc : Int) + o).toNat = pc') (K : Go p e below s nc ns Q (T.setTop (mkF m pc' Ls St))) : Go p e below s nc ns Q (T.setTop (mkF m pc Ls (.null :: St))) :=
  Go.step (fun t q => XS.ifnullYes X.here B.x (g := mkF m pc Ls (.null :: St)) rfl rfl (B.d hd) rfl ho hp q) K
theorem g_ifnonnullR (X : Stand p l e R s m args below meth c T locs cells slots) (B : Bdy p s m meth c Z a0 own nm bytes maxL rt tabs) {a : Addr} {o : Int} (hd : decode bytes pc = .ok (.ifnonnull o, 3)) (ho : 0 ≤ (pc : Int) + o) (hp : ((pc : Int) + o).toNat = pc') (K : Go p e below s nc ns Q (T.setTop (mkF m pc' Ls St))) : Go p e below s nc ns Q (T.setTop (mkF m pc Ls (.ref a :: St))) :=
  Go.step (fun t q => XS.ifnonnullYes X.here B.x (g := mkF m pc Ls (.ref a :: St)) rfl rfl (B.d hd) rfl ho hp q) K
theorem g_ifnonnullN (X : Stand p l e R s m args below meth c T locs cells slots) (B : Bdy p s m meth c Z a0 own nm bytes maxL rt tabs) {o : Int} (hd : decode bytes pc = .ok (.ifnonnull o, 3)) (hp : pc + 3 = pc') (K : Go p e below s nc ns Q (T.setTop (mkF m pc' Ls St))) : Go p e below s nc ns Q (T.setTop (mkF m pc Ls (.null :: St))) := by
  subst hp; exact Go.step (fun t q => XS.ifnonnullNo X.here B.x (g := mkF m pc Ls (.null :: St)) rfl (B.d hd) rfl q) K
theorem g_acmp_eq (X : Stand p l e R s m args below meth c T locs cells slots) (B : Bdy p s m meth c Z a0 own nm bytes maxL rt tabs) {a b : Addr} {o : Int} {pcT pcF : Nat} (hd : decode bytes pc = .ok (.if_acmp .eq o, 3)) (ho : 0 ≤ (pc : Int) + o) (hT : ((pc : Int) + o).toNat = pcT) (hF : pc + 3 = pcF) (K1 : a = b → Go p e below s nc ns Q (T.setTop (mkF m pcT Ls St))) (K2 : ¬ a = b → Go p e below s nc ns Q (T.setTop (mkF m pcF Ls St))) : Go p e below s nc ns Q (T.setTop (mkF m pc Ls (.ref b :: .ref a :: St))) := by
  by_cases q : a = b
  · exact Go.step (fun t k => XS.acmpYes X.here B.x (g := mkF m pc Ls (.ref b :: .ref a :: St)) rfl rfl (B.d hd) rfl (by simp [if_acmp.holds, q]) ho hT k) (K1 q)
  · subst hF; exact Go.step (fun t k => XS.acmpNo X.here B.x (g := mkF m pc Ls (.ref b :: .ref a :: St)) rfl (B.d hd) rfl (by simp [if_acmp.holds, q]) k) (K2 q)
theorem g_acmp_ne (X : Stand p l e R s m args below meth c T locs cells slots) (B : Bdy p s m meth c Z a0 own nm bytes maxL rt tabs) {a b : Addr} {o : Int} {pcT pcF : Nat} (hd : decode bytes pc = .ok (.if_acmp .ne o, 3)) (ho : 0 ≤ (pc : Int) + o) (hT : ((pc : Int) + o).toNat = pcT) (hF : pc + 3 = pcF) (K1 : a = b → Go p e below s nc ns Q (T.setTop (mkF m pcF Ls St))) (K2 : ¬ a = b → Go p e below s nc ns Q (T.setTop (mkF m pcT Ls St))) : Go p e below s nc ns Q (T.setTop (mkF m pc Ls (.ref b :: .ref a :: St))) := by
  by_cases q : a = b
  · subst hF; exact Go.step (fun t k => XS.acmpNo X.here B.x (g := mkF m pc Ls (.ref b :: .ref a :: St)) rfl (B.d hd) rfl (by simp [if_acmp.holds, q]) k) (K1 q)
  · exact Go.step (fun t k => XS.acmpYes X.here B.x (g := mkF m pc Ls (.ref b :: .ref a :: St)) rfl rfl (B.d hd) rfl (by simp [if_acmp.holds, q]) ho hT k) (K2 q)
theorem own_fuq {a : Addr} {C n d : String} {v w : Value} (F : Fld Z h a C n d v) (G : Fld Z h a C n d w) : v = w := by
  obtain ⟨c1, _, _, _, _, h1, h2, -, -, -, -, h3⟩ := F
  obtain ⟨c2, _, _, _, _, g1, g2, -, -, -, -, g3⟩ := G
  cases h1.symm.trans g1
  cases h2.symm.trans g2
  exact Option.some.inj (h3.symm.trans g3)
theorem own_fl {x : Addr} {t : Term} {C n d : String} {k : Int32} {as : Array Value} (ht : t.eval as s none [] s = some (.ref x)) (q : (Jvm.Cond.eq (.field t C n d) (.int k)).value as s none s [] = some true) : s.fieldOf? x C n d = some (.int k) := by
  obtain ⟨x', y', e1, e2, k1, k2⟩ := cmp_v (Or.inl q)
  have e3 : y' = .int k := (Option.some.inj ((Term.int_eval k).symm.trans e2)).symm
  subst e3
  obtain ⟨z, rfl⟩ := k2
  have e4 := gotT (Cond.eq_ints e1 e2) q
  subst e4
  rw [← fld_at (C := C) (n := n) (dd := d) ht]; exact e1
end HeapKit
theorem own_ints_nil (x : Int32) : ∀ j : Nat, ∃ v : Int32, (fun _ : Nat => Value.int x) j = .int v := fun _ => ⟨x, rfl⟩
theorem own_ints_set {w : Nat → Value} (H : ∀ j : Nat, ∃ v : Int32, w j = .int v) (k : Nat) (x : Int32) : ∀ j : Nat, ∃ v : Int32, (fun j => if j = k then Value.int x else w j) j = .int v := fun j => by
  by_cases q : j = k
  · exact ⟨x, by simp [q]⟩
  · obtain ⟨v, hv⟩ := H j; exact ⟨v, by simp [q, hv]⟩
section HeapKit2
variable {p : Program} {l : Launch} {e : Env} {R : Room} {s : State} {m : MethodId} {args : Array Value} {below : List Frame} {meth : Method} {c : Code} {T : State} {locs : List Loc} {cells slots : Nat} {Z : State} {a0 : Array Value} {h h' : Heap} {nc ns : Nat} {Q Q' : Option Value → Heap → List Loc → Prop} {pc pc' : Nat} {Ls Ls' : Array Slot} {St : List Value} {own nm : String} {bytes : ByteArray} {maxL : Nat} {rt : Option FieldType} {tabs : List Jvm.Cond}
theorem g_iaload_any (X : Stand p l e R s m args below meth c T locs cells slots) (B : Bdy p s m meth c Z a0 own nm bytes maxL rt tabs) {a : Addr} {n : Nat} {w : Nat → Value} {j : Int32} (k : Nat) (eT : T.heap = h) (F : Ax Z h a .int n w) (hk : j.toInt = (k : Int)) (hn : k < n) (hall : ∀ j : Nat, ∃ v : Int32, w j = .int v) (hd : decode bytes pc = .ok (.iaload, 1)) (hp : pc + 1 = pc') (K : ∀ v : Int32, Go p e below s nc ns Q (T.setTop (mkF m pc' Ls (.int v :: St)))) : Go p e below s nc ns Q (T.setTop (mkF m pc Ls (.int j :: .ref a :: St))) := by
  obtain ⟨v, hv⟩ := hall k
  exact g_iaload X B k eT F hk hn hv hd hp (K v)
end HeapKit2
section HeapKit3
variable {p : Program} {l : Launch} {e : Env} {R : Room} {s : State} {m : MethodId} {args : Array Value} {below : List Frame} {meth : Method} {c : Code} {T : State} {locs : List Loc} {cells slots : Nat} {Z : State} {a0 : Array Value} {h h' : Heap} {nc ns : Nat} {Q Q' : Option Value → Heap → List Loc → Prop} {pc pc' : Nat} {Ls Ls' : Array Slot} {St : List Value} {own nm : String} {bytes : ByteArray} {maxL : Nat} {rt : Option FieldType} {tabs : List Jvm.Cond}
theorem g_private (X : Stand p l e R s m args below meth c T locs cells slots) (B : Bdy p s m meth c Z a0 own nm bytes maxL rt tabs) {y : MethodName} {C : String} {i kk : Nat} {yb : ByteArray} {ym : Nat} {yr : Option FieldType} {rm : Room} {a : Addr} {argsL rest : List Value} {Qc : Option Value → Heap → List Loc → Prop} (eT : T.heap = h) (W : Nat) (E : Exa Z h a C)
    (w1 : (Jvm.Cond.methodLink own i y).before a0 Z = true) (wi : (Jvm.Cond.instantiable y.cls kk).before a0 Z = true) (wp : (Jvm.Cond.privateMethod y).before a0 Z = true) (w2 : (Jvm.Cond.instanceMethod y).before a0 Z = true) (w3 : (Jvm.Cond.initialized y.cls).before a0 Z = true) (w4 : (Jvm.Cond.code y yb ym yr).before a0 Z = true) (hy : y.cls ≠ "java/lang/invoke/MethodHandle" ∧ y.cls ≠ "java/lang/invoke/VarHandle")
    (M : Met l Z y yb ym yr [] rm (.ref a :: argsL).toArray h Qc) (hf : rm.frames + 1 ≤ R.frames) (hl : W + (ym + 11) + rm.locals ≤ R.locals) (hc : cells + rm.cells ≤ R.cells) (hs : slots + rm.slots ≤ R.slots)
    (hsz : Ls.size = maxL) (hlen : ∀ sig, parseMethodDescriptor y.desc = some sig → argsL.length = sig.parameters.length) (hst : St = argsL.reverse ++ .ref a :: rest) (hW : (rest.map fun v => v.category).sum ≤ W) (hd : decode bytes pc = .ok (.invokevirtual i, 3)) (hp : pc + 3 = pc')
    (K : ∀ (T' : State) (v : Option Value) (L : List Loc), Stand p l e R s m args below meth c T' (locs ++ L) (cells + rm.cells) (slots + rm.slots) → Qc v T'.heap L → Go p e below s nc ns Q (T'.setTop (mkF m pc' Ls (v.toList ++ rest)))) : Go p e below s nc ns Q (T.setTop (mkF m pc Ls St)) := by
  subst hp
  obtain ⟨cq, q1, q2⟩ := E.cell
  have wi' : (Jvm.Cond.instantiable y.cls kk).before args s = true := mvT B.z wi
  have w2' : (Jvm.Cond.instanceMethod y).before args s = true := mvT B.z w2
  obtain ⟨c2, k2, i1, i2, i3, i4, -⟩ := Cond.instantiable_spec wi'
  have i5 : k2.isInterface = false := by
    cases hq : k2.isInterface with
    | false => rfl
    | true => rw [hq] at i4; cases i4
  have hpv := Cond.privateMethod_at (mvP B.z wp (args := #[]))
  obtain ⟨v, _, ⟨T', L', k', n'⟩, -, X', ⟨Lc, hQ, l', y', z'⟩, st⟩ := X.privateBack B.x (y := y) B.o (mvT B.z w1) w2' (selects_self_of_private i1 i2 i5 hpv w2' hy) hpv (mvT B.z w4) hy (backOf (W := W) M B.z w4 w3 hf hl) (g := mkF m pc Ls St) rfl (by rw [B.ml]; exact hsz) (Steps.refl _) (a := a) (by rw [eT]; exact q1) q2 (argsL := argsL) (rest := rest) hlen hst (by show 2 * 0 + _ ≤ _; omega) (B.d hd) (fun _ _ => ⟨rfl, eT, hc, hs⟩)
  dsimp only [Pt.U, Pt.locs, Pt.cells, Pt.slots] at X' l' y' z' st hQ
  subst l' y' z'
  exact Go.step (fun t q => st.trans q) (K T' v Lc X' hQ)
theorem g_pop2L (X : Stand p l e R s m args below meth c T locs cells slots) (B : Bdy p s m meth c Z a0 own nm bytes maxL rt tabs) {x : Int64} (hd : decode bytes pc = .ok (.pop2, 1)) (hp : pc + 1 = pc') (K : Go p e below s nc ns Q (T.setTop (mkF m pc' Ls St))) : Go p e below s nc ns Q (T.setTop (mkF m pc Ls (.long x :: St))) := by
  subst hp
  have hd' := B.d hd
  have hx := B.x
  refine Go.step (fun t q => ?_) K
  jvm_step X.here [X.here.top, hx, hd', Value.category]
  exact q
theorem g_instY (X : Stand p l e R s m args below meth c T locs cells slots) (B : Bdy p s m meth c Z a0 own nm bytes maxL rt tabs) {i : Nat} {C : String} {a : Addr} (w : (Jvm.Cond.classLink own i C).before a0 Z = true) (eT : T.heap = h) (F : Ins Z h a C true) (hd : decode bytes pc = .ok (.instanceof i, 3)) (hp : pc + 3 = pc')
    (K : ∀ T' : State, Stand p l e R s m args below meth c T' locs cells slots → T'.heap = h → Go p e below s nc ns Q (T'.setTop (mkF m pc' Ls (.int (1 : Int32) :: St)))) : Go p e below s nc ns Q (T.setTop (mkF m pc Ls (.ref a :: St))) := by
  subst hp
  obtain ⟨T', X', e', st⟩ := instY X B.x B.z B.o w eT F (g := mkF m pc Ls (.ref a :: St)) rfl rfl (B.d hd)
  exact Go.step st (K T' X' e')
theorem g_instN (X : Stand p l e R s m args below meth c T locs cells slots) (B : Bdy p s m meth c Z a0 own nm bytes maxL rt tabs) {i : Nat} {K' C : String} {a : Addr} (w : (Jvm.Cond.classLink own i K').before a0 Z = true) (eT : T.heap = h) (E : Exa Z h a C) (F : ∃ c t, Z.vm.findClass C = some c ∧ Z.vm.findClass K' = some t ∧ Z.vm.assignable c t = false) (hd : decode bytes pc = .ok (.instanceof i, 3)) (hp : pc + 3 = pc')
    (K : ∀ T' : State, Stand p l e R s m args below meth c T' locs cells slots → T'.heap = h → Go p e below s nc ns Q (T'.setTop (mkF m pc' Ls (.int (0 : Int32) :: St)))) : Go p e below s nc ns Q (T.setTop (mkF m pc Ls (.ref a :: St))) := by
  subst hp
  obtain ⟨T', X', e', st⟩ := instNo X B.x B.z B.o w eT E F (g := mkF m pc Ls (.ref a :: St)) rfl rfl (B.d hd)
  exact Go.step st (K T' X' e')
theorem g_castY (X : Stand p l e R s m args below meth c T locs cells slots) (B : Bdy p s m meth c Z a0 own nm bytes maxL rt tabs) {i : Nat} {C : String} {a : Addr} (w : (Jvm.Cond.classLink own i C).before a0 Z = true) (eT : T.heap = h) (F : Ins Z h a C true) (hd : decode bytes pc = .ok (.checkcast i, 3)) (hp : pc + 3 = pc')
    (K : ∀ T' : State, Stand p l e R s m args below meth c T' locs cells slots → T'.heap = h → Go p e below s nc ns Q (T'.setTop (mkF m pc' Ls (.ref a :: St)))) : Go p e below s nc ns Q (T.setTop (mkF m pc Ls (.ref a :: St))) := by
  subst hp
  obtain ⟨T', X', e', st⟩ := castY X B.x B.z B.o w eT F (g := mkF m pc Ls (.ref a :: St)) rfl rfl (B.d hd)
  exact Go.step st (K T' X' e')
theorem g_newAE (X : Stand p l e R s m args below meth c T locs cells slots) (B : Bdy p s m meth c Z a0 own nm bytes maxL rt tabs) {aty : ArrayType} {z : Int32} (ad : String) (k cap : Nat) (w : (Jvm.Cond.arrayClass (newarray.typeOf aty)).before a0 Z = true) (eT : T.heap = h) (hz : z.toInt = (k : Int)) (hcap : k ≤ cap) (hb : cap * 8 ≤ 536870912) (had : "[" ++ (newarray.typeOf aty).toString = ad) (hd : decode bytes pc = .ok (.newarray aty, 2)) (hp : pc + 2 = pc') (hc : cells + 1 ≤ R.cells) (hl : slots + cap ≤ R.slots)
    (K : ∀ (T' : State) (h' : Heap) (a : Addr), a = h.size → Stand p l e R s m args below meth c T' locs (cells + 1) (slots + cap) → T'.heap = h' → Ext h h' → Ax Z h' a (newarray.typeOf aty) k (fun _ => defaultValue (newarray.typeOf aty)) → Exa Z h' a ad → Go p e below s nc ns Q (T'.setTop (mkF m pc' Ls (.ref a :: St)))) : Go p e below s nc ns Q (T.setTop (mkF m pc Ls (.int z :: St))) := by
  subst hp
  have e1 : z.toNatClampNeg = k := by show z.toInt.toNat = k; omega
  have e0 : (0 : Int32).toInt = 0 := rfl
  have hlt := z.toInt_lt
  obtain ⟨T', h', cA, X', e', E, A, Ea, st⟩ := newPE X B.x B.z w eT (g := mkF m pc Ls (.int z :: St)) rfl (B.d hd) rfl (by rw [Int32.lt_iff_toInt_lt, e0]; omega) (cap := cap) (by omega) hb hc hl had
  refine Go.step st (K T' h' _ rfl X' e' E ⟨by omega, _, A, (sz_new _ _ _).trans e1, fun j hj => ?_⟩ Ea)
  simp [newA, e1, hj]
theorem own_arv {a : Addr} {n : Nat} {w : Nat → Value} {ty : FieldType} (d : Value) (F : Ax Z h a ty n w) (hf : ∀ j, j < n → fits ty (w j) = true) : ∃ k, Arv Z h a k ty (Int32.ofNat n) ((List.range n).map w) d := by
  obtain ⟨h0, c, A, r1, r2⟩ := F
  have e0 : (0 : Int32).toInt = 0 := rfl
  have e1 : (Int32.ofNat n).toInt = (n : Int) := Int32.toInt_ofNat_small (by omega)
  have e2 : (Int32.ofNat n).toNatClampNeg = n := by show (Int32.ofNat n).toInt.toNat = n; omega
  have q : ∀ k, k < n → ((List.range n).map w).getD k d = w k := fun k hk => by
    rw [List.getD_eq_getElem?_getD, List.getElem?_map, List.getElem?_range hk]; rfl
  refine ⟨c.cls, c, A, rfl, by rw [r1, e2], by rw [Int32.lt_iff_toInt_lt, e0, e1]; omega, fun k hk => ?_, fun k hk => ?_⟩
  · rw [r1] at hk; rw [q k hk]; exact r2 k hk
  · rw [r1] at hk; rw [q k hk]; exact hf k hk
theorem g_clone (X : Stand p l e R s m args below meth c T locs cells slots) (B : Bdy p s m meth c Z a0 own nm bytes maxL rt tabs) {i : Nat} {ad : String} {a : Addr} {ty : FieldType} {n : Nat} {w : Nat → Value} (W cap : Nat)
    (w1 : (Jvm.Cond.methodLink own i ⟨ad, "clone", "()Ljava/lang/Object;"⟩).before a0 Z = true) (w2 : (Jvm.Cond.sameMethod ad "java/lang/Object" "clone" "()Ljava/lang/Object;").before a0 Z = true) (w3 : (Jvm.Cond.native ⟨"java/lang/Object", "clone", "()Ljava/lang/Object;"⟩).before a0 Z = true)
    (w4 : (Jvm.Cond.instanceMethod ⟨"java/lang/Object", "clone", "()Ljava/lang/Object;"⟩).before a0 Z = true) (w5 : (Jvm.Cond.selects ad ⟨ad, "clone", "()Ljava/lang/Object;"⟩ ⟨"java/lang/Object", "clone", "()Ljava/lang/Object;"⟩).before a0 Z = true) (w6 : (Jvm.Cond.castable ad "java/lang/Cloneable").before a0 Z = true)
    (eT : T.heap = h) (F : Ax Z h a ty n w) (hfit : ∀ j, j < n → fits ty (w j) = true) (E : Exa Z h a ad) (hsz : Ls.size = maxL) (hd : decode bytes pc = .ok (.invokevirtual i, 3)) (hp : pc + 3 = pc') (hf : 1 ≤ R.frames) (hW : (St.map fun v => v.category).sum ≤ W) (hl : W + 14 ≤ R.locals) (hcap : n ≤ cap) (hc : cells + 1 ≤ R.cells) (hsl : slots + cap ≤ R.slots)
    (K : ∀ (T' : State) (h' : Heap) (b : Addr), b = h.size → Stand p l e R s m args below meth c T' locs (cells + 1) (slots + cap) → T'.heap = h' → Ext h h' → Exa Z h' b ad → Go p e below s nc ns Q (T'.setTop (mkF m pc' Ls (.ref b :: St)))) : Go p e below s nc ns Q (T.setTop (mkF m pc Ls (.ref a :: St))) := by
  subst hp
  obtain ⟨k, V⟩ := own_arv (.int 0) F hfit
  have e1 : (Int32.ofNat n).toInt = (n : Int) := Int32.toInt_ofNat_small (by have := F.1; omega)
  obtain ⟨T', h', X', e', Ex, -, Ea, st⟩ := cloneH X B.x B.z B.o w1 w2 w3 w4 w5 w6 eT V.arh E (g := mkF m pc Ls (.ref a :: St)) rfl (by rw [B.ml]; exact hsz) rfl (B.d hd) hf (W := W) (cap := cap) (by show 2 * 0 + _ ≤ _; omega) hl (by show (Int32.ofNat n).toInt.toNat ≤ cap; omega) hc hsl
  exact Go.step st (K T' h' _ rfl X' e' Ex Ea)
theorem g_copy (X : Stand p l e R s m args below meth c T locs cells slots) (B : Bdy p s m meth c Z a0 own nm bytes maxL rt tabs) {i : Nat} {a b : Addr} {ty : FieldType} {n n' : Nat} {w w' : Nat → Value} {sp dp nn : Int32} {n0 : Nat} (ks kd kn W : Nat)
    (w1 : (Jvm.Cond.methodLink own i Jvm.Stand.acN).before a0 Z = true) (w2 : (Jvm.Cond.native Jvm.Stand.acN).before a0 Z = true) (w3 : (Jvm.Cond.static Jvm.Stand.acN).before a0 Z = true) (w4 : (Jvm.Cond.initialized "java/lang/System").before a0 Z = true) (eT : T.heap = h)
    (F : Ax Z h a ty n w) (F' : Ax Z h b ty n' w') (hty : refKind ty = false) (hfit : ∀ j, j < n → fits ty (w j) = true) (hfit' : ∀ j, j < n' → fits ty (w' j) = true) (hs : sp.toInt = (ks : Int)) (hdp : dp.toInt = (kd : Int)) (hnn : nn.toInt = (kn : Int)) (h4 : ks + kn ≤ n) (h5 : kd + kn ≤ n') (N : Fr n0 locs) (ge : n0 ≤ b)
    (hsz : Ls.size = maxL) (hd : decode bytes pc = .ok (.invokestatic i, 3)) (hp : pc + 3 = pc') (hf : 1 ≤ R.frames) (hW : (St.map fun v => v.category).sum ≤ W) (hl : W + 18 ≤ R.locals)
    (K : ∀ (T' : State) (h' : Heap) (L : List Loc), Stand p l e R s m args below meth c T' L cells slots → T'.heap = h' → Fr n0 L → Keep h h' [b] → Go p e below s nc ns Q (T'.setTop (mkF m pc' Ls St))) : Go p e below s nc ns Q (T.setTop (mkF m pc Ls (.int nn :: .int dp :: .ref b :: .int sp :: .ref a :: St))) := by
  subst hp
  obtain ⟨k, V⟩ := own_arv (.int 0) F hfit
  obtain ⟨k', V'⟩ := own_arv (.int 0) F' hfit'
  have e0 : (0 : Int32).toInt = 0 := rfl
  have e1 : (Int32.ofNat n).toInt = (n : Int) := Int32.toInt_ofNat_small (by have := F.1; omega)
  have e2 : (Int32.ofNat n').toInt = (n' : Int) := Int32.toInt_ofNat_small (by have := F'.1; omega)
  obtain ⟨T', h', L, X', e', NL, Kp, -, st⟩ := cpA X B.x B.z B.o w1 w2 w3 w4 eT V V' (Or.inl ⟨rfl, hty⟩) (by rw [Int32.lt_iff_toInt_lt, e0]; omega) (by rw [Int32.lt_iff_toInt_lt, e0]; omega) (by rw [Int32.lt_iff_toInt_lt, e0]; omega) (by show sp.toInt.toNat + nn.toInt.toNat ≤ (Int32.ofNat n).toInt.toNat; omega) (by show dp.toInt.toNat + nn.toInt.toNat ≤ (Int32.ofNat n').toInt.toNat; omega) rfl (by rw [List.length_map, List.length_range]; show dp.toInt.toNat + nn.toInt.toNat ≤ n'; omega) N ge (g := mkF m pc Ls (.int nn :: .int dp :: .ref b :: .int sp :: .ref a :: St)) rfl (by rw [B.ml]; exact hsz) rfl (B.d hd) hf (W := W) (by show 2 * 0 + _ ≤ _; omega) (by show W + (5 + 2 + 11) ≤ _; exact hl)
  exact Go.step st (K T' h' L X' e' NL Kp)
theorem own_root {O K : String} {kk : Nat} (w : (Jvm.Cond.noSuperclass O).before a0 Z = true) (wk : (Jvm.Cond.instantiable K kk).before a0 Z = true) (hn : O ≠ K) : NS Z O K := by
  obtain ⟨c, k, h1, h2, h3, -, -⟩ := Cond.noSuperclass_spec w
  obtain ⟨t, k', g1, -⟩ := Cond.instantiable_spec wk
  have ne := ids_ne h1 g1 hn
  refine ⟨c, t, h1, g1, fun fuel => ?_⟩
  cases fuel with
  | zero => rfl
  | succ f => simp [Vm.isSubclassAux, ne, h2, h3]
theorem own_no {C S K : String} {kk : Nat} (w : (Jvm.Cond.superclass C S).before a0 Z = true) (wk : (Jvm.Cond.instantiable K kk).before a0 Z = true) (n : NS Z C K) (hn : C ≠ K) : ∃ c t, Z.vm.findClass C = some c ∧ Z.vm.findClass K = some t ∧ Z.vm.assignable c t = false := by
  obtain ⟨c, t, h0, g0, n3⟩ := n
  obtain ⟨p, k, kp, h1, h2, h3, h4, h5, -, h7⟩ := Cond.superclass_spec h0 w
  obtain ⟨t', k', g1, g2, g5, g6, -⟩ := Cond.instantiable_spec wk
  cases g0.symm.trans g1
  have g7 : k'.isInterface = false := by
    cases hq : k'.isInterface with
    | false => rfl
    | true => rw [hq] at g6; cases g6
  have ne := ids_ne h0 g0 hn
  refine ⟨c, t, h0, g0, ?_⟩
  show Z.vm.assignableAux (255 + 1) c t = false
  simp [Vm.assignableAux, ne, h2, g2, h5, g5, g7, Vm.isSubclass, n3]
theorem own_old_ext (O : Ext Z.heap h) (E : Ext h h') : Ext Z.heap h' := ⟨Nat.le_trans O.1 E.1, fun a c q => E.2 a c (O.2 a c q)⟩
theorem own_old_keep {ws : List Addr} (O : Ext Z.heap h) (K : Keep h h' ws) (q : ∀ x ∈ ws, Z.heap.size ≤ x) : Ext Z.heap h' := ⟨Nat.le_trans O.1 K.1, fun a c hc => K.2.1 a c (O.2 a c hc) fun hm => absurd (Array.getElem?_eq_some_iff.mp hc).1 (Nat.not_lt.mpr (q a hm))⟩
theorem own_old_wr {a : Addr} {sl : Nat} {v : Value} (O : Ext Z.heap h) (W : Wr h h' a sl v) (q : Z.heap.size ≤ a) : Ext Z.heap h' := own_old_keep O (Keep.of_wr W) fun x hx => by cases List.mem_singleton.mp hx; exact q
theorem g_aaload (X : Stand p l e R s m args below meth c T locs cells slots) (B : Bdy p s m meth c Z a0 own nm bytes maxL rt tabs) {a : Addr} {cl : Cell} {C : String} {j : Int32} {v : Value} (eT : T.heap = h) (A : Arr Z h a cl (.object C)) (hj : ¬ (j < 0 ∨ cl.slots.size ≤ j.toNatClampNeg)) (hv : cl.slots[j.toNatClampNeg]? = some v) (hd : decode bytes pc = .ok (.aaload, 1)) (hp : pc + 1 = pc') (K : Go p e below s nc ns Q (T.setTop (mkF m pc' Ls (v :: St)))) : Go p e below s nc ns Q (T.setTop (mkF m pc Ls (.int j :: .ref a :: St))) := by
  subst hp
  exact Go.step (fun t q => X.aaload B.x (v := v) (by rw [eT]; exact A.1) (State.isArrayOf_alike B.z.alike A.2.1) rfl A.2.2 hj hv (g := mkF m pc Ls (.int j :: .ref a :: St)) rfl rfl (B.d hd) t q) K
theorem g_instNull (X : Stand p l e R s m args below meth c T locs cells slots) (B : Bdy p s m meth c Z a0 own nm bytes maxL rt tabs) {i : Nat} (hd : decode bytes pc = .ok (.instanceof i, 3)) (hp : pc + 3 = pc') (K : Go p e below s nc ns Q (T.setTop (mkF m pc' Ls (.int (0 : Int32) :: St)))) : Go p e below s nc ns Q (T.setTop (mkF m pc Ls (.null :: St))) := by
  subst hp
  have hd' := B.d hd
  have hx := B.x
  refine Go.step (fun t q => ?_) K
  jvm_step X.here [X.here.top, hx, hd', instanceof.sem]
  exact q
end HeapKit3
theorem own_pd0 : parseMethodDescriptor "(JJ)J" = some ⟨[.long, .long], some .long⟩ := by decide +kernel
theorem own_pd1 : parseMethodDescriptor "()V" = some ⟨[], none⟩ := by decide +kernel
theorem own_pd2 : parseMethodDescriptor "(I)V" = some ⟨[.int], none⟩ := by decide +kernel
theorem own_pd3 : parseMethodDescriptor "(J)V" = some ⟨[.long], none⟩ := by decide +kernel
theorem own_pd4 : parseMethodDescriptor "(Ljava/lang/Object;)Z" = some ⟨[(.object "java/lang/Object")], some .boolean⟩ := by decide +kernel
theorem own_pd5 : parseMethodDescriptor "(J)Ljava/lang/Long;" = some ⟨[.long], some (.object "java/lang/Long")⟩ := by decide +kernel
theorem own_pd6 : parseMethodDescriptor "(I)Ljava/lang/Integer;" = some ⟨[.int], some (.object "java/lang/Integer")⟩ := by decide +kernel
theorem own_pd7 : parseMethodDescriptor "(JJ)V" = some ⟨[.long, .long], none⟩ := by decide +kernel
theorem own_pd8 : parseMethodDescriptor "(JJ)[J" = some ⟨[.long, .long], some (.array .long)⟩ := by decide +kernel
theorem mx_d0 : decode jdk_29_method_66_code 0 = .ok (.lload_n 0, 1) := by decide +kernel
theorem mx_d1 : decode jdk_29_method_66_code 1 = .ok (.lload_n 2, 1) := by decide +kernel
theorem mx_d2 : decode jdk_29_method_66_code 2 = .ok (.lcmp, 1) := by decide +kernel
theorem mx_d3 : decode jdk_29_method_66_code 3 = .ok (.ifCond .lt 7, 3) := by decide +kernel
theorem mx_d6 : decode jdk_29_method_66_code 6 = .ok (.lload_n 0, 1) := by decide +kernel
theorem mx_d7 : decode jdk_29_method_66_code 7 = .ok (.goto 4, 3) := by decide +kernel
theorem mx_d10 : decode jdk_29_method_66_code 10 = .ok (.lload_n 2, 1) := by decide +kernel
theorem mx_d11 : decode jdk_29_method_66_code 11 = .ok (.lreturn, 1) := by decide +kernel
def mx_f11 (u0 : Int64) : Int64 := u0
theorem mx_b11 {p : Program} {l : Launch} {e : Env} {s : State} {m : MethodId} {args : Array Value} {below : List Frame} {meth : Method} {c : Code} {T : State} {Z : State} {a0 : Array Value} {h : Heap} {locs : List Loc} {cells slots : Nat} (X : Stand p l e (⟨0, 0, 0, 0⟩ : Room) s m args below meth c T locs cells slots) (hc : cells ≤ ((⟨0, 0, 0, 0⟩ : Room)).cells) (hs : slots ≤ ((⟨0, 0, 0, 0⟩ : Room)).slots) (B : Bdy p s m meth c Z a0 "java/lang/Math" "max" jdk_29_method_66_code 4 (some .long) tables_1) (eT : T.heap = h) (j0 : Int64) (j2 : Int64) (u0 : Int64)  :
    Go p e below s cells slots (PQ (some (.long (mx_f11 u0))) h locs) (T.setTop (mkF m 11 #[.val (.long j0), .second, .val (.long j2), .second] [(.long u0)])) := by
  exact g_retL X B rfl mx_d11 (Nat.le_refl _) (Nat.le_refl _) ⟨congrArg (fun z => some (Value.long z)) (Eq.symm (by rw [mx_f11])), eT, rfl⟩
def mx_f0 (j0 : Int64) (j2 : Int64) : Int64 := (if j0 < j2 then (mx_f11 j2) else (mx_f11 j0))
theorem mx_b0 {p : Program} {l : Launch} {e : Env} {s : State} {m : MethodId} {args : Array Value} {below : List Frame} {meth : Method} {c : Code} {T : State} {Z : State} {a0 : Array Value} {h : Heap} {locs : List Loc} {cells slots : Nat} (X : Stand p l e (⟨0, 0, 0, 0⟩ : Room) s m args below meth c T locs cells slots) (hc : cells ≤ ((⟨0, 0, 0, 0⟩ : Room)).cells) (hs : slots ≤ ((⟨0, 0, 0, 0⟩ : Room)).slots) (B : Bdy p s m meth c Z a0 "java/lang/Math" "max" jdk_29_method_66_code 4 (some .long) tables_1) (eT : T.heap = h) (j0 : Int64) (j2 : Int64)  :
    Go p e below s cells slots (PQ (some (.long (mx_f0 j0 j2))) h locs) (T.setTop (mkF m 0 #[.val (.long j0), .second, .val (.long j2), .second] [])) := by
  refine g_lloadN X B mx_d0 (pc' := 1) rfl (v := j0) rfl ?_
  refine g_lloadN X B mx_d1 (pc' := 2) rfl (v := j2) rfl ?_
  refine g_lcmp_lt X B mx_d2 mx_d3 (pcT := 10) (pcF := 6) (by decide) rfl rfl (fun c2_0 => ?_) (fun c2_0 => ?_)
  · refine g_lloadN X B mx_d10 (pc' := 11) rfl (v := j2) rfl ?_
    exact Go.cw (congrArg (fun z => some (Value.long z)) (Eq.symm (by rw [mx_f0, if_pos c2_0]))) (mx_b11 X hc hs B eT j0 j2 j2)
  · refine g_lloadN X B mx_d6 (pc' := 7) rfl (v := j0) rfl ?_
    refine g_goto X B mx_d7 (pc' := 11) (by decide) rfl ?_
    exact Go.cw (congrArg (fun z => some (Value.long z)) (Eq.symm (by rw [mx_f0, if_neg c2_0]))) (mx_b11 X hc hs B eT j0 j2 j0)
theorem own_pn_mx : plainFor (⟨"java/lang/Math", "max", "(JJ)J"⟩ : MethodName) = true := by decide +kernel
theorem own_ef_mx (m : MethodId) (j0 : Int64) (j2 : Int64) : entryFrame m #[(.long j0), (.long j2)] 4 = (mkF m 0 #[.val (.long j0), .second, .val (.long j2), .second] []) := by first | (simp [entryFrame, mkF, argsToLocals, Value.category]; done) | rfl
theorem mx_met (l : Launch) (Z : State) (a0 : Array Value) (hw : ∀ d ∈ tables_1, d.before a0 Z = true) (ws : List Jvm.Cond) (h : Heap) (j0 : Int64) (j2 : Int64)  :
    Met l Z (⟨"java/lang/Math", "max", "(JJ)J"⟩ : MethodName) jdk_29_method_66_code 4 (some .long) ws (⟨0, 0, 0, 0⟩ : Room) #[(.long j0), (.long j2)] h (PQ (some (.long (mx_f0 j0 j2))) h []) :=
  met_of own_pn_mx hw fun p e s m below meth c T X B eT => Go.top (own_ef_mx m j0 j2) (mx_b0 X (Nat.zero_le _) (Nat.zero_le _) B eT j0 j2)
theorem mi_d0 : decode jdk_29_method_70_code 0 = .ok (.lload_n 0, 1) := by decide +kernel
theorem mi_d1 : decode jdk_29_method_70_code 1 = .ok (.lload_n 2, 1) := by decide +kernel
theorem mi_d2 : decode jdk_29_method_70_code 2 = .ok (.lcmp, 1) := by decide +kernel
theorem mi_d3 : decode jdk_29_method_70_code 3 = .ok (.ifCond .gt 7, 3) := by decide +kernel
theorem mi_d6 : decode jdk_29_method_70_code 6 = .ok (.lload_n 0, 1) := by decide +kernel
theorem mi_d7 : decode jdk_29_method_70_code 7 = .ok (.goto 4, 3) := by decide +kernel
theorem mi_d10 : decode jdk_29_method_70_code 10 = .ok (.lload_n 2, 1) := by decide +kernel
theorem mi_d11 : decode jdk_29_method_70_code 11 = .ok (.lreturn, 1) := by decide +kernel
def mi_f11 (u0 : Int64) : Int64 := u0
theorem mi_b11 {p : Program} {l : Launch} {e : Env} {s : State} {m : MethodId} {args : Array Value} {below : List Frame} {meth : Method} {c : Code} {T : State} {Z : State} {a0 : Array Value} {h : Heap} {locs : List Loc} {cells slots : Nat} (X : Stand p l e (⟨0, 0, 0, 0⟩ : Room) s m args below meth c T locs cells slots) (hc : cells ≤ ((⟨0, 0, 0, 0⟩ : Room)).cells) (hs : slots ≤ ((⟨0, 0, 0, 0⟩ : Room)).slots) (B : Bdy p s m meth c Z a0 "java/lang/Math" "min" jdk_29_method_70_code 4 (some .long) tables_1) (eT : T.heap = h) (j0 : Int64) (j2 : Int64) (u0 : Int64)  :
    Go p e below s cells slots (PQ (some (.long (mi_f11 u0))) h locs) (T.setTop (mkF m 11 #[.val (.long j0), .second, .val (.long j2), .second] [(.long u0)])) := by
  exact g_retL X B rfl mi_d11 (Nat.le_refl _) (Nat.le_refl _) ⟨congrArg (fun z => some (Value.long z)) (Eq.symm (by rw [mi_f11])), eT, rfl⟩
def mi_f0 (j0 : Int64) (j2 : Int64) : Int64 := (if j2 < j0 then (mi_f11 j2) else (mi_f11 j0))
theorem mi_b0 {p : Program} {l : Launch} {e : Env} {s : State} {m : MethodId} {args : Array Value} {below : List Frame} {meth : Method} {c : Code} {T : State} {Z : State} {a0 : Array Value} {h : Heap} {locs : List Loc} {cells slots : Nat} (X : Stand p l e (⟨0, 0, 0, 0⟩ : Room) s m args below meth c T locs cells slots) (hc : cells ≤ ((⟨0, 0, 0, 0⟩ : Room)).cells) (hs : slots ≤ ((⟨0, 0, 0, 0⟩ : Room)).slots) (B : Bdy p s m meth c Z a0 "java/lang/Math" "min" jdk_29_method_70_code 4 (some .long) tables_1) (eT : T.heap = h) (j0 : Int64) (j2 : Int64)  :
    Go p e below s cells slots (PQ (some (.long (mi_f0 j0 j2))) h locs) (T.setTop (mkF m 0 #[.val (.long j0), .second, .val (.long j2), .second] [])) := by
  refine g_lloadN X B mi_d0 (pc' := 1) rfl (v := j0) rfl ?_
  refine g_lloadN X B mi_d1 (pc' := 2) rfl (v := j2) rfl ?_
  refine g_lcmp_gt X B mi_d2 mi_d3 (pcT := 10) (pcF := 6) (by decide) rfl rfl (fun c2_0 => ?_) (fun c2_0 => ?_)
  · refine g_lloadN X B mi_d10 (pc' := 11) rfl (v := j2) rfl ?_
    exact Go.cw (congrArg (fun z => some (Value.long z)) (Eq.symm (by rw [mi_f0, if_pos c2_0]))) (mi_b11 X hc hs B eT j0 j2 j2)
  · refine g_lloadN X B mi_d6 (pc' := 7) rfl (v := j0) rfl ?_
    refine g_goto X B mi_d7 (pc' := 11) (by decide) rfl ?_
    exact Go.cw (congrArg (fun z => some (Value.long z)) (Eq.symm (by rw [mi_f0, if_neg c2_0]))) (mi_b11 X hc hs B eT j0 j2 j0)
theorem own_pn_mi : plainFor (⟨"java/lang/Math", "min", "(JJ)J"⟩ : MethodName) = true := by decide +kernel
theorem own_ef_mi (m : MethodId) (j0 : Int64) (j2 : Int64) : entryFrame m #[(.long j0), (.long j2)] 4 = (mkF m 0 #[.val (.long j0), .second, .val (.long j2), .second] []) := by first | (simp [entryFrame, mkF, argsToLocals, Value.category]; done) | rfl
theorem mi_met (l : Launch) (Z : State) (a0 : Array Value) (hw : ∀ d ∈ tables_1, d.before a0 Z = true) (ws : List Jvm.Cond) (h : Heap) (j0 : Int64) (j2 : Int64)  :
    Met l Z (⟨"java/lang/Math", "min", "(JJ)J"⟩ : MethodName) jdk_29_method_70_code 4 (some .long) ws (⟨0, 0, 0, 0⟩ : Room) #[(.long j0), (.long j2)] h (PQ (some (.long (mi_f0 j0 j2))) h []) :=
  met_of own_pn_mi hw fun p e s m below meth c T X B eT => Go.top (own_ef_mi m j0 j2) (mi_b0 X (Nat.zero_le _) (Nat.zero_le _) B eT j0 j2)
theorem rec_d0 : decode jdk_30_method_1_code 0 = .ok (.aload_n 0, 1) := by decide +kernel
theorem rec_d1 : decode jdk_30_method_1_code 1 = .ok (.invokespecial 1, 3) := by decide +kernel
theorem rec_d4 : decode jdk_30_method_1_code 4 = .ok (.return_, 1) := by decide +kernel
theorem own_pn_rec : plainFor (⟨"java/lang/Record", "<init>", "()V"⟩ : MethodName) = true := plainFor_of_name (by first | (simp [plainName, overriddenIn]; done) | decide +kernel)
theorem own_ef_rec (m : MethodId) (o0 : Addr) : entryFrame m #[(.ref o0)] 1 = (mkF m 0 #[.val (.ref o0)] []) := by first | (simp [entryFrame, mkF, argsToLocals, Value.category]; done) | rfl
set_option maxRecDepth 65536 in
set_option maxHeartbeats 40000000 in
theorem rec_go {p : Program} {l : Launch} {e : Env} {s : State} {m : MethodId} {args : Array Value} {below : List Frame} {meth : Method} {c : Code} {T : State} {Z : State} {a0 : Array Value} {h : Heap} (X : Stand p l e (⟨1, 0, 0, 12⟩ : Room) s m args below meth c T [] 0 0) (B : Bdy p s m meth c Z a0 "java/lang/Record" "<init>" jdk_30_method_1_code 1 none tables_1) (eT : T.heap = h) (o0 : Addr)   :
    Go p e below s 0 0 (PQ none h []) (T.setTop (mkF m 0 #[.val (.ref o0)] [])) := by
  refine g_aloadN X B rec_d0 (pc' := 1) rfl (v := (.ref o0)) rfl rfl ?_
  refine g_initO X B 0 (B.w 23 rfl) (B.w 24 rfl) (B.w 25 rfl) eT rfl rec_d1 (pc' := 4) rfl (by decide) (Nat.le_of_eq rfl) (by decide) (fun T1 X1 e1 => ?_)
  exact g_ret0 X1 B rfl rec_d4 (by decide) (by decide) ⟨rfl, e1, rfl⟩
theorem rec_met (l : Launch) (Z : State) (a0 : Array Value) (hw : ∀ d ∈ tables_1, d.before a0 Z = true) (ws : List Jvm.Cond) (h : Heap) (o0 : Addr)   :
    Met l Z (⟨"java/lang/Record", "<init>", "()V"⟩ : MethodName) jdk_30_method_1_code 1 none ws (⟨1, 0, 0, 12⟩ : Room) #[(.ref o0)] h (PQ none h []) :=
  met_of own_pn_rec hw fun p e s m below meth c T X B eT => Go.top (own_ef_rec m o0) (rec_go X B eT o0  )
theorem num_d0 : decode jdk_18_method_1_code 0 = .ok (.aload_n 0, 1) := by decide +kernel
theorem num_d1 : decode jdk_18_method_1_code 1 = .ok (.invokespecial 1, 3) := by decide +kernel
theorem num_d4 : decode jdk_18_method_1_code 4 = .ok (.return_, 1) := by decide +kernel
theorem own_pn_num : plainFor (⟨"java/lang/Number", "<init>", "()V"⟩ : MethodName) = true := plainFor_of_name (by first | (simp [plainName, overriddenIn]; done) | decide +kernel)
theorem own_ef_num (m : MethodId) (o0 : Addr) : entryFrame m #[(.ref o0)] 1 = (mkF m 0 #[.val (.ref o0)] []) := by first | (simp [entryFrame, mkF, argsToLocals, Value.category]; done) | rfl
set_option maxRecDepth 65536 in
set_option maxHeartbeats 40000000 in
theorem num_go {p : Program} {l : Launch} {e : Env} {s : State} {m : MethodId} {args : Array Value} {below : List Frame} {meth : Method} {c : Code} {T : State} {Z : State} {a0 : Array Value} {h : Heap} (X : Stand p l e (⟨1, 0, 0, 12⟩ : Room) s m args below meth c T [] 0 0) (B : Bdy p s m meth c Z a0 "java/lang/Number" "<init>" jdk_18_method_1_code 1 none tables_1) (eT : T.heap = h) (o0 : Addr)   :
    Go p e below s 0 0 (PQ none h []) (T.setTop (mkF m 0 #[.val (.ref o0)] [])) := by
  refine g_aloadN X B num_d0 (pc' := 1) rfl (v := (.ref o0)) rfl rfl ?_
  refine g_initO X B 0 (B.w 64 rfl) (B.w 24 rfl) (B.w 25 rfl) eT rfl num_d1 (pc' := 4) rfl (by decide) (Nat.le_of_eq rfl) (by decide) (fun T1 X1 e1 => ?_)
  exact g_ret0 X1 B rfl num_d4 (by decide) (by decide) ⟨rfl, e1, rfl⟩
theorem num_met (l : Launch) (Z : State) (a0 : Array Value) (hw : ∀ d ∈ tables_1, d.before a0 Z = true) (ws : List Jvm.Cond) (h : Heap) (o0 : Addr)   :
    Met l Z (⟨"java/lang/Number", "<init>", "()V"⟩ : MethodName) jdk_18_method_1_code 1 none ws (⟨1, 0, 0, 12⟩ : Room) #[(.ref o0)] h (PQ none h []) :=
  met_of own_pn_num hw fun p e s m below meth c T X B eT => Go.top (own_ef_num m o0) (num_go X B eT o0  )
theorem own_l1 : (1 : Int64).toInt = 1 := by decide
theorem own_l9223372036854775807 : (9223372036854775807 : Int64).toInt = 9223372036854775807 := by decide
theorem own_mm (x y : Int64) : (mi_f0 x y).toInt ≤ (mx_f0 x y).toInt := by
  simp only [mi_f0, mi_f11, mx_f0, mx_f11, Int64.lt_iff_toInt_lt]
  split <;> split <;> omega
theorem own_n1 {a b : Int64} (h : a.toInt ≤ b.toInt) (q : ¬ a = b) : a < b := by
  rw [Int64.lt_iff_toInt_lt]
  have : ¬ a.toInt = b.toInt := fun z => q (Int64.toInt_inj.mp z)
  omega
theorem own_n2 {b : Int64} (q : b = (9223372036854775807 : Int64)) : b - (1 : Int64) < b := by subst q; decide
theorem own_n3 {a b : Int64} (h : a = b) (q : ¬ b = (9223372036854775807 : Int64)) : a < a + (1 : Int64) := by
  subst h
  rw [Int64.lt_iff_toInt_lt]
  have : ¬ a.toInt = 9223372036854775807 := fun z => q (Int64.toInt_inj.mp (by rw [z, own_l9223372036854775807]))
  have e := c_ladd a 1; have k := own_l1; have r1 := (a + 1).toInt_lt; have r2 := (a + 1).le_toInt; have r3 := a.toInt_lt; have r4 := a.le_toInt
  omega
theorem no_d0 : decode method_2_code 0 = .ok (.lload_n 0, 1) := by decide +kernel
theorem no_d1 : decode method_2_code 1 = .ok (.lload_n 2, 1) := by decide +kernel
theorem no_d2 : decode method_2_code 2 = .ok (.invokestatic 7, 3) := by decide +kernel
theorem no_d5 : decode method_2_code 5 = .ok (.lstore 4, 2) := by decide +kernel
theorem no_d7 : decode method_2_code 7 = .ok (.lload_n 0, 1) := by decide +kernel
theorem no_d8 : decode method_2_code 8 = .ok (.lload_n 2, 1) := by decide +kernel
theorem no_d9 : decode method_2_code 9 = .ok (.invokestatic 13, 3) := by decide +kernel
theorem no_d12 : decode method_2_code 12 = .ok (.lstore 6, 2) := by decide +kernel
theorem no_d14 : decode method_2_code 14 = .ok (.lload 4, 2) := by decide +kernel
theorem no_d16 : decode method_2_code 16 = .ok (.lload 6, 2) := by decide +kernel
theorem no_d18 : decode method_2_code 18 = .ok (.lcmp, 1) := by decide +kernel
theorem no_d19 : decode method_2_code 19 = .ok (.ifCond .ne 27, 3) := by decide +kernel
theorem no_d22 : decode method_2_code 22 = .ok (.lload 6, 2) := by decide +kernel
theorem no_d24 : decode method_2_code 24 = .ok (.ldc2_w 18, 3) := by decide +kernel
theorem no_d27 : decode method_2_code 27 = .ok (.lcmp, 1) := by decide +kernel
theorem no_d28 : decode method_2_code 28 = .ok (.ifCond .ne 12, 3) := by decide +kernel
theorem no_d31 : decode method_2_code 31 = .ok (.lload 6, 2) := by decide +kernel
theorem no_d33 : decode method_2_code 33 = .ok (.lconst 1, 1) := by decide +kernel
theorem no_d34 : decode method_2_code 34 = .ok (.lsub, 1) := by decide +kernel
theorem no_d35 : decode method_2_code 35 = .ok (.lstore 4, 2) := by decide +kernel
theorem no_d37 : decode method_2_code 37 = .ok (.goto 9, 3) := by decide +kernel
theorem no_d40 : decode method_2_code 40 = .ok (.lload 4, 2) := by decide +kernel
theorem no_d42 : decode method_2_code 42 = .ok (.lconst 1, 1) := by decide +kernel
theorem no_d43 : decode method_2_code 43 = .ok (.ladd, 1) := by decide +kernel
theorem no_d44 : decode method_2_code 44 = .ok (.lstore 6, 2) := by decide +kernel
theorem no_d46 : decode method_2_code 46 = .ok (.iconst 2, 1) := by decide +kernel
theorem no_d47 : decode method_2_code 47 = .ok (.newarray .long, 2) := by decide +kernel
theorem no_d49 : decode method_2_code 49 = .ok (.astore 8, 2) := by decide +kernel
theorem no_d51 : decode method_2_code 51 = .ok (.aload 8, 2) := by decide +kernel
theorem no_d53 : decode method_2_code 53 = .ok (.iconst 0, 1) := by decide +kernel
theorem no_d54 : decode method_2_code 54 = .ok (.lload 4, 2) := by decide +kernel
theorem no_d56 : decode method_2_code 56 = .ok (.lastore, 1) := by decide +kernel
theorem no_d57 : decode method_2_code 57 = .ok (.aload 8, 2) := by decide +kernel
theorem no_d59 : decode method_2_code 59 = .ok (.iconst 1, 1) := by decide +kernel
theorem no_d60 : decode method_2_code 60 = .ok (.lload 6, 2) := by decide +kernel
theorem no_d62 : decode method_2_code 62 = .ok (.lastore, 1) := by decide +kernel
theorem no_d63 : decode method_2_code 63 = .ok (.aload 8, 2) := by decide +kernel
theorem no_d65 : decode method_2_code 65 = .ok (.areturn, 1) := by decide +kernel
theorem own_pn_no : plainFor (⟨"com/example/razione/razione/rating/PeriodEqualsPinLaw", "norm", "(JJ)[J"⟩ : MethodName) = true := plainFor_of_name (by first | (simp [plainName, overriddenIn]; done) | decide +kernel)
theorem own_ef_no (m : MethodId) (j0 : Int64) (j2 : Int64) : entryFrame m #[(.long j0), (.long j2)] 9 = (mkF m 0 #[.val (.long j0), .second, .val (.long j2), .second, .unset, .unset, .unset, .unset, .unset] []) := by first | (simp [entryFrame, mkF, argsToLocals, Value.category]; done) | rfl
set_option maxRecDepth 65536 in
set_option maxHeartbeats 40000000 in
theorem no_go {p : Program} {l : Launch} {e : Env} {s : State} {m : MethodId} {args : Array Value} {below : List Frame} {meth : Method} {c : Code} {T : State} {Z : State} {a0 : Array Value} {h : Heap} (X : Stand p l e (⟨1, 1, 2, 32⟩ : Room) s m args below meth c T [] 0 0) (B : Bdy p s m meth c Z a0 "com/example/razione/razione/rating/PeriodEqualsPinLaw" "norm" method_2_code 9 (some (.array .long)) tables_1) (eT : T.heap = h) (j0 : Int64) (j2 : Int64) (n0 : Nat) (Zs : n0 ≤ h.size) :
    Go p e below s 1 2 (fun v h2 L => ∃ a x y, v = some (.ref a) ∧ Fr n0 L ∧ Keep h h2 [] ∧ h.size ≤ a ∧ Ax Z h2 a .long 2 (fun j => if j = 1 then .long y else (fun j => if j = 0 then .long x else (fun _ => .long (0 : Int64)) j) j) ∧ x < y) (T.setTop (mkF m 0 #[.val (.long j0), .second, .val (.long j2), .second, .unset, .unset, .unset, .unset, .unset] [])) := by
  have N := Fr.nil n0
  have K := Keep.refl h []
  refine g_lloadN X B no_d0 (pc' := 1) rfl (v := j0) rfl ?_
  refine g_lloadN X B no_d1 (pc' := 2) rfl (v := j2) rfl ?_
  refine g_callP X B eT 0 (y := (⟨"java/lang/Math", "min", "(JJ)J"⟩ : MethodName)) (argsL := [(.long j0), (.long j2)]) (rest := []) (w := (.long (mi_f0 j0 j2))) (B.w 4 rfl) (B.w 5 rfl) (B.w 6 rfl) (B.w 7 rfl) (by decide) (mi_met l Z a0 B.2.2.1 [] h j0 j2) (by decide) (by decide) (by decide) (by decide) rfl (lenOf own_pd0 rfl) rfl (Nat.le_of_eq rfl) no_d2 (pc' := 5) rfl (fun T1 X1 e1 => ?_)
  refine g_lstore X1 B no_d5 (pc' := 7) rfl (Ls' := #[.val (.long j0), .second, .val (.long j2), .second, .val (.long (mi_f0 j0 j2)), .second, .unset, .unset, .unset]) rfl ?_
  refine g_lloadN X1 B no_d7 (pc' := 8) rfl (v := j0) rfl ?_
  refine g_lloadN X1 B no_d8 (pc' := 9) rfl (v := j2) rfl ?_
  refine g_callP X1 B e1 0 (y := (⟨"java/lang/Math", "max", "(JJ)J"⟩ : MethodName)) (argsL := [(.long j0), (.long j2)]) (rest := []) (w := (.long (mx_f0 j0 j2))) (B.w 8 rfl) (B.w 9 rfl) (B.w 6 rfl) (B.w 10 rfl) (by decide) (mx_met l Z a0 B.2.2.1 [] h j0 j2) (by decide) (by decide) (by decide) (by decide) rfl (lenOf own_pd0 rfl) rfl (Nat.le_of_eq rfl) no_d9 (pc' := 12) rfl (fun T2 X2 e2 => ?_)
  refine g_lstore X2 B no_d12 (pc' := 14) rfl (Ls' := #[.val (.long j0), .second, .val (.long j2), .second, .val (.long (mi_f0 j0 j2)), .second, .val (.long (mx_f0 j0 j2)), .second, .unset]) rfl ?_
  refine g_lload X2 B no_d14 (pc' := 16) rfl (v := (mi_f0 j0 j2)) rfl ?_
  refine g_lload X2 B no_d16 (pc' := 18) rfl (v := (mx_f0 j0 j2)) rfl ?_
  refine g_lcmp_ne X2 B no_d18 no_d19 (pcT := 46) (pcF := 22) (by decide) rfl rfl (fun c18_0 => ?_) (fun c18_0 => ?_)
  · refine g_lload X2 B no_d22 (pc' := 24) rfl (v := (mx_f0 j0 j2)) rfl ?_
    refine g_ldc2 X2 B (B.w 78 rfl) no_d24 (pc' := 27) rfl ?_
    refine g_lcmp_ne X2 B no_d27 no_d28 (pcT := 40) (pcF := 31) (by decide) rfl rfl (fun c27_1 => ?_) (fun c27_1 => ?_)
    · refine g_lload X2 B no_d31 (pc' := 33) rfl (v := (mx_f0 j0 j2)) rfl ?_
      refine g_lconst X2 B no_d33 (pc' := 34) rfl (v := (1 : Int64)) (by decide) ?_
      refine g_lsub X2 B no_d34 (pc' := 35) rfl ?_
      refine g_lstore X2 B no_d35 (pc' := 37) rfl (Ls' := #[.val (.long j0), .second, .val (.long j2), .second, .val (.long ((mx_f0 j0 j2) - (1 : Int64))), .second, .val (.long (mx_f0 j0 j2)), .second, .unset]) rfl ?_
      refine g_goto X2 B no_d37 (pc' := 46) (by decide) rfl ?_
      have hlt : ((mx_f0 j0 j2) - (1 : Int64)) < (mx_f0 j0 j2) := own_n2 c27_1
      refine g_iconst X2 B no_d46 (pc' := 47) rfl (v := (2 : Int32)) (by decide) ?_
      refine g_newA X2 B (aty := .long) 2 2 (B.w 11 rfl) e2 (by decide) (by decide) (by decide) no_d47 (pc' := 49) rfl (by decide) (by decide) (fun T3 h3 ob3 q3 X3 e3 E3 A3 => ?_)
      have G_ob3 : n0 ≤ ob3 := by rw [q3]; exact Zs
      have H_ob3 : h.size ≤ ob3 := by rw [q3]; exact K.1
      have Zs_3 := Nat.le_trans Zs E3.1
      have K_3 := K.ext E3
      have A_ob3 : Ax Z h3 ob3 .long 2 (fun _ => (.long (0 : Int64))) := A3
      refine g_astore X3 B no_d49 (pc' := 51) rfl rfl (Ls' := #[.val (.long j0), .second, .val (.long j2), .second, .val (.long ((mx_f0 j0 j2) - (1 : Int64))), .second, .val (.long (mx_f0 j0 j2)), .second, .val (.ref ob3)]) rfl ?_
      refine g_aload X3 B no_d51 (pc' := 53) rfl (v := (.ref ob3)) rfl rfl ?_
      refine g_iconst X3 B no_d53 (pc' := 54) rfl (v := (0 : Int32)) (by decide) ?_
      refine g_lload X3 B no_d54 (pc' := 56) rfl (v := ((mx_f0 j0 j2) - (1 : Int64))) rfl ?_
      refine g_lastore X3 B 0 e3 A_ob3 (by decide) (by decide) no_d56 (pc' := 57) rfl (fun T4 h4 X4 e4 W4 => ?_)
      have N4 := Fr.snoc X4 N G_ob3
      have A_ob3_4 := A_ob3.set W4
      have Zs_4 := Nat.le_trans Zs_3 (Keep.of_wr W4).1
      have K_4 := K_3.wr W4 (Or.inr H_ob3)
      refine g_aload X4 B no_d57 (pc' := 59) rfl (v := (.ref ob3)) rfl rfl ?_
      refine g_iconst X4 B no_d59 (pc' := 60) rfl (v := (1 : Int32)) (by decide) ?_
      refine g_lload X4 B no_d60 (pc' := 62) rfl (v := (mx_f0 j0 j2)) rfl ?_
      refine g_lastore X4 B 1 e4 A_ob3_4 (by decide) (by decide) no_d62 (pc' := 63) rfl (fun T5 h5 X5 e5 W5 => ?_)
      have N5 := Fr.snoc X5 N4 G_ob3
      have A_ob3_5 := A_ob3_4.set W5
      have Zs_5 := Nat.le_trans Zs_4 (Keep.of_wr W5).1
      have K_5 := K_4.wr W5 (Or.inr H_ob3)
      refine g_aload X5 B no_d63 (pc' := 65) rfl (v := (.ref ob3)) rfl rfl ?_
      exact g_retA X5 B rfl rfl rfl rfl no_d65 (by decide) (by decide) (by rw [e5]; exact ⟨ob3, ((mx_f0 j0 j2) - (1 : Int64)), (mx_f0 j0 j2), rfl, N5, K_5, H_ob3, A_ob3_5, hlt⟩)
    · refine g_lload X2 B no_d40 (pc' := 42) rfl (v := (mi_f0 j0 j2)) rfl ?_
      refine g_lconst X2 B no_d42 (pc' := 43) rfl (v := (1 : Int64)) (by decide) ?_
      refine g_ladd X2 B no_d43 (pc' := 44) rfl ?_
      refine g_lstore X2 B no_d44 (pc' := 46) rfl (Ls' := #[.val (.long j0), .second, .val (.long j2), .second, .val (.long (mi_f0 j0 j2)), .second, .val (.long ((mi_f0 j0 j2) + (1 : Int64))), .second, .unset]) rfl ?_
      have hlt : (mi_f0 j0 j2) < ((mi_f0 j0 j2) + (1 : Int64)) := own_n3 c18_0 c27_1
      refine g_iconst X2 B no_d46 (pc' := 47) rfl (v := (2 : Int32)) (by decide) ?_
      refine g_newA X2 B (aty := .long) 2 2 (B.w 11 rfl) e2 (by decide) (by decide) (by decide) no_d47 (pc' := 49) rfl (by decide) (by decide) (fun T6 h6 ob6 q6 X6 e6 E6 A6 => ?_)
      have G_ob6 : n0 ≤ ob6 := by rw [q6]; exact Zs
      have H_ob6 : h.size ≤ ob6 := by rw [q6]; exact K.1
      have Zs_6 := Nat.le_trans Zs E6.1
      have K_6 := K.ext E6
      have A_ob6 : Ax Z h6 ob6 .long 2 (fun _ => (.long (0 : Int64))) := A6
      refine g_astore X6 B no_d49 (pc' := 51) rfl rfl (Ls' := #[.val (.long j0), .second, .val (.long j2), .second, .val (.long (mi_f0 j0 j2)), .second, .val (.long ((mi_f0 j0 j2) + (1 : Int64))), .second, .val (.ref ob6)]) rfl ?_
      refine g_aload X6 B no_d51 (pc' := 53) rfl (v := (.ref ob6)) rfl rfl ?_
      refine g_iconst X6 B no_d53 (pc' := 54) rfl (v := (0 : Int32)) (by decide) ?_
      refine g_lload X6 B no_d54 (pc' := 56) rfl (v := (mi_f0 j0 j2)) rfl ?_
      refine g_lastore X6 B 0 e6 A_ob6 (by decide) (by decide) no_d56 (pc' := 57) rfl (fun T7 h7 X7 e7 W7 => ?_)
      have N7 := Fr.snoc X7 N G_ob6
      have A_ob6_7 := A_ob6.set W7
      have Zs_7 := Nat.le_trans Zs_6 (Keep.of_wr W7).1
      have K_7 := K_6.wr W7 (Or.inr H_ob6)
      refine g_aload X7 B no_d57 (pc' := 59) rfl (v := (.ref ob6)) rfl rfl ?_
      refine g_iconst X7 B no_d59 (pc' := 60) rfl (v := (1 : Int32)) (by decide) ?_
      refine g_lload X7 B no_d60 (pc' := 62) rfl (v := ((mi_f0 j0 j2) + (1 : Int64))) rfl ?_
      refine g_lastore X7 B 1 e7 A_ob6_7 (by decide) (by decide) no_d62 (pc' := 63) rfl (fun T8 h8 X8 e8 W8 => ?_)
      have N8 := Fr.snoc X8 N7 G_ob6
      have A_ob6_8 := A_ob6_7.set W8
      have Zs_8 := Nat.le_trans Zs_7 (Keep.of_wr W8).1
      have K_8 := K_7.wr W8 (Or.inr H_ob6)
      refine g_aload X8 B no_d63 (pc' := 65) rfl (v := (.ref ob6)) rfl rfl ?_
      exact g_retA X8 B rfl rfl rfl rfl no_d65 (by decide) (by decide) (by rw [e8]; exact ⟨ob6, (mi_f0 j0 j2), ((mi_f0 j0 j2) + (1 : Int64)), rfl, N8, K_8, H_ob6, A_ob6_8, hlt⟩)
  · have hlt : (mi_f0 j0 j2) < (mx_f0 j0 j2) := own_n1 (own_mm j0 j2) c18_0
    refine g_iconst X2 B no_d46 (pc' := 47) rfl (v := (2 : Int32)) (by decide) ?_
    refine g_newA X2 B (aty := .long) 2 2 (B.w 11 rfl) e2 (by decide) (by decide) (by decide) no_d47 (pc' := 49) rfl (by decide) (by decide) (fun T9 h9 ob9 q9 X9 e9 E9 A9 => ?_)
    have G_ob9 : n0 ≤ ob9 := by rw [q9]; exact Zs
    have H_ob9 : h.size ≤ ob9 := by rw [q9]; exact K.1
    have Zs_9 := Nat.le_trans Zs E9.1
    have K_9 := K.ext E9
    have A_ob9 : Ax Z h9 ob9 .long 2 (fun _ => (.long (0 : Int64))) := A9
    refine g_astore X9 B no_d49 (pc' := 51) rfl rfl (Ls' := #[.val (.long j0), .second, .val (.long j2), .second, .val (.long (mi_f0 j0 j2)), .second, .val (.long (mx_f0 j0 j2)), .second, .val (.ref ob9)]) rfl ?_
    refine g_aload X9 B no_d51 (pc' := 53) rfl (v := (.ref ob9)) rfl rfl ?_
    refine g_iconst X9 B no_d53 (pc' := 54) rfl (v := (0 : Int32)) (by decide) ?_
    refine g_lload X9 B no_d54 (pc' := 56) rfl (v := (mi_f0 j0 j2)) rfl ?_
    refine g_lastore X9 B 0 e9 A_ob9 (by decide) (by decide) no_d56 (pc' := 57) rfl (fun T10 h10 X10 e10 W10 => ?_)
    have N10 := Fr.snoc X10 N G_ob9
    have A_ob9_10 := A_ob9.set W10
    have Zs_10 := Nat.le_trans Zs_9 (Keep.of_wr W10).1
    have K_10 := K_9.wr W10 (Or.inr H_ob9)
    refine g_aload X10 B no_d57 (pc' := 59) rfl (v := (.ref ob9)) rfl rfl ?_
    refine g_iconst X10 B no_d59 (pc' := 60) rfl (v := (1 : Int32)) (by decide) ?_
    refine g_lload X10 B no_d60 (pc' := 62) rfl (v := (mx_f0 j0 j2)) rfl ?_
    refine g_lastore X10 B 1 e10 A_ob9_10 (by decide) (by decide) no_d62 (pc' := 63) rfl (fun T11 h11 X11 e11 W11 => ?_)
    have N11 := Fr.snoc X11 N10 G_ob9
    have A_ob9_11 := A_ob9_10.set W11
    have Zs_11 := Nat.le_trans Zs_10 (Keep.of_wr W11).1
    have K_11 := K_10.wr W11 (Or.inr H_ob9)
    refine g_aload X11 B no_d63 (pc' := 65) rfl (v := (.ref ob9)) rfl rfl ?_
    exact g_retA X11 B rfl rfl rfl rfl no_d65 (by decide) (by decide) (by rw [e11]; exact ⟨ob9, (mi_f0 j0 j2), (mx_f0 j0 j2), rfl, N11, K_11, H_ob9, A_ob9_11, hlt⟩)
theorem no_met (l : Launch) (Z : State) (a0 : Array Value) (hw : ∀ d ∈ tables_1, d.before a0 Z = true) (ws : List Jvm.Cond) (h : Heap) (j0 : Int64) (j2 : Int64) (n0 : Nat) (Zs : n0 ≤ h.size) :
    Met l Z (⟨"com/example/razione/razione/rating/PeriodEqualsPinLaw", "norm", "(JJ)[J"⟩ : MethodName) method_2_code 9 (some (.array .long)) ws (⟨1, 1, 2, 32⟩ : Room) #[(.long j0), (.long j2)] h (fun v h2 L => ∃ a x y, v = some (.ref a) ∧ Fr n0 L ∧ Keep h h2 [] ∧ h.size ≤ a ∧ Ax Z h2 a .long 2 (fun j => if j = 1 then .long y else (fun j => if j = 0 then .long x else (fun _ => .long (0 : Int64)) j) j) ∧ x < y) :=
  met_of own_pn_no hw fun p e s m below meth c T X B eT => Go.top (own_ef_no m j0 j2) (no_go X B eT j0 j2 n0 Zs)
theorem ini_d0 : decode prog_55_method_1_code 0 = .ok (.aload_n 0, 1) := by decide +kernel
theorem ini_d1 : decode prog_55_method_1_code 1 = .ok (.invokespecial 1, 3) := by decide +kernel
theorem ini_d4 : decode prog_55_method_1_code 4 = .ok (.lload_n 3, 1) := by decide +kernel
theorem ini_d5 : decode prog_55_method_1_code 5 = .ok (.lload_n 1, 1) := by decide +kernel
theorem ini_d6 : decode prog_55_method_1_code 6 = .ok (.lcmp, 1) := by decide +kernel
theorem ini_d7 : decode prog_55_method_1_code 7 = .ok (.ifCond .gt 17, 3) := by decide +kernel
theorem ini_d24 : decode prog_55_method_1_code 24 = .ok (.aload_n 0, 1) := by decide +kernel
theorem ini_d25 : decode prog_55_method_1_code 25 = .ok (.lload_n 1, 1) := by decide +kernel
theorem ini_d26 : decode prog_55_method_1_code 26 = .ok (.putfield 16, 3) := by decide +kernel
theorem ini_d29 : decode prog_55_method_1_code 29 = .ok (.aload_n 0, 1) := by decide +kernel
theorem ini_d30 : decode prog_55_method_1_code 30 = .ok (.lload_n 3, 1) := by decide +kernel
theorem ini_d31 : decode prog_55_method_1_code 31 = .ok (.putfield 22, 3) := by decide +kernel
theorem ini_d34 : decode prog_55_method_1_code 34 = .ok (.return_, 1) := by decide +kernel
theorem own_pn_ini : plainFor (⟨"com/example/razione/razione/rating/Period", "<init>", "(JJ)V"⟩ : MethodName) = true := plainFor_of_name (by first | (simp [plainName, overriddenIn]; done) | decide +kernel)
theorem own_ef_ini (m : MethodId) (o0 : Addr) (j1 : Int64) (j3 : Int64) : entryFrame m #[(.ref o0), (.long j1), (.long j3)] 5 = (mkF m 0 #[.val (.ref o0), .val (.long j1), .second, .val (.long j3), .second] []) := by first | (simp [entryFrame, mkF, argsToLocals, Value.category]; done) | rfl
set_option maxRecDepth 65536 in
set_option maxHeartbeats 40000000 in
theorem ini_go {p : Program} {l : Launch} {e : Env} {s : State} {m : MethodId} {args : Array Value} {below : List Frame} {meth : Method} {c : Code} {T : State} {Z : State} {a0 : Array Value} {h : Heap} (X : Stand p l e (⟨2, 0, 0, 32⟩ : Room) s m args below meth c T [] 0 0) (B : Bdy p s m meth c Z a0 "com/example/razione/razione/rating/Period" "<init>" prog_55_method_1_code 5 none tables_1) (eT : T.heap = h) (o0 : Addr) (j1 : Int64) (j3 : Int64) (n0 : Nat) (Zs : n0 ≤ h.size) (hE : Exa Z h o0 "com/example/razione/razione/rating/Period") (f_start : Fld Z h o0 "com/example/razione/razione/rating/Period" "start" "J" (.long (0 : Int64))) (f_end : Fld Z h o0 "com/example/razione/razione/rating/Period" "end" "J" (.long (0 : Int64))) (g0 : n0 ≤ o0) (hlt : j1 < j3) :
    Go p e below s 0 0 (fun v h2 L => v = none ∧ Fr n0 L ∧ Keep h h2 [o0] ∧ Fld Z h2 o0 "com/example/razione/razione/rating/Period" "start" "J" (.long j1) ∧ Fld Z h2 o0 "com/example/razione/razione/rating/Period" "end" "J" (.long j3)) (T.setTop (mkF m 0 #[.val (.ref o0), .val (.long j1), .second, .val (.long j3), .second] [])) := by
  have N := Fr.nil n0
  have K := Keep.refl h [o0]
  refine g_aloadN X B ini_d0 (pc' := 1) rfl (v := (.ref o0)) rfl rfl ?_
  refine g_special X B eT 0 (y := (⟨"java/lang/Record", "<init>", "()V"⟩ : MethodName)) (argsL := []) (rest := []) (a := o0) rfl (B.w 18 rfl) (B.w 19 rfl) (B.w 21 rfl) (B.w 22 rfl) (by decide) (rec_met l Z a0 B.2.2.1 [] h o0) (by decide) (by decide) (by decide) (by decide) rfl (lenOf own_pd1 rfl) rfl (Nat.le_of_eq rfl) ini_d1 (pc' := 4) rfl (fun T1 v1 L1 X1 Q1 => ?_)
  obtain ⟨rfl, hh1, rfl⟩ := Q1
  rw [List.append_nil] at X1
  show Go p e below s _ _ _ (T1.setTop (mkF m 4 #[.val (.ref o0), .val (.long j1), .second, .val (.long j3), .second] []))
  refine g_lloadN X1 B ini_d4 (pc' := 5) rfl (v := j3) rfl ?_
  refine g_lloadN X1 B ini_d5 (pc' := 6) rfl (v := j1) rfl ?_
  refine g_lcmp_gt X1 B ini_d6 ini_d7 (pcT := 24) (pcF := 10) (by decide) rfl rfl (fun c6_0 => ?_) (fun c6_0 => ?_)
  · refine g_aloadN X1 B ini_d24 (pc' := 25) rfl (v := (.ref o0)) rfl rfl ?_
    refine g_lloadN X1 B ini_d25 (pc' := 26) rfl (v := j1) rfl ?_
    refine g_putF X1 B (B.w 26 rfl) Via.refl hh1 f_start hE (Or.inr ⟨B.w 27 rfl, rfl, rfl⟩) (B.w 13 rfl) (ty := .long) (by decide) rfl rfl ini_d26 (pc' := 29) rfl (fun T2 h2 X2 e2 W2 => ?_)
    have N2 := Fr.snoc X2 N g0
    have E_o0_2 := hE.wr W2
    have F_o0_start_2 := f_start.same W2
    have F_o0_end_2 := f_end.other W2 (Or.inr (slot_ne (Or.inr (B.w 29 rfl)) (Or.inr (B.w 27 rfl)) (by decide) (t := .long) (t' := .long) (by decide) (by decide)))
    have Zs_2 := Nat.le_trans Zs (Keep.of_wr W2).1
    have K_2 := K.wr W2 (Or.inl (List.mem_of_getElem? (i := 0) rfl))
    refine g_aloadN X2 B ini_d29 (pc' := 30) rfl (v := (.ref o0)) rfl rfl ?_
    refine g_lloadN X2 B ini_d30 (pc' := 31) rfl (v := j3) rfl ?_
    refine g_putF X2 B (B.w 28 rfl) Via.refl e2 F_o0_end_2 E_o0_2 (Or.inr ⟨B.w 29 rfl, rfl, rfl⟩) (B.w 13 rfl) (ty := .long) (by decide) rfl rfl ini_d31 (pc' := 34) rfl (fun T3 h3 X3 e3 W3 => ?_)
    have N3 := Fr.snoc X3 N2 g0
    have E_o0_3 := E_o0_2.wr W3
    have F_o0_start_3 := F_o0_start_2.other W3 (Or.inr (slot_ne (Or.inr (B.w 27 rfl)) (Or.inr (B.w 29 rfl)) (by decide) (t := .long) (t' := .long) (by decide) (by decide)))
    have F_o0_end_3 := F_o0_end_2.same W3
    have Zs_3 := Nat.le_trans Zs_2 (Keep.of_wr W3).1
    have K_3 := K_2.wr W3 (Or.inl (List.mem_of_getElem? (i := 0) rfl))
    exact g_ret0 X3 B rfl ini_d34 (by decide) (by decide) (by rw [e3]; exact ⟨rfl, N3, K_3, F_o0_start_3, F_o0_end_3⟩)
  · exact absurd hlt c6_0
theorem ini_met (l : Launch) (Z : State) (a0 : Array Value) (hw : ∀ d ∈ tables_1, d.before a0 Z = true) (ws : List Jvm.Cond) (h : Heap) (o0 : Addr) (j1 : Int64) (j3 : Int64) (n0 : Nat) (Zs : n0 ≤ h.size) (hE : Exa Z h o0 "com/example/razione/razione/rating/Period") (f_start : Fld Z h o0 "com/example/razione/razione/rating/Period" "start" "J" (.long (0 : Int64))) (f_end : Fld Z h o0 "com/example/razione/razione/rating/Period" "end" "J" (.long (0 : Int64))) (g0 : n0 ≤ o0) (hlt : j1 < j3) :
    Met l Z (⟨"com/example/razione/razione/rating/Period", "<init>", "(JJ)V"⟩ : MethodName) prog_55_method_1_code 5 none ws (⟨2, 0, 0, 32⟩ : Room) #[(.ref o0), (.long j1), (.long j3)] h (fun v h2 L => v = none ∧ Fr n0 L ∧ Keep h h2 [o0] ∧ Fld Z h2 o0 "com/example/razione/razione/rating/Period" "start" "J" (.long j1) ∧ Fld Z h2 o0 "com/example/razione/razione/rating/Period" "end" "J" (.long j3)) :=
  met_of own_pn_ini hw fun p e s m below meth c T X B eT => Go.top (own_ef_ini m o0 j1 j3) (ini_go X B eT o0 j1 j3 n0 Zs hE f_start f_end g0 hlt)
def own_pe (a b c d : Int64) : Int32 := if a = c then (if b = d then 1 else 0) else 0
theorem eqP_d0 : decode prog_55_method_3_code 0 = .ok (.aload_n 1, 1) := by decide +kernel
theorem eqP_d1 : decode prog_55_method_3_code 1 = .ok (.instanceof 17, 3) := by decide +kernel
theorem eqP_d4 : decode prog_55_method_3_code 4 = .ok (.ifCond .eq 36, 3) := by decide +kernel
theorem eqP_d7 : decode prog_55_method_3_code 7 = .ok (.aload_n 1, 1) := by decide +kernel
theorem eqP_d8 : decode prog_55_method_3_code 8 = .ok (.checkcast 17, 3) := by decide +kernel
theorem eqP_d11 : decode prog_55_method_3_code 11 = .ok (.astore_n 2, 1) := by decide +kernel
theorem eqP_d12 : decode prog_55_method_3_code 12 = .ok (.aload_n 0, 1) := by decide +kernel
theorem eqP_d13 : decode prog_55_method_3_code 13 = .ok (.getfield 16, 3) := by decide +kernel
theorem eqP_d16 : decode prog_55_method_3_code 16 = .ok (.aload_n 2, 1) := by decide +kernel
theorem eqP_d17 : decode prog_55_method_3_code 17 = .ok (.getfield 16, 3) := by decide +kernel
theorem eqP_d20 : decode prog_55_method_3_code 20 = .ok (.lcmp, 1) := by decide +kernel
theorem eqP_d21 : decode prog_55_method_3_code 21 = .ok (.ifCond .ne 19, 3) := by decide +kernel
theorem eqP_d24 : decode prog_55_method_3_code 24 = .ok (.aload_n 0, 1) := by decide +kernel
theorem eqP_d25 : decode prog_55_method_3_code 25 = .ok (.getfield 22, 3) := by decide +kernel
theorem eqP_d28 : decode prog_55_method_3_code 28 = .ok (.aload_n 2, 1) := by decide +kernel
theorem eqP_d29 : decode prog_55_method_3_code 29 = .ok (.getfield 22, 3) := by decide +kernel
theorem eqP_d32 : decode prog_55_method_3_code 32 = .ok (.lcmp, 1) := by decide +kernel
theorem eqP_d33 : decode prog_55_method_3_code 33 = .ok (.ifCond .ne 7, 3) := by decide +kernel
theorem eqP_d36 : decode prog_55_method_3_code 36 = .ok (.iconst 1, 1) := by decide +kernel
theorem eqP_d37 : decode prog_55_method_3_code 37 = .ok (.goto 4, 3) := by decide +kernel
theorem eqP_d40 : decode prog_55_method_3_code 40 = .ok (.iconst 0, 1) := by decide +kernel
theorem eqP_d41 : decode prog_55_method_3_code 41 = .ok (.ireturn, 1) := by decide +kernel
theorem own_pn_eqP : plainFor (⟨"com/example/razione/razione/rating/Period", "equals", "(Ljava/lang/Object;)Z"⟩ : MethodName) = true := plainFor_of_name (by first | (simp [plainName, overriddenIn]; done) | decide +kernel)
theorem own_ef_eqP (m : MethodId) (o0 : Addr) (o1 : Addr) : entryFrame m #[(.ref o0), (.ref o1)] 3 = (mkF m 0 #[.val (.ref o0), .val (.ref o1), .unset] []) := by first | (simp [entryFrame, mkF, argsToLocals, Value.category]; done) | rfl
set_option maxRecDepth 65536 in
set_option maxHeartbeats 40000000 in
theorem eqP_go {p : Program} {l : Launch} {e : Env} {s : State} {m : MethodId} {args : Array Value} {below : List Frame} {meth : Method} {c : Code} {T : State} {Z : State} {a0 : Array Value} {h : Heap} (X : Stand p l e (⟨0, 0, 0, 0⟩ : Room) s m args below meth c T [] 0 0) (B : Bdy p s m meth c Z a0 "com/example/razione/razione/rating/Period" "equals" prog_55_method_3_code 3 (some .boolean) tables_1) (eT : T.heap = h) (o0 : Addr) (o1 : Addr) (sA : Int64) (eA : Int64) (sB : Int64) (eB : Int64) (hE1 : Exa Z h o1 "com/example/razione/razione/rating/Period") (Fs0 : Fld Z h o0 "com/example/razione/razione/rating/Period" "start" "J" (.long sA)) (Fe0 : Fld Z h o0 "com/example/razione/razione/rating/Period" "end" "J" (.long eA)) (Fs1 : Fld Z h o1 "com/example/razione/razione/rating/Period" "start" "J" (.long sB)) (Fe1 : Fld Z h o1 "com/example/razione/razione/rating/Period" "end" "J" (.long eB)) :
    Go p e below s 0 0 (PQ (some (.int (own_pe sA eA sB eB))) h []) (T.setTop (mkF m 0 #[.val (.ref o0), .val (.ref o1), .unset] [])) := by
  refine g_aloadN X B eqP_d0 (pc' := 1) rfl (v := (.ref o1)) rfl rfl ?_
  refine g_instY X B (B.w 35 rfl) eT (Ins.self hE1) eqP_d1 (pc' := 4) rfl (fun T1 X1 e1 => ?_)
  refine g_if_eq X1 B eqP_d4 (pcT := 40) (pcF := 7) (by decide) rfl rfl (fun c4_0 => ?_) (fun c4_0 => ?_)
  · exact absurd c4_0 (by decide)
  · refine g_aloadN X1 B eqP_d7 (pc' := 8) rfl (v := (.ref o1)) rfl rfl ?_
    refine g_castY X1 B (B.w 35 rfl) e1 (Ins.self hE1) eqP_d8 (pc' := 11) rfl (fun T2 X2 e2 => ?_)
    refine g_astoreN X2 B eqP_d11 (pc' := 12) rfl rfl (Ls' := #[.val (.ref o0), .val (.ref o1), .val (.ref o1)]) rfl ?_
    refine g_aloadN X2 B eqP_d12 (pc' := 13) rfl (v := (.ref o0)) rfl rfl ?_
    refine g_getF X2 B (B.w 26 rfl) Via.refl e2 Fs0 eqP_d13 (pc' := 16) rfl (fun T3 X3 e3 => ?_)
    refine g_aloadN X3 B eqP_d16 (pc' := 17) rfl (v := (.ref o1)) rfl rfl ?_
    refine g_getF X3 B (B.w 26 rfl) Via.refl e3 Fs1 eqP_d17 (pc' := 20) rfl (fun T4 X4 e4 => ?_)
    refine g_lcmp_ne X4 B eqP_d20 eqP_d21 (pcT := 40) (pcF := 24) (by decide) rfl rfl (fun c20_1 => ?_) (fun c20_1 => ?_)
    · refine g_aloadN X4 B eqP_d24 (pc' := 25) rfl (v := (.ref o0)) rfl rfl ?_
      refine g_getF X4 B (B.w 28 rfl) Via.refl e4 Fe0 eqP_d25 (pc' := 28) rfl (fun T5 X5 e5 => ?_)
      refine g_aloadN X5 B eqP_d28 (pc' := 29) rfl (v := (.ref o1)) rfl rfl ?_
      refine g_getF X5 B (B.w 28 rfl) Via.refl e5 Fe1 eqP_d29 (pc' := 32) rfl (fun T6 X6 e6 => ?_)
      refine g_lcmp_ne X6 B eqP_d32 eqP_d33 (pcT := 40) (pcF := 36) (by decide) rfl rfl (fun c32_2 => ?_) (fun c32_2 => ?_)
      · refine g_iconst X6 B eqP_d36 (pc' := 37) rfl (v := (1 : Int32)) (by decide) ?_
        refine g_goto X6 B eqP_d37 (pc' := 41) (by decide) rfl ?_
        exact g_retN X6 B (t := .boolean) rfl (by simp) eqP_d41 (by decide) (by decide) ⟨congrArg (fun z => some (Value.int z)) (show nar .boolean (1 : Int32) = own_pe sA eA sB eB by rw [own_pe, if_pos c20_1, if_pos c32_2]; decide), e6, rfl⟩
      · refine g_iconst X6 B eqP_d40 (pc' := 41) rfl (v := (0 : Int32)) (by decide) ?_
        exact g_retN X6 B (t := .boolean) rfl (by simp) eqP_d41 (by decide) (by decide) ⟨congrArg (fun z => some (Value.int z)) (show nar .boolean (0 : Int32) = own_pe sA eA sB eB by rw [own_pe, if_pos c20_1, if_neg c32_2]; decide), e6, rfl⟩
    · refine g_iconst X4 B eqP_d40 (pc' := 41) rfl (v := (0 : Int32)) (by decide) ?_
      exact g_retN X4 B (t := .boolean) rfl (by simp) eqP_d41 (by decide) (by decide) ⟨congrArg (fun z => some (Value.int z)) (show nar .boolean (0 : Int32) = own_pe sA eA sB eB by rw [own_pe, if_neg c20_1]; decide), e4, rfl⟩
theorem eqP_met (l : Launch) (Z : State) (a0 : Array Value) (hw : ∀ d ∈ tables_1, d.before a0 Z = true) (ws : List Jvm.Cond) (h : Heap) (o0 : Addr) (o1 : Addr) (sA : Int64) (eA : Int64) (sB : Int64) (eB : Int64) (hE1 : Exa Z h o1 "com/example/razione/razione/rating/Period") (Fs0 : Fld Z h o0 "com/example/razione/razione/rating/Period" "start" "J" (.long sA)) (Fe0 : Fld Z h o0 "com/example/razione/razione/rating/Period" "end" "J" (.long eA)) (Fs1 : Fld Z h o1 "com/example/razione/razione/rating/Period" "start" "J" (.long sB)) (Fe1 : Fld Z h o1 "com/example/razione/razione/rating/Period" "end" "J" (.long eB)) :
    Met l Z (⟨"com/example/razione/razione/rating/Period", "equals", "(Ljava/lang/Object;)Z"⟩ : MethodName) prog_55_method_3_code 3 (some .boolean) ws (⟨0, 0, 0, 0⟩ : Room) #[(.ref o0), (.ref o1)] h (PQ (some (.int (own_pe sA eA sB eB))) h []) :=
  met_of own_pn_eqP hw fun p e s m below meth c T X B eT => Go.top (own_ef_eqP m o0 o1) (eqP_go X B eT o0 o1 sA eA sB eB hE1 Fs0 Fe0 Fs1 Fe1)
theorem eqN_d0 : decode prog_55_method_3_code 0 = .ok (.aload_n 1, 1) := by decide +kernel
theorem eqN_d1 : decode prog_55_method_3_code 1 = .ok (.instanceof 17, 3) := by decide +kernel
theorem eqN_d4 : decode prog_55_method_3_code 4 = .ok (.ifCond .eq 36, 3) := by decide +kernel
theorem eqN_d40 : decode prog_55_method_3_code 40 = .ok (.iconst 0, 1) := by decide +kernel
theorem eqN_d41 : decode prog_55_method_3_code 41 = .ok (.ireturn, 1) := by decide +kernel
theorem own_pn_eqN : plainFor (⟨"com/example/razione/razione/rating/Period", "equals", "(Ljava/lang/Object;)Z"⟩ : MethodName) = true := plainFor_of_name (by first | (simp [plainName, overriddenIn]; done) | decide +kernel)
theorem own_ef_eqN (m : MethodId) (o0 : Addr) : entryFrame m #[(.ref o0), .null] 3 = (mkF m 0 #[.val (.ref o0), .val .null, .unset] []) := by first | (simp [entryFrame, mkF, argsToLocals, Value.category]; done) | rfl
set_option maxRecDepth 65536 in
set_option maxHeartbeats 40000000 in
theorem eqN_go {p : Program} {l : Launch} {e : Env} {s : State} {m : MethodId} {args : Array Value} {below : List Frame} {meth : Method} {c : Code} {T : State} {Z : State} {a0 : Array Value} {h : Heap} (X : Stand p l e (⟨0, 0, 0, 0⟩ : Room) s m args below meth c T [] 0 0) (B : Bdy p s m meth c Z a0 "com/example/razione/razione/rating/Period" "equals" prog_55_method_3_code 3 (some .boolean) tables_1) (eT : T.heap = h) (o0 : Addr)   :
    Go p e below s 0 0 (PQ (some (.int (0 : Int32))) h []) (T.setTop (mkF m 0 #[.val (.ref o0), .val .null, .unset] [])) := by
  refine g_aloadN X B eqN_d0 (pc' := 1) rfl (v := .null) rfl rfl ?_
  refine g_instNull X B eqN_d1 (pc' := 4) rfl ?_
  refine g_if_eq X B eqN_d4 (pcT := 40) (pcF := 7) (by decide) rfl rfl (fun c4_0 => ?_) (fun c4_0 => ?_)
  · refine g_iconst X B eqN_d40 (pc' := 41) rfl (v := (0 : Int32)) (by decide) ?_
    exact g_retN X B (t := .boolean) rfl (by simp) eqN_d41 (by decide) (by decide) ⟨congrArg (fun z => some (Value.int z)) (show nar .boolean (0 : Int32) = 0 by decide), eT, rfl⟩
  · exact absurd rfl c4_0
theorem eqN_met (l : Launch) (Z : State) (a0 : Array Value) (hw : ∀ d ∈ tables_1, d.before a0 Z = true) (ws : List Jvm.Cond) (h : Heap) (o0 : Addr)   :
    Met l Z (⟨"com/example/razione/razione/rating/Period", "equals", "(Ljava/lang/Object;)Z"⟩ : MethodName) prog_55_method_3_code 3 (some .boolean) ws (⟨0, 0, 0, 0⟩ : Room) #[(.ref o0), .null] h (PQ (some (.int (0 : Int32))) h []) :=
  met_of own_pn_eqN hw fun p e s m below meth c T X B eT => Go.top (own_ef_eqN m o0) (eqN_go X B eT o0  )
theorem eqX_d0 : decode prog_55_method_3_code 0 = .ok (.aload_n 1, 1) := by decide +kernel
theorem eqX_d1 : decode prog_55_method_3_code 1 = .ok (.instanceof 17, 3) := by decide +kernel
theorem eqX_d4 : decode prog_55_method_3_code 4 = .ok (.ifCond .eq 36, 3) := by decide +kernel
theorem eqX_d40 : decode prog_55_method_3_code 40 = .ok (.iconst 0, 1) := by decide +kernel
theorem eqX_d41 : decode prog_55_method_3_code 41 = .ok (.ireturn, 1) := by decide +kernel
theorem own_pn_eqX : plainFor (⟨"com/example/razione/razione/rating/Period", "equals", "(Ljava/lang/Object;)Z"⟩ : MethodName) = true := plainFor_of_name (by first | (simp [plainName, overriddenIn]; done) | decide +kernel)
theorem own_ef_eqX (m : MethodId) (o0 : Addr) (o1 : Addr) : entryFrame m #[(.ref o0), (.ref o1)] 3 = (mkF m 0 #[.val (.ref o0), .val (.ref o1), .unset] []) := by first | (simp [entryFrame, mkF, argsToLocals, Value.category]; done) | rfl
set_option maxRecDepth 65536 in
set_option maxHeartbeats 40000000 in
theorem eqX_go {p : Program} {l : Launch} {e : Env} {s : State} {m : MethodId} {args : Array Value} {below : List Frame} {meth : Method} {c : Code} {T : State} {Z : State} {a0 : Array Value} {h : Heap} (X : Stand p l e (⟨0, 0, 0, 0⟩ : Room) s m args below meth c T [] 0 0) (B : Bdy p s m meth c Z a0 "com/example/razione/razione/rating/Period" "equals" prog_55_method_3_code 3 (some .boolean) tables_1) (eT : T.heap = h) (o0 : Addr) (o1 : Addr) (C : String) (hE1 : Exa Z h o1 C) (hNo : ∃ c t, Z.vm.findClass C = some c ∧ Z.vm.findClass "com/example/razione/razione/rating/Period" = some t ∧ Z.vm.assignable c t = false) :
    Go p e below s 0 0 (PQ (some (.int (0 : Int32))) h []) (T.setTop (mkF m 0 #[.val (.ref o0), .val (.ref o1), .unset] [])) := by
  refine g_aloadN X B eqX_d0 (pc' := 1) rfl (v := (.ref o1)) rfl rfl ?_
  refine g_instN X B (B.w 35 rfl) eT hE1 hNo eqX_d1 (pc' := 4) rfl (fun T1 X1 e1 => ?_)
  refine g_if_eq X1 B eqX_d4 (pcT := 40) (pcF := 7) (by decide) rfl rfl (fun c4_0 => ?_) (fun c4_0 => ?_)
  · refine g_iconst X1 B eqX_d40 (pc' := 41) rfl (v := (0 : Int32)) (by decide) ?_
    exact g_retN X1 B (t := .boolean) rfl (by simp) eqX_d41 (by decide) (by decide) ⟨congrArg (fun z => some (Value.int z)) (show nar .boolean (0 : Int32) = 0 by decide), e1, rfl⟩
  · exact absurd rfl c4_0
theorem eqX_met (l : Launch) (Z : State) (a0 : Array Value) (hw : ∀ d ∈ tables_1, d.before a0 Z = true) (ws : List Jvm.Cond) (h : Heap) (o0 : Addr) (o1 : Addr) (C : String) (hE1 : Exa Z h o1 C) (hNo : ∃ c t, Z.vm.findClass C = some c ∧ Z.vm.findClass "com/example/razione/razione/rating/Period" = some t ∧ Z.vm.assignable c t = false) :
    Met l Z (⟨"com/example/razione/razione/rating/Period", "equals", "(Ljava/lang/Object;)Z"⟩ : MethodName) prog_55_method_3_code 3 (some .boolean) ws (⟨0, 0, 0, 0⟩ : Room) #[(.ref o0), (.ref o1)] h (PQ (some (.int (0 : Int32))) h []) :=
  met_of own_pn_eqX hw fun p e s m below meth c T X B eT => Go.top (own_ef_eqX m o0 o1) (eqX_go X B eT o0 o1 C hE1 hNo)
theorem bic_d0 : decode jdk_33_method_23_code 0 = .ok (.aload_n 0, 1) := by decide +kernel
theorem bic_d1 : decode jdk_33_method_23_code 1 = .ok (.invokespecial 202, 3) := by decide +kernel
theorem bic_d4 : decode jdk_33_method_23_code 4 = .ok (.aload_n 0, 1) := by decide +kernel
theorem bic_d5 : decode jdk_33_method_23_code 5 = .ok (.iload_n 1, 1) := by decide +kernel
theorem bic_d6 : decode jdk_33_method_23_code 6 = .ok (.putfield 205, 3) := by decide +kernel
theorem bic_d9 : decode jdk_33_method_23_code 9 = .ok (.return_, 1) := by decide +kernel
theorem own_pn_bic : plainFor (⟨"java/lang/Integer", "<init>", "(I)V"⟩ : MethodName) = true := plainFor_of_name (by first | (simp [plainName, overriddenIn]; done) | decide +kernel)
theorem own_ef_bic (m : MethodId) (o0 : Addr) (i1 : Int32) : entryFrame m #[(.ref o0), (.int i1)] 2 = (mkF m 0 #[.val (.ref o0), .val (.int i1)] []) := by first | (simp [entryFrame, mkF, argsToLocals, Value.category]; done) | rfl
set_option maxRecDepth 65536 in
set_option maxHeartbeats 40000000 in
theorem bic_go {p : Program} {l : Launch} {e : Env} {s : State} {m : MethodId} {args : Array Value} {below : List Frame} {meth : Method} {c : Code} {T : State} {Z : State} {a0 : Array Value} {h : Heap} (X : Stand p l e (⟨2, 0, 0, 32⟩ : Room) s m args below meth c T [] 0 0) (B : Bdy p s m meth c Z a0 "java/lang/Integer" "<init>" jdk_33_method_23_code 2 none tables_1) (eT : T.heap = h) (o0 : Addr) (i1 : Int32) (n0 : Nat) (Zs : n0 ≤ h.size) (hE : Exa Z h o0 "java/lang/Integer") (f1 : Fld Z h o0 "java/lang/Integer" "value" "I" (.int (0 : Int32))) (g0 : n0 ≤ o0) :
    Go p e below s 0 0 (fun v h2 L => v = none ∧ Fr n0 L ∧ Keep h h2 [o0]) (T.setTop (mkF m 0 #[.val (.ref o0), .val (.int i1)] [])) := by
  have N := Fr.nil n0
  have K := Keep.refl h [o0]
  refine g_aloadN X B bic_d0 (pc' := 1) rfl (v := (.ref o0)) rfl rfl ?_
  refine g_special X B eT 0 (y := (⟨"java/lang/Number", "<init>", "()V"⟩ : MethodName)) (argsL := []) (rest := []) (a := o0) rfl (B.w 74 rfl) (B.w 59 rfl) (B.w 62 rfl) (B.w 63 rfl) (by decide) (num_met l Z a0 B.2.2.1 [] h o0) (by decide) (by decide) (by decide) (by decide) rfl (lenOf own_pd1 rfl) rfl (Nat.le_of_eq rfl) bic_d1 (pc' := 4) rfl (fun T1 v1 L1 X1 Q1 => ?_)
  obtain ⟨rfl, hh1, rfl⟩ := Q1
  rw [List.append_nil] at X1
  show Go p e below s _ _ _ (T1.setTop (mkF m 4 #[.val (.ref o0), .val (.int i1)] []))
  refine g_aloadN X1 B bic_d4 (pc' := 5) rfl (v := (.ref o0)) rfl rfl ?_
  refine g_iloadN X1 B bic_d5 (pc' := 6) rfl (v := i1) rfl ?_
  refine g_putF X1 B (B.w 76 rfl) Via.refl hh1 f1 hE (Or.inr ⟨B.w 77 rfl, rfl, rfl⟩) (B.w 69 rfl) (ty := .int) (by decide) rfl rfl bic_d6 (pc' := 9) rfl (fun T2 h2 X2 e2 W2 => ?_)
  have N2 := Fr.snoc X2 N g0
  have E_o0_2 := hE.wr W2
  have F_o0_value_2 := f1.same W2
  have Zs_2 := Nat.le_trans Zs (Keep.of_wr W2).1
  have K_2 := K.wr W2 (Or.inl (List.mem_of_getElem? (i := 0) rfl))
  exact g_ret0 X2 B rfl bic_d9 (by decide) (by decide) (by rw [e2]; exact ⟨rfl, N2, K_2⟩)
theorem bic_met (l : Launch) (Z : State) (a0 : Array Value) (hw : ∀ d ∈ tables_1, d.before a0 Z = true) (ws : List Jvm.Cond) (h : Heap) (o0 : Addr) (i1 : Int32) (n0 : Nat) (Zs : n0 ≤ h.size) (hE : Exa Z h o0 "java/lang/Integer") (f1 : Fld Z h o0 "java/lang/Integer" "value" "I" (.int (0 : Int32))) (g0 : n0 ≤ o0) :
    Met l Z (⟨"java/lang/Integer", "<init>", "(I)V"⟩ : MethodName) jdk_33_method_23_code 2 none ws (⟨2, 0, 0, 32⟩ : Room) #[(.ref o0), (.int i1)] h (fun v h2 L => v = none ∧ Fr n0 L ∧ Keep h h2 [o0]) :=
  met_of own_pn_bic hw fun p e s m below meth c T X B eT => Go.top (own_ef_bic m o0 i1) (bic_go X B eT o0 i1 n0 Zs hE f1 g0)
theorem own_km128 : (-128 : Int32).toInt = -128 := by decide
theorem own_k0 : (0 : Int32).toInt = 0 := by decide
theorem own_k127 : (127 : Int32).toInt = 127 := by decide
theorem own_k128 : (128 : Int32).toInt = 128 := by decide
theorem own_k256 : (256 : Int32).toInt = 256 := by decide
theorem own_lm128 : (-128 : Int64).toInt = -128 := by decide
theorem own_l127 : (127 : Int64).toInt = 127 := by decide
theorem own_ix {x : Int32} (h1 : -128 ≤ x.toInt) (h2 : x.toInt ≤ 127) : ¬ (x + (128 : Int32) < 0 ∨ (256 : Int32).toNatClampNeg ≤ (x + (128 : Int32)).toNatClampNeg) := by
  have e := c_iadd x 128; have k := own_k128; have r1 := (x + 128).toInt_lt; have r2 := (x + 128).le_toInt
  have k2 : (256 : Int32).toNatClampNeg = 256 := by decide
  rw [Int32.lt_iff_toInt_lt, own_k0, k2]
  show ¬ (_ ∨ 256 ≤ (x + (128 : Int32)).toInt.toNat)
  omega
theorem biv_d0 : decode jdk_33_method_22_code 0 = .ok (.iload_n 0, 1) := by decide +kernel
theorem biv_d1 : decode jdk_33_method_22_code 1 = .ok (.bipush (-128), 2) := by decide +kernel
theorem biv_d3 : decode jdk_33_method_22_code 3 = .ok (.if_icmp .lt 20, 3) := by decide +kernel
theorem biv_d6 : decode jdk_33_method_22_code 6 = .ok (.iload_n 0, 1) := by decide +kernel
theorem biv_d7 : decode jdk_33_method_22_code 7 = .ok (.getstatic 191, 3) := by decide +kernel
theorem biv_d10 : decode jdk_33_method_22_code 10 = .ok (.if_icmp .gt 13, 3) := by decide +kernel
theorem biv_d13 : decode jdk_33_method_22_code 13 = .ok (.getstatic 195, 3) := by decide +kernel
theorem biv_d16 : decode jdk_33_method_22_code 16 = .ok (.iload_n 0, 1) := by decide +kernel
theorem biv_d17 : decode jdk_33_method_22_code 17 = .ok (.sipush 128, 3) := by decide +kernel
theorem biv_d20 : decode jdk_33_method_22_code 20 = .ok (.iadd, 1) := by decide +kernel
theorem biv_d21 : decode jdk_33_method_22_code 21 = .ok (.aaload, 1) := by decide +kernel
theorem biv_d22 : decode jdk_33_method_22_code 22 = .ok (.areturn, 1) := by decide +kernel
theorem biv_d23 : decode jdk_33_method_22_code 23 = .ok (.new 1, 3) := by decide +kernel
theorem biv_d26 : decode jdk_33_method_22_code 26 = .ok (.dup, 1) := by decide +kernel
theorem biv_d27 : decode jdk_33_method_22_code 27 = .ok (.iload_n 0, 1) := by decide +kernel
theorem biv_d28 : decode jdk_33_method_22_code 28 = .ok (.invokespecial 199, 3) := by decide +kernel
theorem biv_d31 : decode jdk_33_method_22_code 31 = .ok (.areturn, 1) := by decide +kernel
theorem own_pn_biv : plainFor (⟨"java/lang/Integer", "valueOf", "(I)Ljava/lang/Integer;"⟩ : MethodName) = true := plainFor_of_name (by first | (simp [plainName, overriddenIn]; done) | decide +kernel)
theorem own_ef_biv (m : MethodId) (i0 : Int32) : entryFrame m #[(.int i0)] 1 = (mkF m 0 #[.val (.int i0)] []) := by first | (simp [entryFrame, mkF, argsToLocals, Value.category]; done) | rfl
set_option maxRecDepth 65536 in
set_option maxHeartbeats 40000000 in
theorem biv_go {p : Program} {l : Launch} {e : Env} {s : State} {m : MethodId} {args : Array Value} {below : List Frame} {meth : Method} {c : Code} {T : State} {Z : State} {a0 : Array Value} {h : Heap} (X : Stand p l e (⟨3, 1, 1, 64⟩ : Room) s m args below meth c T [] 0 0) (B : Bdy p s m meth c Z a0 "java/lang/Integer" "valueOf" jdk_33_method_22_code 1 (some (.object "java/lang/Integer")) tables_1) (eT : T.heap = h) (i0 : Int32) (ca : Addr) (cc : Cell) (val : Int32 → Value) (n0 : Nat) (Zs : n0 ≤ h.size) (Sh : Sta Z h "java/lang/Integer$IntegerCache" "high" "I" (.int (127 : Int32))) (Sc : Sta Z h "java/lang/Integer$IntegerCache" "cache" "[Ljava/lang/Integer;" (.ref ca)) (hB : Bxs Z ca cc "java/lang/Integer" "I" (256 : Int32) val) (hO : Ext Z.heap h) :
    Go p e below s 1 1 (fun v h2 L => ∃ a, v = some (.ref a) ∧ Fr n0 L ∧ Keep h h2 [] ∧ Exa Z h2 a "java/lang/Integer") (T.setTop (mkF m 0 #[.val (.int i0)] [])) := by
  have N := Fr.nil n0
  have K := Keep.refl h []
  refine g_iloadN X B biv_d0 (pc' := 1) rfl (v := i0) rfl ?_
  refine g_bipush X B biv_d1 (pc' := 3) rfl (v := (-128 : Int32)) (by decide) ?_
  refine g_icmp_lt X B biv_d3 (pcT := 23) (pcF := 6) (by decide) rfl rfl (fun c3_0 => ?_) (fun c3_0 => ?_)
  · refine g_new X B (B.w 68 rfl) (B.w 69 rfl) (B.w 39 rfl) eT biv_d23 (pc' := 26) rfl (by decide) (by decide) (fun T1 h1 ob1 q1 X1 e1 E1 A1 D1 => ?_)
    have G_ob1 : n0 ≤ ob1 := by rw [q1]; exact Zs
    have H_ob1 : h.size ≤ ob1 := by rw [q1]; exact K.1
    have St_cache_1 := Sc.ext E1
    have St_high_1 := Sh.ext E1
    have Zs_1 := Nat.le_trans Zs E1.1
    have K_1 := K.ext E1
    have F_ob1_value : Fld Z h1 ob1 "java/lang/Integer" "value" "I" (.int (0 : Int32)) := D1 (Or.inr (B.w 77 rfl)) (ty := .int) (by decide)
    refine g_dup X1 B biv_d26 (pc' := 27) rfl rfl ?_
    refine g_iloadN X1 B biv_d27 (pc' := 28) rfl (v := i0) rfl ?_
    refine g_special X1 B e1 1 (y := (⟨"java/lang/Integer", "<init>", "(I)V"⟩ : MethodName)) (argsL := [(.int i0)]) (rest := [(.ref ob1)]) (a := ob1) rfl (B.w 70 rfl) (B.w 71 rfl) (B.w 39 rfl) (B.w 73 rfl) (by decide) (bic_met l Z a0 B.2.2.1 [] h1 ob1 i0 n0 Zs_1 A1 F_ob1_value G_ob1) (by decide) (by decide) (by decide) (by decide) rfl (lenOf own_pd2 rfl) rfl (Nat.le_of_eq rfl) biv_d28 (pc' := 31) rfl (fun T2 v2 L2 X2 Q2 => ?_)
    obtain ⟨rfl, Nq2, Kq2⟩ := Q2
    have N2 := Fr.app N Nq2
    have E_ob1_2 := A1.keep Kq2
    have Zs_2 := Nat.le_trans Zs_1 Kq2.1
    have K_2 := K_1.trans Kq2 (by intro x hx; simp only [List.mem_cons, List.not_mem_nil, or_false] at hx; subst hx; exact Or.inr H_ob1)
    show Go p e below s _ _ _ (T2.setTop (mkF m 31 #[.val (.int i0)] [(.ref ob1)]))
    exact g_retA X2 B rfl rfl rfl rfl biv_d31 (by decide) (by decide) ⟨ob1, rfl, N2, K_2, E_ob1_2⟩
  · refine g_iloadN X B biv_d6 (pc' := 7) rfl (v := i0) rfl ?_
    refine g_getS X B (B.w 41 rfl) Via.refl eT Sh biv_d7 (pc' := 10) rfl (fun T3 X3 e3 => ?_)
    refine g_icmp_gt X3 B biv_d10 (pcT := 23) (pcF := 13) (by decide) rfl rfl (fun c10_1 => ?_) (fun c10_1 => ?_)
    · refine g_new X3 B (B.w 68 rfl) (B.w 69 rfl) (B.w 39 rfl) e3 biv_d23 (pc' := 26) rfl (by decide) (by decide) (fun T4 h4 ob4 q4 X4 e4 E4 A4 D4 => ?_)
      have G_ob4 : n0 ≤ ob4 := by rw [q4]; exact Zs
      have H_ob4 : h.size ≤ ob4 := by rw [q4]; exact K.1
      have St_cache_4 := Sc.ext E4
      have St_high_4 := Sh.ext E4
      have Zs_4 := Nat.le_trans Zs E4.1
      have K_4 := K.ext E4
      have F_ob4_value : Fld Z h4 ob4 "java/lang/Integer" "value" "I" (.int (0 : Int32)) := D4 (Or.inr (B.w 77 rfl)) (ty := .int) (by decide)
      refine g_dup X4 B biv_d26 (pc' := 27) rfl rfl ?_
      refine g_iloadN X4 B biv_d27 (pc' := 28) rfl (v := i0) rfl ?_
      refine g_special X4 B e4 1 (y := (⟨"java/lang/Integer", "<init>", "(I)V"⟩ : MethodName)) (argsL := [(.int i0)]) (rest := [(.ref ob4)]) (a := ob4) rfl (B.w 70 rfl) (B.w 71 rfl) (B.w 39 rfl) (B.w 73 rfl) (by decide) (bic_met l Z a0 B.2.2.1 [] h4 ob4 i0 n0 Zs_4 A4 F_ob4_value G_ob4) (by decide) (by decide) (by decide) (by decide) rfl (lenOf own_pd2 rfl) rfl (Nat.le_of_eq rfl) biv_d28 (pc' := 31) rfl (fun T5 v5 L5 X5 Q5 => ?_)
      obtain ⟨rfl, Nq5, Kq5⟩ := Q5
      have N5 := Fr.app N Nq5
      have E_ob4_5 := A4.keep Kq5
      have Zs_5 := Nat.le_trans Zs_4 Kq5.1
      have K_5 := K_4.trans Kq5 (by intro x hx; simp only [List.mem_cons, List.not_mem_nil, or_false] at hx; subst hx; exact Or.inr H_ob4)
      show Go p e below s _ _ _ (T5.setTop (mkF m 31 #[.val (.int i0)] [(.ref ob4)]))
      exact g_retA X5 B rfl rfl rfl rfl biv_d31 (by decide) (by decide) ⟨ob4, rfl, N5, K_5, E_ob4_5⟩
    · refine g_getS X3 B (B.w 43 rfl) Via.refl e3 Sc biv_d13 (pc' := 16) rfl (fun T6 X6 e6 => ?_)
      refine g_iloadN X6 B biv_d16 (pc' := 17) rfl (v := i0) rfl ?_
      refine g_sipush X6 B biv_d17 (pc' := 20) rfl (v := (128 : Int32)) (by decide) ?_
      refine g_iadd X6 B biv_d20 (pc' := 21) rfl ?_
      have hix : ¬ (i0 + (128 : Int32) < 0 ∨ cc.slots.size ≤ (i0 + (128 : Int32)).toNatClampNeg) := by rw [hB.2.1]; exact own_ix (by rw [Int32.lt_iff_toInt_lt, own_km128] at c3_0; omega) (by rw [Int32.lt_iff_toInt_lt, own_k127] at c10_1; omega)
      obtain ⟨bx, hb1, hb2, -⟩ := hB.2.2.2 (i0 + (128 : Int32)) hix
      have hbE := hb2.ext hO
      refine g_aaload X6 B e6 (hB.1.ext hO) hix hb1 biv_d21 (pc' := 22) rfl ?_
      exact g_retA X6 B rfl rfl rfl rfl biv_d22 (by decide) (by decide) (by rw [e6]; exact ⟨bx, rfl, N, K, hbE⟩)
theorem biv_met (l : Launch) (Z : State) (a0 : Array Value) (hw : ∀ d ∈ tables_1, d.before a0 Z = true) (ws : List Jvm.Cond) (h : Heap) (i0 : Int32) (ca : Addr) (cc : Cell) (val : Int32 → Value) (n0 : Nat) (Zs : n0 ≤ h.size) (Sh : Sta Z h "java/lang/Integer$IntegerCache" "high" "I" (.int (127 : Int32))) (Sc : Sta Z h "java/lang/Integer$IntegerCache" "cache" "[Ljava/lang/Integer;" (.ref ca)) (hB : Bxs Z ca cc "java/lang/Integer" "I" (256 : Int32) val) (hO : Ext Z.heap h) :
    Met l Z (⟨"java/lang/Integer", "valueOf", "(I)Ljava/lang/Integer;"⟩ : MethodName) jdk_33_method_22_code 1 (some (.object "java/lang/Integer")) ws (⟨3, 1, 1, 64⟩ : Room) #[(.int i0)] h (fun v h2 L => ∃ a, v = some (.ref a) ∧ Fr n0 L ∧ Keep h h2 [] ∧ Exa Z h2 a "java/lang/Integer") :=
  met_of own_pn_biv hw fun p e s m below meth c T X B eT => Go.top (own_ef_biv m i0) (biv_go X B eT i0 ca cc val n0 Zs Sh Sc hB hO)
theorem bjc_d0 : decode jdk_35_method_26_code 0 = .ok (.aload_n 0, 1) := by decide +kernel
theorem bjc_d1 : decode jdk_35_method_26_code 1 = .ok (.invokespecial 270, 3) := by decide +kernel
theorem bjc_d4 : decode jdk_35_method_26_code 4 = .ok (.aload_n 0, 1) := by decide +kernel
theorem bjc_d5 : decode jdk_35_method_26_code 5 = .ok (.lload_n 1, 1) := by decide +kernel
theorem bjc_d6 : decode jdk_35_method_26_code 6 = .ok (.putfield 273, 3) := by decide +kernel
theorem bjc_d9 : decode jdk_35_method_26_code 9 = .ok (.return_, 1) := by decide +kernel
theorem own_pn_bjc : plainFor (⟨"java/lang/Long", "<init>", "(J)V"⟩ : MethodName) = true := plainFor_of_name (by first | (simp [plainName, overriddenIn]; done) | decide +kernel)
theorem own_ef_bjc (m : MethodId) (o0 : Addr) (j1 : Int64) : entryFrame m #[(.ref o0), (.long j1)] 3 = (mkF m 0 #[.val (.ref o0), .val (.long j1), .second] []) := by first | (simp [entryFrame, mkF, argsToLocals, Value.category]; done) | rfl
set_option maxRecDepth 65536 in
set_option maxHeartbeats 40000000 in
theorem bjc_go {p : Program} {l : Launch} {e : Env} {s : State} {m : MethodId} {args : Array Value} {below : List Frame} {meth : Method} {c : Code} {T : State} {Z : State} {a0 : Array Value} {h : Heap} (X : Stand p l e (⟨2, 0, 0, 32⟩ : Room) s m args below meth c T [] 0 0) (B : Bdy p s m meth c Z a0 "java/lang/Long" "<init>" jdk_35_method_26_code 3 none tables_1) (eT : T.heap = h) (o0 : Addr) (j1 : Int64) (n0 : Nat) (Zs : n0 ≤ h.size) (hE : Exa Z h o0 "java/lang/Long") (f1 : Fld Z h o0 "java/lang/Long" "value" "J" (.long (0 : Int64))) (g0 : n0 ≤ o0) :
    Go p e below s 0 0 (fun v h2 L => v = none ∧ Fr n0 L ∧ Keep h h2 [o0]) (T.setTop (mkF m 0 #[.val (.ref o0), .val (.long j1), .second] [])) := by
  have N := Fr.nil n0
  have K := Keep.refl h [o0]
  refine g_aloadN X B bjc_d0 (pc' := 1) rfl (v := (.ref o0)) rfl rfl ?_
  refine g_special X B eT 0 (y := (⟨"java/lang/Number", "<init>", "()V"⟩ : MethodName)) (argsL := []) (rest := []) (a := o0) rfl (B.w 58 rfl) (B.w 59 rfl) (B.w 62 rfl) (B.w 63 rfl) (by decide) (num_met l Z a0 B.2.2.1 [] h o0) (by decide) (by decide) (by decide) (by decide) rfl (lenOf own_pd1 rfl) rfl (Nat.le_of_eq rfl) bjc_d1 (pc' := 4) rfl (fun T1 v1 L1 X1 Q1 => ?_)
  obtain ⟨rfl, hh1, rfl⟩ := Q1
  rw [List.append_nil] at X1
  show Go p e below s _ _ _ (T1.setTop (mkF m 4 #[.val (.ref o0), .val (.long j1), .second] []))
  refine g_aloadN X1 B bjc_d4 (pc' := 5) rfl (v := (.ref o0)) rfl rfl ?_
  refine g_lloadN X1 B bjc_d5 (pc' := 6) rfl (v := j1) rfl ?_
  refine g_putF X1 B (B.w 65 rfl) Via.refl hh1 f1 hE (Or.inr ⟨B.w 66 rfl, rfl, rfl⟩) (B.w 53 rfl) (ty := .long) (by decide) rfl rfl bjc_d6 (pc' := 9) rfl (fun T2 h2 X2 e2 W2 => ?_)
  have N2 := Fr.snoc X2 N g0
  have E_o0_2 := hE.wr W2
  have F_o0_value_2 := f1.same W2
  have Zs_2 := Nat.le_trans Zs (Keep.of_wr W2).1
  have K_2 := K.wr W2 (Or.inl (List.mem_of_getElem? (i := 0) rfl))
  exact g_ret0 X2 B rfl bjc_d9 (by decide) (by decide) (by rw [e2]; exact ⟨rfl, N2, K_2⟩)
theorem bjc_met (l : Launch) (Z : State) (a0 : Array Value) (hw : ∀ d ∈ tables_1, d.before a0 Z = true) (ws : List Jvm.Cond) (h : Heap) (o0 : Addr) (j1 : Int64) (n0 : Nat) (Zs : n0 ≤ h.size) (hE : Exa Z h o0 "java/lang/Long") (f1 : Fld Z h o0 "java/lang/Long" "value" "J" (.long (0 : Int64))) (g0 : n0 ≤ o0) :
    Met l Z (⟨"java/lang/Long", "<init>", "(J)V"⟩ : MethodName) jdk_35_method_26_code 3 none ws (⟨2, 0, 0, 32⟩ : Room) #[(.ref o0), (.long j1)] h (fun v h2 L => v = none ∧ Fr n0 L ∧ Keep h h2 [o0]) :=
  met_of own_pn_bjc hw fun p e s m below meth c T X B eT => Go.top (own_ef_bjc m o0 j1) (bjc_go X B eT o0 j1 n0 Zs hE f1 g0)
theorem bjv_d0 : decode jdk_35_method_24_code 0 = .ok (.sipush 128, 3) := by decide +kernel
theorem bjv_d3 : decode jdk_35_method_24_code 3 = .ok (.istore_n 2, 1) := by decide +kernel
theorem bjv_d4 : decode jdk_35_method_24_code 4 = .ok (.lload_n 0, 1) := by decide +kernel
theorem bjv_d5 : decode jdk_35_method_24_code 5 = .ok (.ldc2_w 230, 3) := by decide +kernel
theorem bjv_d8 : decode jdk_35_method_24_code 8 = .ok (.lcmp, 1) := by decide +kernel
theorem bjv_d9 : decode jdk_35_method_24_code 9 = .ok (.ifCond .lt 22, 3) := by decide +kernel
theorem bjv_d12 : decode jdk_35_method_24_code 12 = .ok (.lload_n 0, 1) := by decide +kernel
theorem bjv_d13 : decode jdk_35_method_24_code 13 = .ok (.ldc2_w 232, 3) := by decide +kernel
theorem bjv_d16 : decode jdk_35_method_24_code 16 = .ok (.lcmp, 1) := by decide +kernel
theorem bjv_d17 : decode jdk_35_method_24_code 17 = .ok (.ifCond .gt 14, 3) := by decide +kernel
theorem bjv_d20 : decode jdk_35_method_24_code 20 = .ok (.getstatic 234, 3) := by decide +kernel
theorem bjv_d23 : decode jdk_35_method_24_code 23 = .ok (.lload_n 0, 1) := by decide +kernel
theorem bjv_d24 : decode jdk_35_method_24_code 24 = .ok (.l2i, 1) := by decide +kernel
theorem bjv_d25 : decode jdk_35_method_24_code 25 = .ok (.sipush 128, 3) := by decide +kernel
theorem bjv_d28 : decode jdk_35_method_24_code 28 = .ok (.iadd, 1) := by decide +kernel
theorem bjv_d29 : decode jdk_35_method_24_code 29 = .ok (.aaload, 1) := by decide +kernel
theorem bjv_d30 : decode jdk_35_method_24_code 30 = .ok (.areturn, 1) := by decide +kernel
theorem bjv_d31 : decode jdk_35_method_24_code 31 = .ok (.new 1, 3) := by decide +kernel
theorem bjv_d34 : decode jdk_35_method_24_code 34 = .ok (.dup, 1) := by decide +kernel
theorem bjv_d35 : decode jdk_35_method_24_code 35 = .ok (.lload_n 0, 1) := by decide +kernel
theorem bjv_d36 : decode jdk_35_method_24_code 36 = .ok (.invokespecial 240, 3) := by decide +kernel
theorem bjv_d39 : decode jdk_35_method_24_code 39 = .ok (.areturn, 1) := by decide +kernel
theorem own_pn_bjv : plainFor (⟨"java/lang/Long", "valueOf", "(J)Ljava/lang/Long;"⟩ : MethodName) = true := plainFor_of_name (by first | (simp [plainName, overriddenIn]; done) | decide +kernel)
theorem own_ef_bjv (m : MethodId) (j0 : Int64) : entryFrame m #[(.long j0)] 3 = (mkF m 0 #[.val (.long j0), .second, .unset] []) := by first | (simp [entryFrame, mkF, argsToLocals, Value.category]; done) | rfl
set_option maxRecDepth 65536 in
set_option maxHeartbeats 40000000 in
theorem bjv_go {p : Program} {l : Launch} {e : Env} {s : State} {m : MethodId} {args : Array Value} {below : List Frame} {meth : Method} {c : Code} {T : State} {Z : State} {a0 : Array Value} {h : Heap} (X : Stand p l e (⟨3, 1, 1, 64⟩ : Room) s m args below meth c T [] 0 0) (B : Bdy p s m meth c Z a0 "java/lang/Long" "valueOf" jdk_35_method_24_code 3 (some (.object "java/lang/Long")) tables_1) (eT : T.heap = h) (j0 : Int64) (ca : Addr) (cc : Cell) (val : Int32 → Value) (n0 : Nat) (Zs : n0 ≤ h.size) (Sc : Sta Z h "java/lang/Long$LongCache" "cache" "[Ljava/lang/Long;" (.ref ca)) (hB : Bxs Z ca cc "java/lang/Long" "J" (256 : Int32) val) (hO : Ext Z.heap h) :
    Go p e below s 1 1 (fun v h2 L => ∃ a, v = some (.ref a) ∧ Fr n0 L ∧ Keep h h2 [] ∧ Exa Z h2 a "java/lang/Long") (T.setTop (mkF m 0 #[.val (.long j0), .second, .unset] [])) := by
  have N := Fr.nil n0
  have K := Keep.refl h []
  refine g_sipush X B bjv_d0 (pc' := 3) rfl (v := (128 : Int32)) (by decide) ?_
  refine g_istoreN X B bjv_d3 (pc' := 4) rfl (Ls' := #[.val (.long j0), .second, .val (.int (128 : Int32))]) rfl ?_
  refine g_lloadN X B bjv_d4 (pc' := 5) rfl (v := j0) rfl ?_
  refine g_ldc2 X B (B.w 51 rfl) bjv_d5 (pc' := 8) rfl ?_
  refine g_lcmp_lt X B bjv_d8 bjv_d9 (pcT := 31) (pcF := 12) (by decide) rfl rfl (fun c8_0 => ?_) (fun c8_0 => ?_)
  · refine g_new X B (B.w 52 rfl) (B.w 53 rfl) (B.w 49 rfl) eT bjv_d31 (pc' := 34) rfl (by decide) (by decide) (fun T1 h1 ob1 q1 X1 e1 E1 A1 D1 => ?_)
    have G_ob1 : n0 ≤ ob1 := by rw [q1]; exact Zs
    have H_ob1 : h.size ≤ ob1 := by rw [q1]; exact K.1
    have St_cache_1 := Sc.ext E1
    have Zs_1 := Nat.le_trans Zs E1.1
    have K_1 := K.ext E1
    have F_ob1_value : Fld Z h1 ob1 "java/lang/Long" "value" "J" (.long (0 : Int64)) := D1 (Or.inr (B.w 66 rfl)) (ty := .long) (by decide)
    refine g_dup X1 B bjv_d34 (pc' := 35) rfl rfl ?_
    refine g_lloadN X1 B bjv_d35 (pc' := 36) rfl (v := j0) rfl ?_
    refine g_special X1 B e1 1 (y := (⟨"java/lang/Long", "<init>", "(J)V"⟩ : MethodName)) (argsL := [(.long j0)]) (rest := [(.ref ob1)]) (a := ob1) rfl (B.w 54 rfl) (B.w 55 rfl) (B.w 49 rfl) (B.w 57 rfl) (by decide) (bjc_met l Z a0 B.2.2.1 [] h1 ob1 j0 n0 Zs_1 A1 F_ob1_value G_ob1) (by decide) (by decide) (by decide) (by decide) rfl (lenOf own_pd3 rfl) rfl (Nat.le_of_eq rfl) bjv_d36 (pc' := 39) rfl (fun T2 v2 L2 X2 Q2 => ?_)
    obtain ⟨rfl, Nq2, Kq2⟩ := Q2
    have N2 := Fr.app N Nq2
    have E_ob1_2 := A1.keep Kq2
    have Zs_2 := Nat.le_trans Zs_1 Kq2.1
    have K_2 := K_1.trans Kq2 (by intro x hx; simp only [List.mem_cons, List.not_mem_nil, or_false] at hx; subst hx; exact Or.inr H_ob1)
    show Go p e below s _ _ _ (T2.setTop (mkF m 39 #[.val (.long j0), .second, .val (.int (128 : Int32))] [(.ref ob1)]))
    exact g_retA X2 B rfl rfl rfl rfl bjv_d39 (by decide) (by decide) ⟨ob1, rfl, N2, K_2, E_ob1_2⟩
  · refine g_lloadN X B bjv_d12 (pc' := 13) rfl (v := j0) rfl ?_
    refine g_ldc2 X B (B.w 79 rfl) bjv_d13 (pc' := 16) rfl ?_
    refine g_lcmp_gt X B bjv_d16 bjv_d17 (pcT := 31) (pcF := 20) (by decide) rfl rfl (fun c16_1 => ?_) (fun c16_1 => ?_)
    · refine g_new X B (B.w 52 rfl) (B.w 53 rfl) (B.w 49 rfl) eT bjv_d31 (pc' := 34) rfl (by decide) (by decide) (fun T3 h3 ob3 q3 X3 e3 E3 A3 D3 => ?_)
      have G_ob3 : n0 ≤ ob3 := by rw [q3]; exact Zs
      have H_ob3 : h.size ≤ ob3 := by rw [q3]; exact K.1
      have St_cache_3 := Sc.ext E3
      have Zs_3 := Nat.le_trans Zs E3.1
      have K_3 := K.ext E3
      have F_ob3_value : Fld Z h3 ob3 "java/lang/Long" "value" "J" (.long (0 : Int64)) := D3 (Or.inr (B.w 66 rfl)) (ty := .long) (by decide)
      refine g_dup X3 B bjv_d34 (pc' := 35) rfl rfl ?_
      refine g_lloadN X3 B bjv_d35 (pc' := 36) rfl (v := j0) rfl ?_
      refine g_special X3 B e3 1 (y := (⟨"java/lang/Long", "<init>", "(J)V"⟩ : MethodName)) (argsL := [(.long j0)]) (rest := [(.ref ob3)]) (a := ob3) rfl (B.w 54 rfl) (B.w 55 rfl) (B.w 49 rfl) (B.w 57 rfl) (by decide) (bjc_met l Z a0 B.2.2.1 [] h3 ob3 j0 n0 Zs_3 A3 F_ob3_value G_ob3) (by decide) (by decide) (by decide) (by decide) rfl (lenOf own_pd3 rfl) rfl (Nat.le_of_eq rfl) bjv_d36 (pc' := 39) rfl (fun T4 v4 L4 X4 Q4 => ?_)
      obtain ⟨rfl, Nq4, Kq4⟩ := Q4
      have N4 := Fr.app N Nq4
      have E_ob3_4 := A3.keep Kq4
      have Zs_4 := Nat.le_trans Zs_3 Kq4.1
      have K_4 := K_3.trans Kq4 (by intro x hx; simp only [List.mem_cons, List.not_mem_nil, or_false] at hx; subst hx; exact Or.inr H_ob3)
      show Go p e below s _ _ _ (T4.setTop (mkF m 39 #[.val (.long j0), .second, .val (.int (128 : Int32))] [(.ref ob3)]))
      exact g_retA X4 B rfl rfl rfl rfl bjv_d39 (by decide) (by decide) ⟨ob3, rfl, N4, K_4, E_ob3_4⟩
    · refine g_getS X B (B.w 80 rfl) Via.refl eT Sc bjv_d20 (pc' := 23) rfl (fun T5 X5 e5 => ?_)
      refine g_lloadN X5 B bjv_d23 (pc' := 24) rfl (v := j0) rfl ?_
      refine g_l2i X5 B bjv_d24 (pc' := 25) rfl ?_
      refine g_sipush X5 B bjv_d25 (pc' := 28) rfl (v := (128 : Int32)) (by decide) ?_
      refine g_iadd X5 B bjv_d28 (pc' := 29) rfl ?_
      have hix : ¬ (j0.toInt32 + (128 : Int32) < 0 ∨ cc.slots.size ≤ (j0.toInt32 + (128 : Int32)).toNatClampNeg) := by
        rw [hB.2.1]; have q := c_l2i j0; have r1 := j0.toInt32.toInt_lt; have r2 := j0.toInt32.le_toInt
        rw [Int64.lt_iff_toInt_lt, own_lm128] at c8_0; rw [Int64.lt_iff_toInt_lt, own_l127] at c16_1
        exact own_ix (by omega) (by omega)
      obtain ⟨bx, hb1, hb2, -⟩ := hB.2.2.2 ((j0.toInt32) + (128 : Int32)) hix
      have hbE := hb2.ext hO
      refine g_aaload X5 B e5 (hB.1.ext hO) hix hb1 bjv_d29 (pc' := 30) rfl ?_
      exact g_retA X5 B rfl rfl rfl rfl bjv_d30 (by decide) (by decide) (by rw [e5]; exact ⟨bx, rfl, N, K, hbE⟩)
theorem bjv_met (l : Launch) (Z : State) (a0 : Array Value) (hw : ∀ d ∈ tables_1, d.before a0 Z = true) (ws : List Jvm.Cond) (h : Heap) (j0 : Int64) (ca : Addr) (cc : Cell) (val : Int32 → Value) (n0 : Nat) (Zs : n0 ≤ h.size) (Sc : Sta Z h "java/lang/Long$LongCache" "cache" "[Ljava/lang/Long;" (.ref ca)) (hB : Bxs Z ca cc "java/lang/Long" "J" (256 : Int32) val) (hO : Ext Z.heap h) :
    Met l Z (⟨"java/lang/Long", "valueOf", "(J)Ljava/lang/Long;"⟩ : MethodName) jdk_35_method_24_code 3 (some (.object "java/lang/Long")) ws (⟨3, 1, 1, 64⟩ : Room) #[(.long j0)] h (fun v h2 L => ∃ a, v = some (.ref a) ∧ Fr n0 L ∧ Keep h h2 [] ∧ Exa Z h2 a "java/lang/Long") :=
  met_of own_pn_bjv hw fun p e s m below meth c T X B eT => Go.top (own_ef_bjv m j0) (bjv_go X B eT j0 ca cc val n0 Zs Sc hB hO)
theorem own_pes (a b c d : Int64) : own_pe c d a b = own_pe a b c d := by
  unfold own_pe
  by_cases q1 : a = c
  · by_cases q2 : b = d
    · rw [if_pos q1, if_pos q1.symm, if_pos q2, if_pos q2.symm]
    · rw [if_pos q1, if_pos q1.symm, if_neg q2, if_neg (Ne.symm q2)]
  · rw [if_neg q1, if_neg (Ne.symm q1)]
set_option maxRecDepth 65536 in
set_option maxHeartbeats 40000000 in
theorem law_s156 {p : Program} {l : Launch} {e : Env} {s : State} {m : MethodId} {args : Array Value} {below : List Frame} {meth : Method} {c : Code} {T : State} {Z : State} {a0 : Array Value} {h : Heap} {locs : List Loc} (X : Stand p l e room_1 s m args below meth c T locs 4 8) (B : Bdy p s m meth c Z a0 "com/example/razione/razione/rating/PeriodEqualsPinLaw" "law" code 17 (some .boolean) tables_1) (eT : T.heap = h) (n0 : Nat) (Zs : n0 ≤ h.size) (N : Fr n0 locs) (j0 : Int64) (j2 : Int64) (j4 : Int64) (j6 : Int64) (i8 : Int32) (o9 : Addr) (o10 : Addr) (i11 : Int32) (o12 : Addr) (o13 : Addr) (i14 : Int32) (x0 : Int64) (y0 : Int64) (x1 : Int64) (y1 : Int64) (cI : Addr) (ccI : Cell) (valI : Int32 → Value) (cL : Addr) (ccL : Cell) (valL : Int32 → Value) (hEp : Exa Z h o10 "com/example/razione/razione/rating/Period") (hEq : Exa Z h o13 "com/example/razione/razione/rating/Period") (Fp1 : Fld Z h o10 "com/example/razione/razione/rating/Period" "start" "J" (.long x0)) (Fp2 : Fld Z h o10 "com/example/razione/razione/rating/Period" "end" "J" (.long y0)) (Fq1 : Fld Z h o13 "com/example/razione/razione/rating/Period" "start" "J" (.long x1)) (Fq2 : Fld Z h o13 "com/example/razione/razione/rating/Period" "end" "J" (.long y1)) (Va : Ax Z h o9 .long 2 (fun j => if j = 1 then .long y0 else (fun j => if j = 0 then .long x0 else (fun _ => .long (0 : Int64)) j) j)) (hs : i14 = own_pe x0 y0 x1 y1) (hn0 : Z.heap.size ≤ n0) (hO : Ext Z.heap h) (Sh : Sta Z Z.heap "java/lang/Integer$IntegerCache" "high" "I" (.int (127 : Int32))) (SI : Sta Z Z.heap "java/lang/Integer$IntegerCache" "cache" "[Ljava/lang/Integer;" (.ref cI)) (BI : Bxs Z cI ccI "java/lang/Integer" "I" (256 : Int32) valI) (SL : Sta Z Z.heap "java/lang/Long$LongCache" "cache" "[Ljava/lang/Long;" (.ref cL)) (BL : Bxs Z cL ccL "java/lang/Long" "J" (256 : Int32) valL) :
    Go p e below s room_1.cells room_1.slots (fun v _ L => v = some (.int 1) ∧ Fr n0 L) (T.setTop (mkF m 156 #[.val (.long j0), .second, .val (.long j2), .second, .val (.long j4), .second, .val (.long j6), .second, .val (.int i8), .val (.ref o9), .val (.ref o10), .val (.int i11), .val (.ref o12), .val (.ref o13), .val (.int i14), .unset, .unset] [])) := by
  refine g_iload X B at_156 (pc' := 158) rfl (v := i8) rfl ?_
  refine g_iconst X B at_158 (pc' := 159) rfl (v := (2 : Int32)) (by decide) ?_
  refine g_iushr X B at_159 (pc' := 160) rfl (z := ((i8.toUInt32 >>> ((2 : Int32) &&& 31).toUInt32).toInt32)) rfl ?_
  refine g_iconst X B at_160 (pc' := 161) rfl (v := (3 : Int32)) (by decide) ?_
  refine g_iand X B at_161 (pc' := 162) rfl ?_
  refine g_istore X B at_162 (pc' := 164) rfl (Ls' := #[.val (.long j0), .second, .val (.long j2), .second, .val (.long j4), .second, .val (.long j6), .second, .val (.int i8), .val (.ref o9), .val (.ref o10), .val (.int i11), .val (.ref o12), .val (.ref o13), .val (.int i14), .val (.int (((i8.toUInt32 >>> ((2 : Int32) &&& 31).toUInt32).toInt32) &&& (3 : Int32))), .unset]) rfl ?_
  refine g_iload X B at_164 (pc' := 166) rfl (v := (((i8.toUInt32 >>> ((2 : Int32) &&& 31).toUInt32).toInt32) &&& (3 : Int32))) rfl ?_
  refine g_if_ne X B at_166 (pcT := 213) (pcF := 169) (by decide) rfl rfl (fun c166_0 => ?_) (fun c166_0 => ?_)
  · refine g_aload X B at_169 (pc' := 171) rfl (v := (.ref o13)) rfl rfl ?_
    refine g_astore X B at_171 (pc' := 173) rfl rfl (Ls' := #[.val (.long j0), .second, .val (.long j2), .second, .val (.long j4), .second, .val (.long j6), .second, .val (.int i8), .val (.ref o9), .val (.ref o10), .val (.int i11), .val (.ref o12), .val (.ref o13), .val (.int i14), .val (.int (((i8.toUInt32 >>> ((2 : Int32) &&& 31).toUInt32).toInt32) &&& (3 : Int32))), .val (.ref o13)]) rfl ?_
    refine g_aload X B at_173 (pc' := 175) rfl (v := (.ref o10)) rfl rfl ?_
    refine g_aload X B at_175 (pc' := 177) rfl (v := (.ref o13)) rfl rfl ?_
    refine g_virtual X B eT 0 hEp (y := (⟨"com/example/razione/razione/rating/Period", "equals", "(Ljava/lang/Object;)Z"⟩ : MethodName)) (argsL := [(.ref o13)]) (rest := []) (a := o10) (B.w 30 rfl) (B.w 31 rfl) (B.w 33 rfl) (B.w 32 rfl) (B.w 14 rfl) (B.w 34 rfl) (by decide) (eqP_met l Z a0 B.2.2.1 [] h o10 o13 x0 y0 x1 y1 hEq Fp1 Fp2 Fq1 Fq2) (by decide) (by decide) (by decide) (by decide) rfl (lenOf own_pd4 rfl) rfl (Nat.le_of_eq rfl) at_177 (pc' := 180) rfl (fun T1 v1 L1 X1 Q1 => ?_)
    obtain ⟨rfl, hh1, rfl⟩ := Q1
    rw [List.append_nil] at X1
    show Go p e below s _ _ _ (T1.setTop (mkF m 180 #[.val (.long j0), .second, .val (.long j2), .second, .val (.long j4), .second, .val (.long j6), .second, .val (.int i8), .val (.ref o9), .val (.ref o10), .val (.int i11), .val (.ref o12), .val (.ref o13), .val (.int i14), .val (.int (((i8.toUInt32 >>> ((2 : Int32) &&& 31).toUInt32).toInt32) &&& (3 : Int32))), .val (.ref o13)] [(.int (own_pe x0 y0 x1 y1))]))
    refine g_iload X1 B at_180 (pc' := 182) rfl (v := i14) rfl ?_
    refine g_icmp_ne X1 B at_182 (pcT := 211) (pcF := 185) (by decide) rfl rfl (fun c182_1 => ?_) (fun c182_1 => ?_)
    · refine g_aload X1 B at_185 (pc' := 187) rfl (v := (.ref o13)) rfl rfl ?_
      refine g_aload X1 B at_187 (pc' := 189) rfl (v := (.ref o10)) rfl rfl ?_
      refine g_virtual X1 B hh1 0 hEq (y := (⟨"com/example/razione/razione/rating/Period", "equals", "(Ljava/lang/Object;)Z"⟩ : MethodName)) (argsL := [(.ref o10)]) (rest := []) (a := o13) (B.w 30 rfl) (B.w 31 rfl) (B.w 33 rfl) (B.w 32 rfl) (B.w 14 rfl) (B.w 34 rfl) (by decide) (eqP_met l Z a0 B.2.2.1 [] h o13 o10 x1 y1 x0 y0 hEp Fq1 Fq2 Fp1 Fp2) (by decide) (by decide) (by decide) (by decide) rfl (lenOf own_pd4 rfl) rfl (Nat.le_of_eq rfl) at_189 (pc' := 192) rfl (fun T2 v2 L2 X2 Q2 => ?_)
      obtain ⟨rfl, hh2, rfl⟩ := Q2
      rw [List.append_nil] at X2
      show Go p e below s _ _ _ (T2.setTop (mkF m 192 #[.val (.long j0), .second, .val (.long j2), .second, .val (.long j4), .second, .val (.long j6), .second, .val (.int i8), .val (.ref o9), .val (.ref o10), .val (.int i11), .val (.ref o12), .val (.ref o13), .val (.int i14), .val (.int (((i8.toUInt32 >>> ((2 : Int32) &&& 31).toUInt32).toInt32) &&& (3 : Int32))), .val (.ref o13)] [(.int (own_pe x1 y1 x0 y0))]))
      refine g_iload X2 B at_192 (pc' := 194) rfl (v := i14) rfl ?_
      refine g_icmp_ne X2 B at_194 (pcT := 211) (pcF := 197) (by decide) rfl rfl (fun c194_2 => ?_) (fun c194_2 => ?_)
      · refine g_aload X2 B at_197 (pc' := 199) rfl (v := (.ref o10)) rfl rfl ?_
        refine g_aload X2 B at_199 (pc' := 201) rfl (v := (.ref o10)) rfl rfl ?_
        refine g_virtual X2 B hh2 0 hEp (y := (⟨"com/example/razione/razione/rating/Period", "equals", "(Ljava/lang/Object;)Z"⟩ : MethodName)) (argsL := [(.ref o10)]) (rest := []) (a := o10) (B.w 30 rfl) (B.w 31 rfl) (B.w 33 rfl) (B.w 32 rfl) (B.w 14 rfl) (B.w 34 rfl) (by decide) (eqP_met l Z a0 B.2.2.1 [] h o10 o10 x0 y0 x0 y0 hEp Fp1 Fp2 Fp1 Fp2) (by decide) (by decide) (by decide) (by decide) rfl (lenOf own_pd4 rfl) rfl (Nat.le_of_eq rfl) at_201 (pc' := 204) rfl (fun T3 v3 L3 X3 Q3 => ?_)
        obtain ⟨rfl, hh3, rfl⟩ := Q3
        rw [List.append_nil] at X3
        show Go p e below s _ _ _ (T3.setTop (mkF m 204 #[.val (.long j0), .second, .val (.long j2), .second, .val (.long j4), .second, .val (.long j6), .second, .val (.int i8), .val (.ref o9), .val (.ref o10), .val (.int i11), .val (.ref o12), .val (.ref o13), .val (.int i14), .val (.int (((i8.toUInt32 >>> ((2 : Int32) &&& 31).toUInt32).toInt32) &&& (3 : Int32))), .val (.ref o13)] [(.int (own_pe x0 y0 x0 y0))]))
        refine g_if_eq X3 B at_204 (pcT := 211) (pcF := 207) (by decide) rfl rfl (fun c204_3 => ?_) (fun c204_3 => ?_)
        · exact absurd c204_3 (by rw [own_pe, if_pos rfl, if_pos rfl]; decide)
        · refine g_iconst X3 B at_207 (pc' := 208) rfl (v := (1 : Int32)) (by decide) ?_
          refine g_goto X3 B at_208 (pc' := 212) (by decide) rfl ?_
          exact g_retN X3 B (t := .boolean) rfl (by simp) at_212 (by decide) (by decide) ⟨congrArg (fun z => some (Value.int z)) (by decide : nar .boolean (1 : Int32) = 1), N⟩
      · exact absurd ((own_pes _ _ _ _).trans hs.symm) c194_2
    · exact absurd hs.symm c182_1
  · refine g_iload X B at_213 (pc' := 215) rfl (v := (((i8.toUInt32 >>> ((2 : Int32) &&& 31).toUInt32).toInt32) &&& (3 : Int32))) rfl ?_
    refine g_iconst X B at_215 (pc' := 216) rfl (v := (1 : Int32)) (by decide) ?_
    refine g_icmp_ne X B at_216 (pcT := 234) (pcF := 219) (by decide) rfl rfl (fun c216_1 => ?_) (fun c216_1 => ?_)
    · refine g_aload X B at_219 (pc' := 221) rfl (v := (.ref o10)) rfl rfl ?_
      refine g_null X B at_221 (pc' := 222) rfl ?_
      refine g_virtual X B eT 0 hEp (y := (⟨"com/example/razione/razione/rating/Period", "equals", "(Ljava/lang/Object;)Z"⟩ : MethodName)) (argsL := [.null]) (rest := []) (a := o10) (B.w 30 rfl) (B.w 31 rfl) (B.w 33 rfl) (B.w 32 rfl) (B.w 14 rfl) (B.w 34 rfl) (by decide) (eqN_met l Z a0 B.2.2.1 [] h o10) (by decide) (by decide) (by decide) (by decide) rfl (lenOf own_pd4 rfl) rfl (Nat.le_of_eq rfl) at_222 (pc' := 225) rfl (fun T4 v4 L4 X4 Q4 => ?_)
      obtain ⟨rfl, hh4, rfl⟩ := Q4
      rw [List.append_nil] at X4
      show Go p e below s _ _ _ (T4.setTop (mkF m 225 #[.val (.long j0), .second, .val (.long j2), .second, .val (.long j4), .second, .val (.long j6), .second, .val (.int i8), .val (.ref o9), .val (.ref o10), .val (.int i11), .val (.ref o12), .val (.ref o13), .val (.int i14), .val (.int (((i8.toUInt32 >>> ((2 : Int32) &&& 31).toUInt32).toInt32) &&& (3 : Int32))), .unset] [(.int (0 : Int32))]))
      refine g_if_ne X4 B at_225 (pcT := 232) (pcF := 228) (by decide) rfl rfl (fun c225_2 => ?_) (fun c225_2 => ?_)
      · refine g_iconst X4 B at_228 (pc' := 229) rfl (v := (1 : Int32)) (by decide) ?_
        refine g_goto X4 B at_229 (pc' := 233) (by decide) rfl ?_
        exact g_retN X4 B (t := .boolean) rfl (by simp) at_233 (by decide) (by decide) ⟨congrArg (fun z => some (Value.int z)) (by decide : nar .boolean (1 : Int32) = 1), N⟩
      · exact absurd rfl c225_2
    · refine g_iload X B at_234 (pc' := 236) rfl (v := (((i8.toUInt32 >>> ((2 : Int32) &&& 31).toUInt32).toInt32) &&& (3 : Int32))) rfl ?_
      refine g_iconst X B at_236 (pc' := 237) rfl (v := (2 : Int32)) (by decide) ?_
      refine g_icmp_ne X B at_237 (pcT := 261) (pcF := 240) (by decide) rfl rfl (fun c237_2 => ?_) (fun c237_2 => ?_)
      · refine g_aload X B at_240 (pc' := 242) rfl (v := (.ref o10)) rfl rfl ?_
        refine g_aload X B at_242 (pc' := 244) rfl (v := (.ref o9)) rfl rfl ?_
        refine g_iconst X B at_244 (pc' := 245) rfl (v := (0 : Int32)) (by decide) ?_
        refine g_laload X B 0 eT Va (by decide) (by decide) (v := (.long x0)) rfl at_245 (pc' := 246) rfl ?_
        refine g_callS X B eT 1 (y := (⟨"java/lang/Long", "valueOf", "(J)Ljava/lang/Long;"⟩ : MethodName)) (argsL := [(.long x0)]) (rest := [(.ref o10)]) (B.w 47 rfl) (B.w 48 rfl) (B.w 49 rfl) (B.w 50 rfl) (by decide) (bjv_met l Z a0 B.2.2.1 [] h x0 cL ccL valL n0 Zs (SL.ext hO) BL hO) (by decide) (by decide) (by decide) (by decide) rfl (lenOf own_pd5 rfl) rfl (Nat.le_of_eq rfl) at_246 (pc' := 249) rfl (fun T5 v5 L5 X5 Q5 => ?_)
        obtain ⟨bx5, rfl, Nq5, Kq5, Eb5⟩ := Q5
        have N5 := Fr.app N Nq5
        have E_o10_5 := hEp.keep Kq5
        have F_o10_start_5 := Fp1.keep Kq5 (by simp)
        have F_o10_end_5 := Fp2.keep Kq5 (by simp)
        have E_o13_5 := hEq.keep Kq5
        have F_o13_start_5 := Fq1.keep Kq5 (by simp)
        have F_o13_end_5 := Fq2.keep Kq5 (by simp)
        have A_o9_5 := Va.keep Kq5 (by simp)
        have Zs_5 := Nat.le_trans Zs Kq5.1
        have O_5 := own_old_keep hO Kq5 (by intro x hx; cases hx)
        show Go p e below s _ _ _ (T5.setTop (mkF m 249 #[.val (.long j0), .second, .val (.long j2), .second, .val (.long j4), .second, .val (.long j6), .second, .val (.int i8), .val (.ref o9), .val (.ref o10), .val (.int i11), .val (.ref o12), .val (.ref o13), .val (.int i14), .val (.int (((i8.toUInt32 >>> ((2 : Int32) &&& 31).toUInt32).toInt32) &&& (3 : Int32))), .unset] [(.ref bx5), (.ref o10)]))
        refine g_virtual X5 B rfl 0 E_o10_5 (y := (⟨"com/example/razione/razione/rating/Period", "equals", "(Ljava/lang/Object;)Z"⟩ : MethodName)) (argsL := [(.ref bx5)]) (rest := []) (a := o10) (B.w 30 rfl) (B.w 31 rfl) (B.w 33 rfl) (B.w 32 rfl) (B.w 14 rfl) (B.w 34 rfl) (by decide) (eqX_met l Z a0 B.2.2.1 [] T5.heap o10 bx5 "java/lang/Long" Eb5 (own_no (B.w 67 rfl) (B.w 13 rfl) (NS.step (B.w 67 rfl) (NS.step (B.w 45 rfl) (own_root (B.w 46 rfl) (B.w 13 rfl) (by decide)) (by decide)) (by decide)) (by decide))) (by decide) (by decide) (by decide) (by decide) rfl (lenOf own_pd4 rfl) rfl (Nat.le_of_eq rfl) at_249 (pc' := 252) rfl (fun T6 v6 L6 X6 Q6 => ?_)
        obtain ⟨rfl, hh6, rfl⟩ := Q6
        rw [List.append_nil] at X6
        show Go p e below s _ _ _ (T6.setTop (mkF m 252 #[.val (.long j0), .second, .val (.long j2), .second, .val (.long j4), .second, .val (.long j6), .second, .val (.int i8), .val (.ref o9), .val (.ref o10), .val (.int i11), .val (.ref o12), .val (.ref o13), .val (.int i14), .val (.int (((i8.toUInt32 >>> ((2 : Int32) &&& 31).toUInt32).toInt32) &&& (3 : Int32))), .unset] [(.int (0 : Int32))]))
        refine g_if_ne X6 B at_252 (pcT := 259) (pcF := 255) (by decide) rfl rfl (fun c252_3 => ?_) (fun c252_3 => ?_)
        · refine g_iconst X6 B at_255 (pc' := 256) rfl (v := (1 : Int32)) (by decide) ?_
          refine g_goto X6 B at_256 (pc' := 260) (by decide) rfl ?_
          exact g_retN X6 B (t := .boolean) rfl (by simp) at_260 (by decide) (by decide) ⟨congrArg (fun z => some (Value.int z)) (by decide : nar .boolean (1 : Int32) = 1), N5⟩
        · exact absurd rfl c252_3
      · refine g_aload X B at_261 (pc' := 263) rfl (v := (.ref o10)) rfl rfl ?_
        refine g_iload X B at_263 (pc' := 265) rfl (v := i8) rfl ?_
        refine g_callS X B eT 1 (y := (⟨"java/lang/Integer", "valueOf", "(I)Ljava/lang/Integer;"⟩ : MethodName)) (argsL := [(.int i8)]) (rest := [(.ref o10)]) (B.w 37 rfl) (B.w 38 rfl) (B.w 39 rfl) (B.w 40 rfl) (by decide) (biv_met l Z a0 B.2.2.1 [] h i8 cI ccI valI n0 Zs (Sh.ext hO) (SI.ext hO) BI hO) (by decide) (by decide) (by decide) (by decide) rfl (lenOf own_pd6 rfl) rfl (Nat.le_of_eq rfl) at_265 (pc' := 268) rfl (fun T7 v7 L7 X7 Q7 => ?_)
        obtain ⟨bx7, rfl, Nq7, Kq7, Eb7⟩ := Q7
        have N7 := Fr.app N Nq7
        have E_o10_7 := hEp.keep Kq7
        have F_o10_start_7 := Fp1.keep Kq7 (by simp)
        have F_o10_end_7 := Fp2.keep Kq7 (by simp)
        have E_o13_7 := hEq.keep Kq7
        have F_o13_start_7 := Fq1.keep Kq7 (by simp)
        have F_o13_end_7 := Fq2.keep Kq7 (by simp)
        have A_o9_7 := Va.keep Kq7 (by simp)
        have Zs_7 := Nat.le_trans Zs Kq7.1
        have O_7 := own_old_keep hO Kq7 (by intro x hx; cases hx)
        show Go p e below s _ _ _ (T7.setTop (mkF m 268 #[.val (.long j0), .second, .val (.long j2), .second, .val (.long j4), .second, .val (.long j6), .second, .val (.int i8), .val (.ref o9), .val (.ref o10), .val (.int i11), .val (.ref o12), .val (.ref o13), .val (.int i14), .val (.int (((i8.toUInt32 >>> ((2 : Int32) &&& 31).toUInt32).toInt32) &&& (3 : Int32))), .unset] [(.ref bx7), (.ref o10)]))
        refine g_virtual X7 B rfl 0 E_o10_7 (y := (⟨"com/example/razione/razione/rating/Period", "equals", "(Ljava/lang/Object;)Z"⟩ : MethodName)) (argsL := [(.ref bx7)]) (rest := []) (a := o10) (B.w 30 rfl) (B.w 31 rfl) (B.w 33 rfl) (B.w 32 rfl) (B.w 14 rfl) (B.w 34 rfl) (by decide) (eqX_met l Z a0 B.2.2.1 [] T7.heap o10 bx7 "java/lang/Integer" Eb7 (own_no (B.w 44 rfl) (B.w 13 rfl) (NS.step (B.w 44 rfl) (NS.step (B.w 45 rfl) (own_root (B.w 46 rfl) (B.w 13 rfl) (by decide)) (by decide)) (by decide)) (by decide))) (by decide) (by decide) (by decide) (by decide) rfl (lenOf own_pd4 rfl) rfl (Nat.le_of_eq rfl) at_268 (pc' := 271) rfl (fun T8 v8 L8 X8 Q8 => ?_)
        obtain ⟨rfl, hh8, rfl⟩ := Q8
        rw [List.append_nil] at X8
        show Go p e below s _ _ _ (T8.setTop (mkF m 271 #[.val (.long j0), .second, .val (.long j2), .second, .val (.long j4), .second, .val (.long j6), .second, .val (.int i8), .val (.ref o9), .val (.ref o10), .val (.int i11), .val (.ref o12), .val (.ref o13), .val (.int i14), .val (.int (((i8.toUInt32 >>> ((2 : Int32) &&& 31).toUInt32).toInt32) &&& (3 : Int32))), .unset] [(.int (0 : Int32))]))
        refine g_if_ne X8 B at_271 (pcT := 290) (pcF := 274) (by decide) rfl rfl (fun c271_3 => ?_) (fun c271_3 => ?_)
        · refine g_aload X8 B at_274 (pc' := 276) rfl (v := (.ref o10)) rfl rfl ?_
          refine g_aload X8 B at_276 (pc' := 278) rfl (v := (.ref o13)) rfl rfl ?_
          refine g_virtual X8 B hh8 0 E_o10_7 (y := (⟨"com/example/razione/razione/rating/Period", "equals", "(Ljava/lang/Object;)Z"⟩ : MethodName)) (argsL := [(.ref o13)]) (rest := []) (a := o10) (B.w 30 rfl) (B.w 31 rfl) (B.w 33 rfl) (B.w 32 rfl) (B.w 14 rfl) (B.w 34 rfl) (by decide) (eqP_met l Z a0 B.2.2.1 [] T7.heap o10 o13 x0 y0 x1 y1 E_o13_7 F_o10_start_7 F_o10_end_7 F_o13_start_7 F_o13_end_7) (by decide) (by decide) (by decide) (by decide) rfl (lenOf own_pd4 rfl) rfl (Nat.le_of_eq rfl) at_278 (pc' := 281) rfl (fun T9 v9 L9 X9 Q9 => ?_)
          obtain ⟨rfl, hh9, rfl⟩ := Q9
          rw [List.append_nil] at X9
          show Go p e below s _ _ _ (T9.setTop (mkF m 281 #[.val (.long j0), .second, .val (.long j2), .second, .val (.long j4), .second, .val (.long j6), .second, .val (.int i8), .val (.ref o9), .val (.ref o10), .val (.int i11), .val (.ref o12), .val (.ref o13), .val (.int i14), .val (.int (((i8.toUInt32 >>> ((2 : Int32) &&& 31).toUInt32).toInt32) &&& (3 : Int32))), .unset] [(.int (own_pe x0 y0 x1 y1))]))
          refine g_iload X9 B at_281 (pc' := 283) rfl (v := i14) rfl ?_
          refine g_icmp_ne X9 B at_283 (pcT := 290) (pcF := 286) (by decide) rfl rfl (fun c283_4 => ?_) (fun c283_4 => ?_)
          · refine g_iconst X9 B at_286 (pc' := 287) rfl (v := (1 : Int32)) (by decide) ?_
            refine g_goto X9 B at_287 (pc' := 291) (by decide) rfl ?_
            exact g_retN X9 B (t := .boolean) rfl (by simp) at_291 (by decide) (by decide) ⟨congrArg (fun z => some (Value.int z)) (by decide : nar .boolean (1 : Int32) = 1), N7⟩
          · exact absurd hs.symm c283_4
        · exact absurd rfl c271_3
set_option maxRecDepth 65536 in
set_option maxHeartbeats 40000000 in
theorem law_s108 {p : Program} {l : Launch} {e : Env} {s : State} {m : MethodId} {args : Array Value} {below : List Frame} {meth : Method} {c : Code} {T : State} {Z : State} {a0 : Array Value} {h : Heap} {locs : List Loc} (X : Stand p l e room_1 s m args below meth c T locs 3 6) (B : Bdy p s m meth c Z a0 "com/example/razione/razione/rating/PeriodEqualsPinLaw" "law" code 17 (some .boolean) tables_1) (eT : T.heap = h) (n0 : Nat) (Zs : n0 ≤ h.size) (N : Fr n0 locs) (j0 : Int64) (j2 : Int64) (j4 : Int64) (j6 : Int64) (i8 : Int32) (o9 : Addr) (o10 : Addr) (i11 : Int32) (o12 : Addr) (x0 : Int64) (y0 : Int64) (x1 : Int64) (y1 : Int64) (cI : Addr) (ccI : Cell) (valI : Int32 → Value) (cL : Addr) (ccL : Cell) (valL : Int32 → Value) (hEp : Exa Z h o10 "com/example/razione/razione/rating/Period") (Fp1 : Fld Z h o10 "com/example/razione/razione/rating/Period" "start" "J" (.long x0)) (Fp2 : Fld Z h o10 "com/example/razione/razione/rating/Period" "end" "J" (.long y0)) (Va : Ax Z h o9 .long 2 (fun j => if j = 1 then .long y0 else (fun j => if j = 0 then .long x0 else (fun _ => .long (0 : Int64)) j) j)) (Vb : Ax Z h o12 .long 2 (fun j => if j = 1 then .long y1 else (fun j => if j = 0 then .long x1 else (fun _ => .long (0 : Int64)) j) j)) (hl1 : x1 < y1) (hn0 : Z.heap.size ≤ n0) (hO : Ext Z.heap h) (Sh : Sta Z Z.heap "java/lang/Integer$IntegerCache" "high" "I" (.int (127 : Int32))) (SI : Sta Z Z.heap "java/lang/Integer$IntegerCache" "cache" "[Ljava/lang/Integer;" (.ref cI)) (BI : Bxs Z cI ccI "java/lang/Integer" "I" (256 : Int32) valI) (SL : Sta Z Z.heap "java/lang/Long$LongCache" "cache" "[Ljava/lang/Long;" (.ref cL)) (BL : Bxs Z cL ccL "java/lang/Long" "J" (256 : Int32) valL) :
    Go p e below s room_1.cells room_1.slots (fun v _ L => v = some (.int 1) ∧ Fr n0 L) (T.setTop (mkF m 108 #[.val (.long j0), .second, .val (.long j2), .second, .val (.long j4), .second, .val (.long j6), .second, .val (.int i8), .val (.ref o9), .val (.ref o10), .val (.int i11), .val (.ref o12), .unset, .unset, .unset, .unset] [])) := by
  refine g_new X B (B.w 12 rfl) (B.w 13 rfl) (B.w 14 rfl) eT at_108 (pc' := 111) rfl (by decide) (by decide) (fun T10 h10 ob10 q10 X10 e10 E10 A10 D10 => ?_)
  have ne_o10_ob10 : o10 ≠ ob10 := fun q => absurd (hEp.lt) (by rw [q, q10]; exact Nat.lt_irrefl _)
  have ne_o9_ob10 : o9 ≠ ob10 := fun q => absurd (Va.lt) (by rw [q, q10]; exact Nat.lt_irrefl _)
  have ne_o12_ob10 : o12 ≠ ob10 := fun q => absurd (Vb.lt) (by rw [q, q10]; exact Nat.lt_irrefl _)
  have G_ob10 : n0 ≤ ob10 := by rw [q10]; exact Zs
  have E_o10_10 := hEp.ext E10
  have F_o10_start_10 := Fp1.ext E10
  have F_o10_end_10 := Fp2.ext E10
  have A_o9_10 := Va.ext E10
  have A_o12_10 := Vb.ext E10
  have Zs_10 := Nat.le_trans Zs E10.1
  have O_10 := own_old_ext hO E10
  have F_ob10_start : Fld Z h10 ob10 "com/example/razione/razione/rating/Period" "start" "J" (.long (0 : Int64)) := D10 (Or.inr (B.w 27 rfl)) (ty := .long) (by decide)
  have F_ob10_end : Fld Z h10 ob10 "com/example/razione/razione/rating/Period" "end" "J" (.long (0 : Int64)) := D10 (Or.inr (B.w 29 rfl)) (ty := .long) (by decide)
  refine g_dup X10 B at_111 (pc' := 112) rfl rfl ?_
  refine g_aload X10 B at_112 (pc' := 114) rfl (v := (.ref o12)) rfl rfl ?_
  refine g_iconst X10 B at_114 (pc' := 115) rfl (v := (0 : Int32)) (by decide) ?_
  refine g_laload X10 B 0 e10 A_o12_10 (by decide) (by decide) (v := (.long x1)) rfl at_115 (pc' := 116) rfl ?_
  refine g_aload X10 B at_116 (pc' := 118) rfl (v := (.ref o12)) rfl rfl ?_
  refine g_iconst X10 B at_118 (pc' := 119) rfl (v := (1 : Int32)) (by decide) ?_
  refine g_laload X10 B 1 e10 A_o12_10 (by decide) (by decide) (v := (.long y1)) rfl at_119 (pc' := 120) rfl ?_
  refine g_special X10 B e10 1 (y := (⟨"com/example/razione/razione/rating/Period", "<init>", "(JJ)V"⟩ : MethodName)) (argsL := [(.long x1), (.long y1)]) (rest := [(.ref ob10)]) (a := ob10) rfl (B.w 15 rfl) (B.w 16 rfl) (B.w 14 rfl) (B.w 17 rfl) (by decide) (ini_met l Z a0 B.2.2.1 [] h10 ob10 x1 y1 n0 Zs_10 A10 F_ob10_start F_ob10_end G_ob10 hl1) (by decide) (by decide) (by decide) (by decide) rfl (lenOf own_pd7 rfl) rfl (Nat.le_of_eq rfl) at_120 (pc' := 123) rfl (fun T11 v11 L11 X11 Q11 => ?_)
  obtain ⟨rfl, Nq11, Kq11, Fs11, Fe11⟩ := Q11
  have N11 := Fr.app N Nq11
  have E_o10_11 := E_o10_10.keep Kq11
  have F_o10_start_11 := F_o10_start_10.keep Kq11 (by simp only [List.mem_cons, List.not_mem_nil, or_false, not_or]; exact ne_o10_ob10)
  have F_o10_end_11 := F_o10_end_10.keep Kq11 (by simp only [List.mem_cons, List.not_mem_nil, or_false, not_or]; exact ne_o10_ob10)
  have A_o9_11 := A_o9_10.keep Kq11 (by simp only [List.mem_cons, List.not_mem_nil, or_false, not_or]; exact ne_o9_ob10)
  have A_o12_11 := A_o12_10.keep Kq11 (by simp only [List.mem_cons, List.not_mem_nil, or_false, not_or]; exact ne_o12_ob10)
  have E_ob10_11 := A10.keep Kq11
  have Zs_11 := Nat.le_trans Zs_10 Kq11.1
  have O_11 := own_old_keep O_10 Kq11 (by intro x hx; simp only [List.mem_cons, List.not_mem_nil, or_false] at hx; subst hx; exact Nat.le_trans hn0 G_ob10)
  show Go p e below s _ _ _ (T11.setTop (mkF m 123 #[.val (.long j0), .second, .val (.long j2), .second, .val (.long j4), .second, .val (.long j6), .second, .val (.int i8), .val (.ref o9), .val (.ref o10), .val (.int i11), .val (.ref o12), .unset, .unset, .unset, .unset] [(.ref ob10)]))
  refine g_astore X11 B at_123 (pc' := 125) rfl rfl (Ls' := #[.val (.long j0), .second, .val (.long j2), .second, .val (.long j4), .second, .val (.long j6), .second, .val (.int i8), .val (.ref o9), .val (.ref o10), .val (.int i11), .val (.ref o12), .val (.ref ob10), .unset, .unset, .unset]) rfl ?_
  refine g_aload X11 B at_125 (pc' := 127) rfl (v := (.ref o12)) rfl rfl ?_
  refine g_iconst X11 B at_127 (pc' := 128) rfl (v := (0 : Int32)) (by decide) ?_
  refine g_laload X11 B 0 rfl A_o12_11 (by decide) (by decide) (v := (.long x1)) rfl at_128 (pc' := 129) rfl ?_
  refine g_aload X11 B at_129 (pc' := 131) rfl (v := (.ref o9)) rfl rfl ?_
  refine g_iconst X11 B at_131 (pc' := 132) rfl (v := (0 : Int32)) (by decide) ?_
  refine g_laload X11 B 0 rfl A_o9_11 (by decide) (by decide) (v := (.long x0)) rfl at_132 (pc' := 133) rfl ?_
  refine g_lcmp_ne X11 B at_133 at_134 (pcT := 153) (pcF := 137) (by decide) rfl rfl (fun c133_0 => ?_) (fun c133_0 => ?_)
  · refine g_aload X11 B at_137 (pc' := 139) rfl (v := (.ref o12)) rfl rfl ?_
    refine g_iconst X11 B at_139 (pc' := 140) rfl (v := (1 : Int32)) (by decide) ?_
    refine g_laload X11 B 1 rfl A_o12_11 (by decide) (by decide) (v := (.long y1)) rfl at_140 (pc' := 141) rfl ?_
    refine g_aload X11 B at_141 (pc' := 143) rfl (v := (.ref o9)) rfl rfl ?_
    refine g_iconst X11 B at_143 (pc' := 144) rfl (v := (1 : Int32)) (by decide) ?_
    refine g_laload X11 B 1 rfl A_o9_11 (by decide) (by decide) (v := (.long y0)) rfl at_144 (pc' := 145) rfl ?_
    refine g_lcmp_ne X11 B at_145 at_146 (pcT := 153) (pcF := 149) (by decide) rfl rfl (fun c145_1 => ?_) (fun c145_1 => ?_)
    · refine g_iconst X11 B at_149 (pc' := 150) rfl (v := (1 : Int32)) (by decide) ?_
      refine g_goto X11 B at_150 (pc' := 154) (by decide) rfl ?_
      refine g_istore X11 B at_154 (pc' := 156) rfl (Ls' := #[.val (.long j0), .second, .val (.long j2), .second, .val (.long j4), .second, .val (.long j6), .second, .val (.int i8), .val (.ref o9), .val (.ref o10), .val (.int i11), .val (.ref o12), .val (.ref ob10), .val (.int (1 : Int32)), .unset, .unset]) rfl ?_
      exact law_s156 X11 B rfl n0 Zs_11 N11 (j0) (j2) (j4) (j6) (i8) (o9) (o10) (i11) (o12) (ob10) ((1 : Int32)) x0 y0 x1 y1 cI ccI valI cL ccL valL E_o10_11 E_ob10_11 F_o10_start_11 F_o10_end_11 Fs11 Fe11 A_o9_11 (by rw [own_pe, if_pos c133_0.symm, if_pos c145_1.symm]) hn0 O_11 Sh SI BI SL BL
    · refine g_iconst X11 B at_153 (pc' := 154) rfl (v := (0 : Int32)) (by decide) ?_
      refine g_istore X11 B at_154 (pc' := 156) rfl (Ls' := #[.val (.long j0), .second, .val (.long j2), .second, .val (.long j4), .second, .val (.long j6), .second, .val (.int i8), .val (.ref o9), .val (.ref o10), .val (.int i11), .val (.ref o12), .val (.ref ob10), .val (.int (0 : Int32)), .unset, .unset]) rfl ?_
      exact law_s156 X11 B rfl n0 Zs_11 N11 (j0) (j2) (j4) (j6) (i8) (o9) (o10) (i11) (o12) (ob10) ((0 : Int32)) x0 y0 x1 y1 cI ccI valI cL ccL valL E_o10_11 E_ob10_11 F_o10_start_11 F_o10_end_11 Fs11 Fe11 A_o9_11 (by rw [own_pe, if_pos c133_0.symm, if_neg (Ne.symm c145_1)]) hn0 O_11 Sh SI BI SL BL
  · refine g_iconst X11 B at_153 (pc' := 154) rfl (v := (0 : Int32)) (by decide) ?_
    refine g_istore X11 B at_154 (pc' := 156) rfl (Ls' := #[.val (.long j0), .second, .val (.long j2), .second, .val (.long j4), .second, .val (.long j6), .second, .val (.int i8), .val (.ref o9), .val (.ref o10), .val (.int i11), .val (.ref o12), .val (.ref ob10), .val (.int (0 : Int32)), .unset, .unset]) rfl ?_
    exact law_s156 X11 B rfl n0 Zs_11 N11 (j0) (j2) (j4) (j6) (i8) (o9) (o10) (i11) (o12) (ob10) ((0 : Int32)) x0 y0 x1 y1 cI ccI valI cL ccL valL E_o10_11 E_ob10_11 F_o10_start_11 F_o10_end_11 Fs11 Fe11 A_o9_11 (by rw [own_pe, if_neg (Ne.symm c133_0)]) hn0 O_11 Sh SI BI SL BL
set_option maxRecDepth 65536 in
set_option maxHeartbeats 40000000 in
theorem law_s24 {p : Program} {l : Launch} {e : Env} {s : State} {m : MethodId} {args : Array Value} {below : List Frame} {meth : Method} {c : Code} {T : State} {Z : State} {a0 : Array Value} {h : Heap} {locs : List Loc} (X : Stand p l e room_1 s m args below meth c T locs 2 4) (B : Bdy p s m meth c Z a0 "com/example/razione/razione/rating/PeriodEqualsPinLaw" "law" code 17 (some .boolean) tables_1) (eT : T.heap = h) (n0 : Nat) (Zs : n0 ≤ h.size) (N : Fr n0 locs) (j0 : Int64) (j2 : Int64) (j4 : Int64) (j6 : Int64) (i8 : Int32) (o9 : Addr) (o10 : Addr) (x0 : Int64) (y0 : Int64) (cI : Addr) (ccI : Cell) (valI : Int32 → Value) (cL : Addr) (ccL : Cell) (valL : Int32 → Value) (hEp : Exa Z h o10 "com/example/razione/razione/rating/Period") (Fp1 : Fld Z h o10 "com/example/razione/razione/rating/Period" "start" "J" (.long x0)) (Fp2 : Fld Z h o10 "com/example/razione/razione/rating/Period" "end" "J" (.long y0)) (Va : Ax Z h o9 .long 2 (fun j => if j = 1 then .long y0 else (fun j => if j = 0 then .long x0 else (fun _ => .long (0 : Int64)) j) j)) (hl0 : x0 < y0) (hn0 : Z.heap.size ≤ n0) (hO : Ext Z.heap h) (Sh : Sta Z Z.heap "java/lang/Integer$IntegerCache" "high" "I" (.int (127 : Int32))) (SI : Sta Z Z.heap "java/lang/Integer$IntegerCache" "cache" "[Ljava/lang/Integer;" (.ref cI)) (BI : Bxs Z cI ccI "java/lang/Integer" "I" (256 : Int32) valI) (SL : Sta Z Z.heap "java/lang/Long$LongCache" "cache" "[Ljava/lang/Long;" (.ref cL)) (BL : Bxs Z cL ccL "java/lang/Long" "J" (256 : Int32) valL) :
    Go p e below s room_1.cells room_1.slots (fun v _ L => v = some (.int 1) ∧ Fr n0 L) (T.setTop (mkF m 24 #[.val (.long j0), .second, .val (.long j2), .second, .val (.long j4), .second, .val (.long j6), .second, .val (.int i8), .val (.ref o9), .val (.ref o10), .unset, .unset, .unset, .unset, .unset, .unset] [])) := by
  refine g_iload X B at_24 (pc' := 26) rfl (v := i8) rfl ?_
  refine g_iconst X B at_26 (pc' := 27) rfl (v := (3 : Int32)) (by decide) ?_
  refine g_iand X B at_27 (pc' := 28) rfl ?_
  refine g_istore X B at_28 (pc' := 30) rfl (Ls' := #[.val (.long j0), .second, .val (.long j2), .second, .val (.long j4), .second, .val (.long j6), .second, .val (.int i8), .val (.ref o9), .val (.ref o10), .val (.int (i8 &&& (3 : Int32))), .unset, .unset, .unset, .unset, .unset]) rfl ?_
  refine g_iload X B at_30 (pc' := 32) rfl (v := (i8 &&& (3 : Int32))) rfl ?_
  refine g_if_ne X B at_32 (pcT := 47) (pcF := 35) (by decide) rfl rfl (fun c32_0 => ?_) (fun c32_0 => ?_)
  · refine g_lload X B at_35 (pc' := 37) rfl (v := j4) rfl ?_
    refine g_lload X B at_37 (pc' := 39) rfl (v := j6) rfl ?_
    refine g_callS X B eT 0 (y := (⟨"com/example/razione/razione/rating/PeriodEqualsPinLaw", "norm", "(JJ)[J"⟩ : MethodName)) (argsL := [(.long j4), (.long j6)]) (rest := []) (B.w 0 rfl) (B.w 1 rfl) (B.w 2 rfl) (B.w 3 rfl) (by decide) (no_met l Z a0 B.2.2.1 [] h j4 j6 n0 Zs) (by decide) (by decide) (by decide) (by decide) rfl (lenOf own_pd8 rfl) rfl (Nat.le_of_eq rfl) at_39 (pc' := 42) rfl (fun T12 v12 L12 X12 Q12 => ?_)
    obtain ⟨na12, x12, y12, rfl, Nq12, Kq12, hs12, An12, hl12⟩ := Q12
    have N12 := Fr.app N Nq12
    have ne_o10_na12 : o10 ≠ na12 := fun q => absurd (hEp.lt) (by rw [q]; exact Nat.not_lt.mpr hs12)
    have ne_o9_na12 : o9 ≠ na12 := fun q => absurd (Va.lt) (by rw [q]; exact Nat.not_lt.mpr hs12)
    have G_na12 : n0 ≤ na12 := Nat.le_trans Zs hs12
    have E_o10_12 := hEp.keep Kq12
    have F_o10_start_12 := Fp1.keep Kq12 (by simp)
    have F_o10_end_12 := Fp2.keep Kq12 (by simp)
    have A_o9_12 := Va.keep Kq12 (by simp)
    have Zs_12 := Nat.le_trans Zs Kq12.1
    have O_12 := own_old_keep hO Kq12 (by intro x hx; cases hx)
    show Go p e below s _ _ _ (T12.setTop (mkF m 42 #[.val (.long j0), .second, .val (.long j2), .second, .val (.long j4), .second, .val (.long j6), .second, .val (.int i8), .val (.ref o9), .val (.ref o10), .val (.int (i8 &&& (3 : Int32))), .unset, .unset, .unset, .unset, .unset] [(.ref na12)]))
    refine g_astore X12 B at_42 (pc' := 44) rfl rfl (Ls' := #[.val (.long j0), .second, .val (.long j2), .second, .val (.long j4), .second, .val (.long j6), .second, .val (.int i8), .val (.ref o9), .val (.ref o10), .val (.int (i8 &&& (3 : Int32))), .val (.ref na12), .unset, .unset, .unset, .unset]) rfl ?_
    refine g_goto X12 B at_44 (pc' := 108) (by decide) rfl ?_
    exact law_s108 X12 B rfl n0 Zs_12 N12 (j0) (j2) (j4) (j6) (i8) (o9) (o10) ((i8 &&& (3 : Int32))) (na12) x0 y0 x12 y12 cI ccI valI cL ccL valL E_o10_12 F_o10_start_12 F_o10_end_12 A_o9_12 An12 hl12 hn0 O_12 Sh SI BI SL BL
  · refine g_iload X B at_47 (pc' := 49) rfl (v := (i8 &&& (3 : Int32))) rfl ?_
    refine g_iconst X B at_49 (pc' := 50) rfl (v := (1 : Int32)) (by decide) ?_
    refine g_icmp_ne X B at_50 (pcT := 77) (pcF := 53) (by decide) rfl rfl (fun c50_1 => ?_) (fun c50_1 => ?_)
    · refine g_iconst X B at_53 (pc' := 54) rfl (v := (2 : Int32)) (by decide) ?_
      refine g_newA X B (aty := .long) 2 2 (B.w 11 rfl) eT (by decide) (by decide) (by decide) at_54 (pc' := 56) rfl (by decide) (by decide) (fun T13 h13 ob13 q13 X13 e13 E13 A13 => ?_)
      have ne_o10_ob13 : o10 ≠ ob13 := fun q => absurd (hEp.lt) (by rw [q, q13]; exact Nat.lt_irrefl _)
      have ne_o9_ob13 : o9 ≠ ob13 := fun q => absurd (Va.lt) (by rw [q, q13]; exact Nat.lt_irrefl _)
      have G_ob13 : n0 ≤ ob13 := by rw [q13]; exact Zs
      have E_o10_13 := hEp.ext E13
      have F_o10_start_13 := Fp1.ext E13
      have F_o10_end_13 := Fp2.ext E13
      have A_o9_13 := Va.ext E13
      have Zs_13 := Nat.le_trans Zs E13.1
      have O_13 := own_old_ext hO E13
      have A_ob13 : Ax Z h13 ob13 .long 2 (fun _ => (.long (0 : Int64))) := A13
      refine g_astore X13 B at_56 (pc' := 58) rfl rfl (Ls' := #[.val (.long j0), .second, .val (.long j2), .second, .val (.long j4), .second, .val (.long j6), .second, .val (.int i8), .val (.ref o9), .val (.ref o10), .val (.int (i8 &&& (3 : Int32))), .val (.ref ob13), .unset, .unset, .unset, .unset]) rfl ?_
      refine g_aload X13 B at_58 (pc' := 60) rfl (v := (.ref ob13)) rfl rfl ?_
      refine g_iconst X13 B at_60 (pc' := 61) rfl (v := (0 : Int32)) (by decide) ?_
      refine g_aload X13 B at_61 (pc' := 63) rfl (v := (.ref o9)) rfl rfl ?_
      refine g_iconst X13 B at_63 (pc' := 64) rfl (v := (0 : Int32)) (by decide) ?_
      refine g_laload X13 B 0 e13 A_o9_13 (by decide) (by decide) (v := (.long x0)) rfl at_64 (pc' := 65) rfl ?_
      refine g_lastore X13 B 0 e13 A_ob13 (by decide) (by decide) at_65 (pc' := 66) rfl (fun T14 h14 X14 e14 W14 => ?_)
      have N14 := Fr.snoc X14 N G_ob13
      have E_o10_14 := E_o10_13.wr W14
      have F_o10_start_14 := F_o10_start_13.other W14 (Or.inl ne_o10_ob13)
      have F_o10_end_14 := F_o10_end_13.other W14 (Or.inl ne_o10_ob13)
      have A_o9_14 := A_o9_13.other W14 ne_o9_ob13
      have A_ob13_14 := A_ob13.set W14
      have Zs_14 := Nat.le_trans Zs_13 (Keep.of_wr W14).1
      have O_14 := own_old_wr O_13 W14 (Nat.le_trans hn0 G_ob13)
      refine g_aload X14 B at_66 (pc' := 68) rfl (v := (.ref ob13)) rfl rfl ?_
      refine g_iconst X14 B at_68 (pc' := 69) rfl (v := (1 : Int32)) (by decide) ?_
      refine g_aload X14 B at_69 (pc' := 71) rfl (v := (.ref o9)) rfl rfl ?_
      refine g_iconst X14 B at_71 (pc' := 72) rfl (v := (1 : Int32)) (by decide) ?_
      refine g_laload X14 B 1 e14 A_o9_14 (by decide) (by decide) (v := (.long y0)) rfl at_72 (pc' := 73) rfl ?_
      refine g_lastore X14 B 1 e14 A_ob13_14 (by decide) (by decide) at_73 (pc' := 74) rfl (fun T15 h15 X15 e15 W15 => ?_)
      have N15 := Fr.snoc X15 N14 G_ob13
      have E_o10_15 := E_o10_14.wr W15
      have F_o10_start_15 := F_o10_start_14.other W15 (Or.inl ne_o10_ob13)
      have F_o10_end_15 := F_o10_end_14.other W15 (Or.inl ne_o10_ob13)
      have A_o9_15 := A_o9_14.other W15 ne_o9_ob13
      have A_ob13_15 := A_ob13_14.set W15
      have Zs_15 := Nat.le_trans Zs_14 (Keep.of_wr W15).1
      have O_15 := own_old_wr O_14 W15 (Nat.le_trans hn0 G_ob13)
      refine g_goto X15 B at_74 (pc' := 108) (by decide) rfl ?_
      exact law_s108 X15 B e15 n0 Zs_15 N15 (j0) (j2) (j4) (j6) (i8) (o9) (o10) ((i8 &&& (3 : Int32))) (ob13) x0 y0 x0 y0 cI ccI valI cL ccL valL E_o10_15 F_o10_start_15 F_o10_end_15 A_o9_15 A_ob13_15 hl0 hn0 O_15 Sh SI BI SL BL
    · refine g_iload X B at_77 (pc' := 79) rfl (v := (i8 &&& (3 : Int32))) rfl ?_
      refine g_iconst X B at_79 (pc' := 80) rfl (v := (2 : Int32)) (by decide) ?_
      refine g_icmp_ne X B at_80 (pcT := 97) (pcF := 83) (by decide) rfl rfl (fun c80_2 => ?_) (fun c80_2 => ?_)
      · refine g_aload X B at_83 (pc' := 85) rfl (v := (.ref o9)) rfl rfl ?_
        refine g_iconst X B at_85 (pc' := 86) rfl (v := (0 : Int32)) (by decide) ?_
        refine g_laload X B 0 eT Va (by decide) (by decide) (v := (.long x0)) rfl at_86 (pc' := 87) rfl ?_
        refine g_lload X B at_87 (pc' := 89) rfl (v := j6) rfl ?_
        refine g_callS X B eT 0 (y := (⟨"com/example/razione/razione/rating/PeriodEqualsPinLaw", "norm", "(JJ)[J"⟩ : MethodName)) (argsL := [(.long x0), (.long j6)]) (rest := []) (B.w 0 rfl) (B.w 1 rfl) (B.w 2 rfl) (B.w 3 rfl) (by decide) (no_met l Z a0 B.2.2.1 [] h x0 j6 n0 Zs) (by decide) (by decide) (by decide) (by decide) rfl (lenOf own_pd8 rfl) rfl (Nat.le_of_eq rfl) at_89 (pc' := 92) rfl (fun T16 v16 L16 X16 Q16 => ?_)
        obtain ⟨na16, x16, y16, rfl, Nq16, Kq16, hs16, An16, hl16⟩ := Q16
        have N16 := Fr.app N Nq16
        have ne_o10_na16 : o10 ≠ na16 := fun q => absurd (hEp.lt) (by rw [q]; exact Nat.not_lt.mpr hs16)
        have ne_o9_na16 : o9 ≠ na16 := fun q => absurd (Va.lt) (by rw [q]; exact Nat.not_lt.mpr hs16)
        have G_na16 : n0 ≤ na16 := Nat.le_trans Zs hs16
        have E_o10_16 := hEp.keep Kq16
        have F_o10_start_16 := Fp1.keep Kq16 (by simp)
        have F_o10_end_16 := Fp2.keep Kq16 (by simp)
        have A_o9_16 := Va.keep Kq16 (by simp)
        have Zs_16 := Nat.le_trans Zs Kq16.1
        have O_16 := own_old_keep hO Kq16 (by intro x hx; cases hx)
        show Go p e below s _ _ _ (T16.setTop (mkF m 92 #[.val (.long j0), .second, .val (.long j2), .second, .val (.long j4), .second, .val (.long j6), .second, .val (.int i8), .val (.ref o9), .val (.ref o10), .val (.int (i8 &&& (3 : Int32))), .unset, .unset, .unset, .unset, .unset] [(.ref na16)]))
        refine g_astore X16 B at_92 (pc' := 94) rfl rfl (Ls' := #[.val (.long j0), .second, .val (.long j2), .second, .val (.long j4), .second, .val (.long j6), .second, .val (.int i8), .val (.ref o9), .val (.ref o10), .val (.int (i8 &&& (3 : Int32))), .val (.ref na16), .unset, .unset, .unset, .unset]) rfl ?_
        refine g_goto X16 B at_94 (pc' := 108) (by decide) rfl ?_
        exact law_s108 X16 B rfl n0 Zs_16 N16 (j0) (j2) (j4) (j6) (i8) (o9) (o10) ((i8 &&& (3 : Int32))) (na16) x0 y0 x16 y16 cI ccI valI cL ccL valL E_o10_16 F_o10_start_16 F_o10_end_16 A_o9_16 An16 hl16 hn0 O_16 Sh SI BI SL BL
      · refine g_lload X B at_97 (pc' := 99) rfl (v := j4) rfl ?_
        refine g_aload X B at_99 (pc' := 101) rfl (v := (.ref o9)) rfl rfl ?_
        refine g_iconst X B at_101 (pc' := 102) rfl (v := (1 : Int32)) (by decide) ?_
        refine g_laload X B 1 eT Va (by decide) (by decide) (v := (.long y0)) rfl at_102 (pc' := 103) rfl ?_
        refine g_callS X B eT 0 (y := (⟨"com/example/razione/razione/rating/PeriodEqualsPinLaw", "norm", "(JJ)[J"⟩ : MethodName)) (argsL := [(.long j4), (.long y0)]) (rest := []) (B.w 0 rfl) (B.w 1 rfl) (B.w 2 rfl) (B.w 3 rfl) (by decide) (no_met l Z a0 B.2.2.1 [] h j4 y0 n0 Zs) (by decide) (by decide) (by decide) (by decide) rfl (lenOf own_pd8 rfl) rfl (Nat.le_of_eq rfl) at_103 (pc' := 106) rfl (fun T17 v17 L17 X17 Q17 => ?_)
        obtain ⟨na17, x17, y17, rfl, Nq17, Kq17, hs17, An17, hl17⟩ := Q17
        have N17 := Fr.app N Nq17
        have ne_o10_na17 : o10 ≠ na17 := fun q => absurd (hEp.lt) (by rw [q]; exact Nat.not_lt.mpr hs17)
        have ne_o9_na17 : o9 ≠ na17 := fun q => absurd (Va.lt) (by rw [q]; exact Nat.not_lt.mpr hs17)
        have G_na17 : n0 ≤ na17 := Nat.le_trans Zs hs17
        have E_o10_17 := hEp.keep Kq17
        have F_o10_start_17 := Fp1.keep Kq17 (by simp)
        have F_o10_end_17 := Fp2.keep Kq17 (by simp)
        have A_o9_17 := Va.keep Kq17 (by simp)
        have Zs_17 := Nat.le_trans Zs Kq17.1
        have O_17 := own_old_keep hO Kq17 (by intro x hx; cases hx)
        show Go p e below s _ _ _ (T17.setTop (mkF m 106 #[.val (.long j0), .second, .val (.long j2), .second, .val (.long j4), .second, .val (.long j6), .second, .val (.int i8), .val (.ref o9), .val (.ref o10), .val (.int (i8 &&& (3 : Int32))), .unset, .unset, .unset, .unset, .unset] [(.ref na17)]))
        refine g_astore X17 B at_106 (pc' := 108) rfl rfl (Ls' := #[.val (.long j0), .second, .val (.long j2), .second, .val (.long j4), .second, .val (.long j6), .second, .val (.int i8), .val (.ref o9), .val (.ref o10), .val (.int (i8 &&& (3 : Int32))), .val (.ref na17), .unset, .unset, .unset, .unset]) rfl ?_
        exact law_s108 X17 B rfl n0 Zs_17 N17 (j0) (j2) (j4) (j6) (i8) (o9) (o10) ((i8 &&& (3 : Int32))) (na17) x0 y0 x17 y17 cI ccI valI cL ccL valL E_o10_17 F_o10_start_17 F_o10_end_17 A_o9_17 An17 hl17 hn0 O_17 Sh SI BI SL BL
set_option maxRecDepth 65536 in
set_option maxHeartbeats 40000000 in
theorem law_go {p : Program} {l : Launch} {e : Env} {s : State} {m : MethodId} {args : Array Value} {below : List Frame} {meth : Method} {c : Code} {T : State} {Z : State} {a0 : Array Value} {h : Heap} (X : Stand p l e room_1 s m args below meth c T [] 0 0) (B : Bdy p s m meth c Z a0 "com/example/razione/razione/rating/PeriodEqualsPinLaw" "law" code 17 (some .boolean) tables_1) (eT : T.heap = h) (n0 : Nat) (Zs : n0 ≤ h.size) (j0 : Int64) (j2 : Int64) (j4 : Int64) (j6 : Int64) (i8 : Int32) (cI : Addr) (ccI : Cell) (valI : Int32 → Value) (cL : Addr) (ccL : Cell) (valL : Int32 → Value) (hn0 : Z.heap.size ≤ n0) (hO : Ext Z.heap h) (Sh : Sta Z Z.heap "java/lang/Integer$IntegerCache" "high" "I" (.int (127 : Int32))) (SI : Sta Z Z.heap "java/lang/Integer$IntegerCache" "cache" "[Ljava/lang/Integer;" (.ref cI)) (BI : Bxs Z cI ccI "java/lang/Integer" "I" (256 : Int32) valI) (SL : Sta Z Z.heap "java/lang/Long$LongCache" "cache" "[Ljava/lang/Long;" (.ref cL)) (BL : Bxs Z cL ccL "java/lang/Long" "J" (256 : Int32) valL) :
    Go p e below s room_1.cells room_1.slots (fun v _ L => v = some (.int 1) ∧ Fr n0 L) (T.setTop (mkF m 0 #[.val (.long j0), .second, .val (.long j2), .second, .val (.long j4), .second, .val (.long j6), .second, .val (.int i8), .unset, .unset, .unset, .unset, .unset, .unset, .unset, .unset] [])) := by
  have N := Fr.nil n0
  refine g_lloadN X B at_0 (pc' := 1) rfl (v := j0) rfl ?_
  refine g_lloadN X B at_1 (pc' := 2) rfl (v := j2) rfl ?_
  refine g_callS X B eT 0 (y := (⟨"com/example/razione/razione/rating/PeriodEqualsPinLaw", "norm", "(JJ)[J"⟩ : MethodName)) (argsL := [(.long j0), (.long j2)]) (rest := []) (B.w 0 rfl) (B.w 1 rfl) (B.w 2 rfl) (B.w 3 rfl) (by decide) (no_met l Z a0 B.2.2.1 [] h j0 j2 n0 Zs) (by decide) (by decide) (by decide) (by decide) rfl (lenOf own_pd8 rfl) rfl (Nat.le_of_eq rfl) at_2 (pc' := 5) rfl (fun T1 v1 L1 X1 Q1 => ?_)
  obtain ⟨na1, x1, y1, rfl, Nq1, Kq1, hs1, An1, hl1⟩ := Q1
  have N1 := Fr.app N Nq1
  have G_na1 : n0 ≤ na1 := Nat.le_trans Zs hs1
  have Zs_1 := Nat.le_trans Zs Kq1.1
  have O_1 := own_old_keep hO Kq1 (by intro x hx; cases hx)
  show Go p e below s _ _ _ (T1.setTop (mkF m 5 #[.val (.long j0), .second, .val (.long j2), .second, .val (.long j4), .second, .val (.long j6), .second, .val (.int i8), .unset, .unset, .unset, .unset, .unset, .unset, .unset, .unset] [(.ref na1)]))
  refine g_astore X1 B at_5 (pc' := 7) rfl rfl (Ls' := #[.val (.long j0), .second, .val (.long j2), .second, .val (.long j4), .second, .val (.long j6), .second, .val (.int i8), .val (.ref na1), .unset, .unset, .unset, .unset, .unset, .unset, .unset]) rfl ?_
  refine g_new X1 B (B.w 12 rfl) (B.w 13 rfl) (B.w 14 rfl) rfl at_7 (pc' := 10) rfl (by decide) (by decide) (fun T2 h2 ob2 q2 X2 e2 E2 A2 D2 => ?_)
  have ne_na1_ob2 : na1 ≠ ob2 := fun q => absurd (An1.lt) (by rw [q, q2]; exact Nat.lt_irrefl _)
  have G_ob2 : n0 ≤ ob2 := by rw [q2]; exact Zs_1
  have A_na1_2 := An1.ext E2
  have Zs_2 := Nat.le_trans Zs_1 E2.1
  have O_2 := own_old_ext O_1 E2
  have F_ob2_start : Fld Z h2 ob2 "com/example/razione/razione/rating/Period" "start" "J" (.long (0 : Int64)) := D2 (Or.inr (B.w 27 rfl)) (ty := .long) (by decide)
  have F_ob2_end : Fld Z h2 ob2 "com/example/razione/razione/rating/Period" "end" "J" (.long (0 : Int64)) := D2 (Or.inr (B.w 29 rfl)) (ty := .long) (by decide)
  refine g_dup X2 B at_10 (pc' := 11) rfl rfl ?_
  refine g_aload X2 B at_11 (pc' := 13) rfl (v := (.ref na1)) rfl rfl ?_
  refine g_iconst X2 B at_13 (pc' := 14) rfl (v := (0 : Int32)) (by decide) ?_
  refine g_laload X2 B 0 e2 A_na1_2 (by decide) (by decide) (v := (.long x1)) rfl at_14 (pc' := 15) rfl ?_
  refine g_aload X2 B at_15 (pc' := 17) rfl (v := (.ref na1)) rfl rfl ?_
  refine g_iconst X2 B at_17 (pc' := 18) rfl (v := (1 : Int32)) (by decide) ?_
  refine g_laload X2 B 1 e2 A_na1_2 (by decide) (by decide) (v := (.long y1)) rfl at_18 (pc' := 19) rfl ?_
  refine g_special X2 B e2 1 (y := (⟨"com/example/razione/razione/rating/Period", "<init>", "(JJ)V"⟩ : MethodName)) (argsL := [(.long x1), (.long y1)]) (rest := [(.ref ob2)]) (a := ob2) rfl (B.w 15 rfl) (B.w 16 rfl) (B.w 14 rfl) (B.w 17 rfl) (by decide) (ini_met l Z a0 B.2.2.1 [] h2 ob2 x1 y1 n0 Zs_2 A2 F_ob2_start F_ob2_end G_ob2 hl1) (by decide) (by decide) (by decide) (by decide) rfl (lenOf own_pd7 rfl) rfl (Nat.le_of_eq rfl) at_19 (pc' := 22) rfl (fun T3 v3 L3 X3 Q3 => ?_)
  obtain ⟨rfl, Nq3, Kq3, Fs3, Fe3⟩ := Q3
  have N3 := Fr.app N1 Nq3
  have A_na1_3 := A_na1_2.keep Kq3 (by simp only [List.mem_cons, List.not_mem_nil, or_false, not_or]; exact ne_na1_ob2)
  have E_ob2_3 := A2.keep Kq3
  have Zs_3 := Nat.le_trans Zs_2 Kq3.1
  have O_3 := own_old_keep O_2 Kq3 (by intro x hx; simp only [List.mem_cons, List.not_mem_nil, or_false] at hx; subst hx; exact Nat.le_trans hn0 G_ob2)
  show Go p e below s _ _ _ (T3.setTop (mkF m 22 #[.val (.long j0), .second, .val (.long j2), .second, .val (.long j4), .second, .val (.long j6), .second, .val (.int i8), .val (.ref na1), .unset, .unset, .unset, .unset, .unset, .unset, .unset] [(.ref ob2)]))
  refine g_astore X3 B at_22 (pc' := 24) rfl rfl (Ls' := #[.val (.long j0), .second, .val (.long j2), .second, .val (.long j4), .second, .val (.long j6), .second, .val (.int i8), .val (.ref na1), .val (.ref ob2), .unset, .unset, .unset, .unset, .unset, .unset]) rfl ?_
  exact law_s24 X3 B rfl n0 Zs_3 N3 (j0) (j2) (j4) (j6) (i8) (na1) (ob2) x1 y1 cI ccI valI cL ccL valL E_ob2_3 Fs3 Fe3 A_na1_3 hl1 hn0 O_3 Sh SI BI SL BL
theorem own_len {s : State} {as : Array Value} {t : Term} {a : Addr} {c : Cell} {ty : FieldType} {z : Int32} (ev : t.eval as s none [] s = some (.ref a)) (A : Arr s s.heap a c ty) (q : (Term.length t).eval as s none [] s = some (.int z)) : c.slots.size < 2 ^ 31 ∧ c.slots.size.toInt32 = z := by
  by_cases hl : c.slots.size < 2 ^ 31
  · exact ⟨hl, Value.int.inj (Option.some.inj ((len_f ev (A.fin (Vm.Alike.refl _)) hl).symm.trans q))⟩
  · have w := A.fin (Vm.Alike.refl s.vm)
    simp [Term.eval, ev, w, hl] at q
theorem own_sub_at {s : State} {as : Array Value} {a b : Term} {idx : List Nat} {x y : Int32} (ha : a.eval as s none idx s = some (.int x)) (hb : b.eval as s none idx s = some (.int y)) : (Term.sub a b).eval as s none idx s = some (.int (x - y)) := by simp [Term.eval, ha, hb]
theorem own_pn_law : plainFor (⟨"com/example/razione/razione/rating/PeriodEqualsPinLaw", "law", "(JJJJI)Z"⟩ : MethodName) = true := plainFor_of_name (by first | (simp [plainName, overriddenIn]; done) | decide +kernel)
theorem own_ef_law (m : MethodId) (j0 : Int64) (j2 : Int64) (j4 : Int64) (j6 : Int64) (i8 : Int32) : entryFrame m #[(.long j0), (.long j2), (.long j4), (.long j6), (.int i8)] 17 = (mkF m 0 #[.val (.long j0), .second, .val (.long j2), .second, .val (.long j4), .second, .val (.long j6), .second, .val (.int i8), .unset, .unset, .unset, .unset, .unset, .unset, .unset, .unset] []) := by first | (simp [entryFrame, mkF, argsToLocals, Value.category]; done) | rfl
theorem own_rm (l : Launch) (Z : State) (a0 : Array Value) (hw : ∀ d ∈ tables_1, d.before a0 Z = true) (ws : List Jvm.Cond) (h : Heap) (n0 : Nat) (Zs : n0 ≤ h.size) (j0 : Int64) (j2 : Int64) (j4 : Int64) (j6 : Int64) (i8 : Int32) (cI : Addr) (ccI : Cell) (valI : Int32 → Value) (cL : Addr) (ccL : Cell) (valL : Int32 → Value) (hn0 : Z.heap.size ≤ n0) (hO : Ext Z.heap h) (Sh : Sta Z Z.heap "java/lang/Integer$IntegerCache" "high" "I" (.int (127 : Int32))) (SI : Sta Z Z.heap "java/lang/Integer$IntegerCache" "cache" "[Ljava/lang/Integer;" (.ref cI)) (BI : Bxs Z cI ccI "java/lang/Integer" "I" (256 : Int32) valI) (SL : Sta Z Z.heap "java/lang/Long$LongCache" "cache" "[Ljava/lang/Long;" (.ref cL)) (BL : Bxs Z cL ccL "java/lang/Long" "J" (256 : Int32) valL) :
    Met l Z x code maxLocals ret ws room_1 #[(.long j0), (.long j2), (.long j4), (.long j6), (.int i8)] h (fun v _ L => v = some (.int 1) ∧ Fr n0 L) :=
  met_of own_pn_law hw fun p e s m below meth c T X B eT => Go.top (own_ef_law m j0 j2 j4 j6 i8) (law_go X B eT n0 Zs j0 j2 j4 j6 i8 cI ccI valI cL ccL valL hn0 hO Sh SI BI SL BL)
set_option maxRecDepth 65536 in
set_option maxHeartbeats 40000000 in
theorem comes_1 {Post : Tables → Env → Array Value → State → Outcome → State → Prop} (hpost : ∀ tb e args s v u, (limb_1_1.after args s (.returned v) u = true ∧ limb_1_2.after args s (.returned v) u = true ∧ True) → FrameEnd s (.returned v) u (Jvm.fieldLocs frame_1_writes args s ++ Jvm.arrayLocs frame_1_arrays args s ++ Jvm.staticLocs frame_1_statics s) 24 128 → Post tb e args s (.returned v) u) :
    ArmFor flags0 classFile x code maxLocals ret World_1 tables_1 room_1 Calls_1 rest_1 Pre_1 Post := by
  intro l hfl _ _ p e ha hc hk s m args below hf hA hF happ hP
  obtain ⟨hcalls, hrest, hpre⟩ := hP
  obtain ⟨-, -, -, hnamed, -, -, -, hat⟩ := (Spec.applies_iff hf).mp happ
  obtain ⟨hg, hn⟩ := and_e (Cond.before_iff.mp (show (Jvm.Cond.and given_1 narrow_1).before args s = true from hpre))
  obtain ⟨h1, g1⟩ := and_e hg
  obtain ⟨k0, g2⟩ := and_e g1
  obtain ⟨k1, g3⟩ := and_e g2
  obtain ⟨k2, g4⟩ := and_e g3
  obtain ⟨k3, g5⟩ := and_e g4
  obtain ⟨w0, w1, w2, w3, w4, rfl⟩ : ∃ w0 w1 w2 w3 w4 : Value, args = #[w0, w1, w2, w3, w4] := by
    have hs : args.size = 5 := by simpa [Cond.value, given_1] using h1
    obtain ⟨L⟩ := args
    match L, hs with
    | [w0, w1, w2, w3, w4], _ => exact ⟨w0, w1, w2, w3, w4, rfl⟩
  have hw := fun d (hd : d ∈ tables_1) => atoms_spec (ws := Jvm.Cond.code x code maxLocals ret :: tables_1) hat d (List.mem_cons_of_mem _ hd)
  obtain ⟨z0, q0⟩ := isL_v k0
  obtain rfl : w0 = (.long z0) := Option.some.inj q0
  obtain ⟨z1, q1⟩ := isL_v k1
  obtain rfl : w1 = (.long z1) := Option.some.inj q1
  obtain ⟨z2, q2⟩ := isL_v k2
  obtain rfl : w2 = (.long z2) := Option.some.inj q2
  obtain ⟨z3, q3⟩ := isL_v k3
  obtain rfl : w3 = (.long z3) := Option.some.inj q3
  obtain ⟨z4, q4⟩ := is_v g5
  obtain rfl : w4 = (.int z4) := Option.some.inj q4
  obtain ⟨hsets, hown0⟩ := atoms_of _ (rest_1_c_eq ▸ (show rest_1_c.before _ s = true from hrest))
  have eH := eqv_i (Term.int_eval (127)) (Cond.before_iff.mp (hsets _ (List.mem_of_getElem? (i := 3) rfl)))
  have Sh : Sta s s.heap "java/lang/Integer$IntegerCache" "high" "I" (.int (127 : Int32)) := Sta.start eH (Or.inl (hsets _ (List.mem_of_getElem? (i := 1) rfl)))
  obtain ⟨cI, eCI⟩ := arr_v (Cond.before_iff.mp (hsets _ (List.mem_of_getElem? (i := 4) rfl)))
  obtain ⟨ccI, AI⟩ := Arr.start eCI (Cond.before_iff.mp (hsets _ (List.mem_of_getElem? (i := 4) rfl)))
  have SI : Sta s s.heap "java/lang/Integer$IntegerCache" "cache" "[Ljava/lang/Integer;" (.ref cI) := Sta.start eCI (Or.inr ⟨(hw _ (List.mem_of_getElem? (i := 42) rfl)), (hsets _ (List.mem_of_getElem? (i := 2) rfl))⟩)
  have zIl := eqv_i (Term.int_eval (256)) (Cond.before_iff.mp (hsets _ (List.mem_of_getElem? (i := 6) rfl)))
  have lI := own_len eCI AI zIl
  have BI : Bxs s cI ccI "java/lang/Integer" "I" (256 : Int32) (fun j => .int (j - 128)) := Bxs.start (fun _ => eCI) AI lI.1 lI.2 (by decide) (Cond.before_iff.mp (hsets _ (List.mem_of_getElem? (i := 7) rfl))) (fun X j hj q => eqv_i (own_sub_at (idx_at hj) (Term.int_eval 128)) q)
  obtain ⟨cL, eCL⟩ := arr_v (Cond.before_iff.mp (hsets _ (List.mem_of_getElem? (i := 10) rfl)))
  obtain ⟨ccL, AL⟩ := Arr.start eCL (Cond.before_iff.mp (hsets _ (List.mem_of_getElem? (i := 10) rfl)))
  have SL : Sta s s.heap "java/lang/Long$LongCache" "cache" "[Ljava/lang/Long;" (.ref cL) := Sta.start eCL (Or.inl (hsets _ (List.mem_of_getElem? (i := 9) rfl)))
  have zLl := eqv_i (Term.int_eval (256)) (Cond.before_iff.mp (hsets _ (List.mem_of_getElem? (i := 12) rfl)))
  have lL := own_len eCL AL zLl
  have BL : Bxs s cL ccL "java/lang/Long" "J" (256 : Int32) (fun j => .long (j - 128).toInt64) := Bxs.start (fun _ => eCL) AL lL.1 lL.2 (by decide) (Cond.before_iff.mp (hsets _ (List.mem_of_getElem? (i := 13) rfl))) (fun X j hj q => eqv_l (i2l_at (own_sub_at (idx_at hj) (Term.int_eval 128))) q)
  obtain ⟨n, o, h1, h2, h3, _, L, rfl, ⟨rfl, N⟩, hq⟩ := own_rm l s _ hw tables_1 s.heap s.heap.size (Nat.le_refl _) z0 z1 z2 z3 z4 cI ccI _ cL ccL _ (Nat.le_refl _) ⟨Nat.le_refl _, fun _ _ q => q⟩ Sh SI BI SL BL p e ha hc hk s m _ below hf ((Spec.applies_iff_loose hf).mp happ).1 ⟨rfl, State.Warmed39.refl s, rfl⟩ trivial
  refine ⟨n, _, h1, h2, h3, hpost _ _ _ _ _ _ ⟨Cond.after_iff.mpr rfl, Cond.after_iff.mpr (eq_i res_at (Term.int_eval (1)) rfl), trivial⟩ ⟨hq.1, hq.2.1, (hq.2.2.sift fun y hy => Or.inr (N y hy)).mono (by decide) (by decide)⟩⟩
theorem main_1_1 : Claimed_1_1 := comes_1 fun _ _ _ _ _ _ h hF => ⟨h.1, hF⟩
theorem main_1_2 : Claimed_1_2 := comes_1 fun _ _ _ _ _ _ h hF => ⟨h.2.1, hF⟩
end Jvm.Pilot.@@N@@
namespace Jvm.Pilot.@@N@@
open Jvm Jvm.ClassFile Sem Op Lib Jvm.Free Jvm.Stand Jvm.Pilot.@@N@@.Jvm.D
/-! MADE BY PROGRAM (witnessworld.py) out of the Statement's table words and the real class files: 23 classes; the members and pool entries that the words name. The judged class is class 1, her method 2. -/
namespace start1
open Jvm.ClassFile
def u (s : String) : CpInfo := .utf8 (stringToUtf16 s)
/-- a pool by its gaps: so many unusable entries, then the entry; so many at the end -/
def gap : Nat → List CpInfo → List CpInfo
  | 0, r => r
  | n + 1, r => .unusable :: gap n r
def poolList (es : List (Nat × CpInfo)) (last : Nat) : List CpInfo := es.foldr (fun e r => gap e.1 (e.2 :: r)) (gap last [])
def pool (es : List (Nat × CpInfo)) (last : Nat) : Array CpInfo := ⟨poolList es last⟩
def fileOf (pool : Array CpInfo) (this : Nat) (attrs : Array Attribute := #[]) (ms : Array MethodInfo := #[]) (fl : Nat := 33) (sup : Nat := 0) (ifs : Array Nat := #[]) (fds : Array FieldInfo := #[]) : ClassFile where
  minorVersion := 0
  majorVersion := 65
  constantPool := pool
  accessFlags := fl
  thisClass := this
  superClass := sup
  interfaces := ifs
  fields := fds
  methods := ms
  attributes := attrs
def plain (name : String) (sup : Option ClassId) : Class where
  name := name
  kind := .ordinary
  loader := none
  accessFlags := 33
  super := sup
  interfaces := #[]
  cf := none
  fields := #[]
  methods := #[]
  instanceTypes := #[]
  staticTypes := #[]
  resolved := #[]
  callSites := []
  init := .initialized
  statics := none
  mirror := none

def pool0 : Array CpInfo := pool [(5, u "<init>"), (0, u "()V"), (1, .class_ 10), (1, u "java/lang/Object")] 113

def k0c0 : Code := { maxStack := 0, maxLocals := 1, code := object_method_1_code, exceptionTable := #[], attributes := #[] }
def k0m0 : Method := { name := "<init>", desc := "()V", sig := { parameters := [], returnType := none }, accessFlags := 1, code := some k0c0 }
/-- java/lang/Object -/
def k0 : Class := { plain "java/lang/Object" none with
  accessFlags := 33
  interfaces := #[]
  cf := some (fileOf pool0 8 #[] #[{ accessFlags := 1, nameIndex := 5, descriptorIndex := 6, attributes := #[] }] 33 0 #[] #[])
  fields := #[]
  methods := #[k0m0]
  instanceTypes := #[]
  staticTypes := #[]
  resolved := Array.replicate 124 none
  statics := none }

def pool1 : Array CpInfo := pool [(2, .class_ 4), (1, u "java/lang/Object"), (0, u "<init>"), (0, u "()V"), (0, .methodref 8 9), (0, .class_ 10), (0, .nameAndType 11 12), (0, u "java/lang/Math"), (0, u "min"), (0, u "(JJ)J"), (0, .methodref 8 14), (0, .nameAndType 15 12), (0, u "max"), (0, .class_ 17), (0, u "java/lang/Long"), (0, .long 9223372036854775807), (1, .methodref 21 22), (0, .class_ 23), (0, .nameAndType 24 25), (0, u "com/example/razione/razione/rating/PeriodEqualsPinLaw"), (0, u "norm"), (0, u "(JJ)[J"), (0, .class_ 27), (0, u "com/example/razione/razione/rating/Period"), (0, .methodref 26 29), (0, .nameAndType 5 30), (0, u "(JJ)V"), (0, .methodref 26 32), (0, .nameAndType 33 34), (0, u "equals"), (0, u "(Ljava/lang/Object;)Z"), (0, .methodref 16 36), (0, .nameAndType 37 38), (0, u "valueOf"), (0, u "(J)Ljava/lang/Long;"), (0, .methodref 40 41), (0, .class_ 42), (0, .nameAndType 37 43), (0, u "java/lang/Integer"), (0, u "(I)Ljava/lang/Integer;"), (3, u "law"), (0, u "(JJJJI)Z")] 4

def k1m0 : Method := { name := "<init>", desc := "()V", sig := { parameters := [], returnType := none }, accessFlags := 1, code := none }
def k1c1 : Code := { maxStack := 4, maxLocals := 9, code := method_2_code, exceptionTable := #[], attributes := #[] }
def k1m1 : Method := { name := "norm", desc := "(JJ)[J", sig := { parameters := [.long, .long], returnType := some (.array .long) }, accessFlags := 10, code := some k1c1 }
def k1c2 : Code := { maxStack := 6, maxLocals := 17, code := code, exceptionTable := #[], attributes := #[] }
def k1m2 : Method := { name := "law", desc := "(JJJJI)Z", sig := { parameters := [.long, .long, .long, .long, .int], returnType := some .boolean }, accessFlags := 9, code := some k1c2 }
/-- com/example/razione/razione/rating/PeriodEqualsPinLaw -/
def k1 : Class := { plain "com/example/razione/razione/rating/PeriodEqualsPinLaw" (some 0) with
  accessFlags := 49
  interfaces := #[]
  cf := some (fileOf pool1 21 #[] #[{ accessFlags := 1, nameIndex := 5, descriptorIndex := 6, attributes := #[] }, { accessFlags := 10, nameIndex := 24, descriptorIndex := 25, attributes := #[] }, { accessFlags := 9, nameIndex := 47, descriptorIndex := 48, attributes := #[] }] 49 2 #[] #[])
  fields := #[]
  methods := #[k1m0, k1m1, k1m2]
  instanceTypes := #[]
  staticTypes := #[]
  resolved := Array.replicate 53 none
  statics := none }

def pool2 : Array CpInfo := pool [(1, .class_ 2), (0, u "java/lang/Math"), (1, .class_ 6), (1, u "java/lang/Object"), (0, u "<init>"), (0, u "()V"), (89, .class_ 100), (1, u "java/lang/Math$RandomNumberGeneratorHolder"), (20, u "(JJ)J"), (50, u "negativeZeroFloatBits"), (0, u "J"), (2, u "negativeZeroDoubleBits"), (21, u "max"), (2, u "min"), (43, u "$assertionsDisabled"), (0, u "Z"), (91, u "twoToTheDoubleScaleDown"), (0, u "D"), (4, u "twoToTheDoubleScaleUp"), (9, u "E"), (3, u "PI"), (2, u "TAU"), (2, u "DEGREES_TO_RADIANS"), (0, u "RADIANS_TO_DEGREES")] 94

def k2m0 : Method := { name := "<init>", desc := "()V", sig := { parameters := [], returnType := none }, accessFlags := 2, code := none }
def k2c1 : Code := { maxStack := 4, maxLocals := 4, code := jdk_29_method_66_code, exceptionTable := #[], attributes := #[] }
def k2m1 : Method := { name := "max", desc := "(JJ)J", sig := { parameters := [.long, .long], returnType := some .long }, accessFlags := 9, code := some k2c1 }
def k2c2 : Code := { maxStack := 4, maxLocals := 4, code := jdk_29_method_70_code, exceptionTable := #[], attributes := #[] }
def k2m2 : Method := { name := "min", desc := "(JJ)J", sig := { parameters := [.long, .long], returnType := some .long }, accessFlags := 9, code := some k2c2 }
/-- java/lang/Math -/
def k2 : Class := { plain "java/lang/Math" (some 0) with
  accessFlags := 49
  interfaces := #[]
  cf := some (fileOf pool2 1 #[.nestMembers #[98]] #[{ accessFlags := 2, nameIndex := 7, descriptorIndex := 8, attributes := #[] }, { accessFlags := 9, nameIndex := 198, descriptorIndex := 121, attributes := #[] }, { accessFlags := 9, nameIndex := 201, descriptorIndex := 121, attributes := #[] }] 49 4 #[] #[{ accessFlags := 25, nameIndex := 354, descriptorIndex := 339, attributes := #[] }, { accessFlags := 25, nameIndex := 358, descriptorIndex := 339, attributes := #[] }, { accessFlags := 25, nameIndex := 361, descriptorIndex := 339, attributes := #[] }, { accessFlags := 26, nameIndex := 364, descriptorIndex := 339, attributes := #[] }, { accessFlags := 26, nameIndex := 365, descriptorIndex := 339, attributes := #[] }, { accessFlags := 26, nameIndex := 172, descriptorIndex := 173, attributes := #[] }, { accessFlags := 26, nameIndex := 176, descriptorIndex := 173, attributes := #[] }, { accessFlags := 8, nameIndex := 344, descriptorIndex := 339, attributes := #[] }, { accessFlags := 8, nameIndex := 338, descriptorIndex := 339, attributes := #[] }, { accessFlags := 4120, nameIndex := 245, descriptorIndex := 246, attributes := #[] }])
  fields := #[{ name := "E", type := .double, accessFlags := 25, slot := 0, constantValue := 0 }, { name := "PI", type := .double, accessFlags := 25, slot := 1, constantValue := 0 }, { name := "TAU", type := .double, accessFlags := 25, slot := 2, constantValue := 0 }, { name := "DEGREES_TO_RADIANS", type := .double, accessFlags := 26, slot := 3, constantValue := 0 }, { name := "RADIANS_TO_DEGREES", type := .double, accessFlags := 26, slot := 4, constantValue := 0 }, { name := "negativeZeroFloatBits", type := .long, accessFlags := 26, slot := 5, constantValue := 0 }, { name := "negativeZeroDoubleBits", type := .long, accessFlags := 26, slot := 6, constantValue := 0 }, { name := "twoToTheDoubleScaleUp", type := .double, accessFlags := 8, slot := 7, constantValue := 0 }, { name := "twoToTheDoubleScaleDown", type := .double, accessFlags := 8, slot := 8, constantValue := 0 }, { name := "$assertionsDisabled", type := .boolean, accessFlags := 4120, slot := 9, constantValue := 0 }]
  methods := #[k2m0, k2m1, k2m2]
  instanceTypes := #[]
  staticTypes := #[.double, .double, .double, .double, .double, .long, .long, .double, .double, .boolean]
  resolved := Array.replicate 460 none
  statics := none }

def pool3 : Array CpInfo := pool [(1, .methodref 2 3), (0, .class_ 4), (0, .nameAndType 5 6), (0, u "java/lang/Object"), (0, u "<init>"), (0, u "()V"), (0, .class_ 8), (0, u "java/lang/Record")] 13

def k3c0 : Code := { maxStack := 1, maxLocals := 1, code := jdk_30_method_1_code, exceptionTable := #[], attributes := #[] }
def k3m0 : Method := { name := "<init>", desc := "()V", sig := { parameters := [], returnType := none }, accessFlags := 4, code := some k3c0 }
/-- java/lang/Record -/
def k3 : Class := { plain "java/lang/Record" (some 0) with
  accessFlags := 1057
  interfaces := #[]
  cf := some (fileOf pool3 7 #[] #[{ accessFlags := 4, nameIndex := 5, descriptorIndex := 6, attributes := #[] }] 1057 2 #[] #[])
  fields := #[]
  methods := #[k3m0]
  instanceTypes := #[]
  staticTypes := #[]
  resolved := Array.replicate 22 none
  statics := none }

def pool4 : Array CpInfo := pool [(1, .methodref 2 3), (0, .class_ 4), (0, .nameAndType 5 6), (0, u "java/lang/Record"), (0, u "<init>"), (0, u "()V"), (9, .fieldref 17 18), (0, .class_ 19), (0, .nameAndType 20 21), (0, u "com/example/razione/razione/rating/Period"), (0, u "start"), (0, u "J"), (0, .fieldref 17 23), (0, .nameAndType 24 21), (0, u "end"), (14, u "(JJ)V"), (2, u "ALWAYS"), (0, u "Lcom/example/razione/razione/rating/Period;"), (6, u "equals"), (0, u "(Ljava/lang/Object;)Z")] 33

def k4c0 : Code := { maxStack := 4, maxLocals := 5, code := prog_55_method_1_code, exceptionTable := #[], attributes := #[] }
def k4m0 : Method := { name := "<init>", desc := "(JJ)V", sig := { parameters := [.long, .long], returnType := none }, accessFlags := 1, code := some k4c0 }
def k4c1 : Code := { maxStack := 4, maxLocals := 3, code := prog_55_method_3_code, exceptionTable := #[], attributes := #[] }
def k4m1 : Method := { name := "equals", desc := "(Ljava/lang/Object;)Z", sig := { parameters := [(.object "java/lang/Object")], returnType := some .boolean }, accessFlags := 1, code := some k4c1 }
/-- com/example/razione/razione/rating/Period -/
def k4 : Class := { plain "com/example/razione/razione/rating/Period" (some 3) with
  accessFlags := 49
  interfaces := #[]
  cf := some (fileOf pool4 17 #[] #[{ accessFlags := 1, nameIndex := 5, descriptorIndex := 39, attributes := #[] }, { accessFlags := 1, nameIndex := 50, descriptorIndex := 51, attributes := #[] }] 49 2 #[] #[{ accessFlags := 18, nameIndex := 20, descriptorIndex := 21, attributes := #[] }, { accessFlags := 18, nameIndex := 24, descriptorIndex := 21, attributes := #[] }, { accessFlags := 25, nameIndex := 42, descriptorIndex := 43, attributes := #[] }])
  fields := #[{ name := "start", type := .long, accessFlags := 18, slot := 0, constantValue := 0 }, { name := "end", type := .long, accessFlags := 18, slot := 1, constantValue := 0 }, { name := "ALWAYS", type := (.object "com/example/razione/razione/rating/Period"), accessFlags := 25, slot := 0, constantValue := 0 }]
  methods := #[k4m0, k4m1]
  instanceTypes := #[.long, .long]
  staticTypes := #[(.object "com/example/razione/razione/rating/Period")]
  resolved := Array.replicate 85 none
  statics := none }

def pool5 : Array CpInfo := pool [(1, .class_ 2), (0, u "java/io/Serializable"), (0, .class_ 4), (0, u "java/lang/Object")] 2

/-- java/io/Serializable -/
def k5 : Class := { plain "java/io/Serializable" (some 0) with
  accessFlags := 1537
  interfaces := #[]
  cf := some (fileOf pool5 1 #[] #[] 1537 3 #[] #[])
  fields := #[]
  methods := #[]
  instanceTypes := #[]
  staticTypes := #[]
  resolved := Array.replicate 7 none
  statics := none }

def pool6 : Array CpInfo := pool [(1, .methodref 2 3), (0, .class_ 4), (0, .nameAndType 5 6), (0, u "java/lang/Object"), (0, u "<init>"), (0, u "()V"), (1, .class_ 10), (1, u "java/lang/Number"), (2, .class_ 14), (0, u "java/io/Serializable"), (0, u "serialVersionUID"), (0, u "J")] 20

def k6c0 : Code := { maxStack := 1, maxLocals := 1, code := jdk_18_method_1_code, exceptionTable := #[], attributes := #[] }
def k6m0 : Method := { name := "<init>", desc := "()V", sig := { parameters := [], returnType := none }, accessFlags := 1, code := some k6c0 }
/-- java/lang/Number -/
def k6 : Class := { plain "java/lang/Number" (some 0) with
  accessFlags := 1057
  interfaces := #[5]
  cf := some (fileOf pool6 8 #[] #[{ accessFlags := 1, nameIndex := 5, descriptorIndex := 6, attributes := #[] }] 1057 2 #[13] #[{ accessFlags := 26, nameIndex := 15, descriptorIndex := 16, attributes := #[] }])
  fields := #[{ name := "serialVersionUID", type := .long, accessFlags := 26, slot := 0, constantValue := 0 }]
  methods := #[k6m0]
  instanceTypes := #[]
  staticTypes := #[.long]
  resolved := Array.replicate 37 none
  statics := none }

def pool7 : Array CpInfo := pool [(1, .class_ 2), (0, u "java/lang/Comparable"), (0, .class_ 4), (0, u "java/lang/Object")] 7

/-- java/lang/Comparable -/
def k7 : Class := { plain "java/lang/Comparable" (some 0) with
  accessFlags := 1537
  interfaces := #[]
  cf := some (fileOf pool7 1 #[] #[] 1537 3 #[] #[])
  fields := #[]
  methods := #[]
  instanceTypes := #[]
  staticTypes := #[]
  resolved := Array.replicate 12 none
  statics := none }

def pool8 : Array CpInfo := pool [(1, .class_ 2), (0, u "java/lang/constant/Constable"), (0, .class_ 4), (0, u "java/lang/Object")] 6

/-- java/lang/constant/Constable -/
def k8 : Class := { plain "java/lang/constant/Constable" (some 0) with
  accessFlags := 1537
  interfaces := #[]
  cf := some (fileOf pool8 1 #[] #[] 1537 3 #[] #[])
  fields := #[]
  methods := #[]
  instanceTypes := #[]
  staticTypes := #[]
  resolved := Array.replicate 11 none
  statics := none }

def pool9 : Array CpInfo := pool [(1, .class_ 2), (0, u "java/lang/constant/ConstantDesc"), (0, .class_ 4), (0, u "java/lang/Object")] 32

/-- java/lang/constant/ConstantDesc -/
def k9 : Class := { plain "java/lang/constant/ConstantDesc" (some 0) with
  accessFlags := 1537
  interfaces := #[]
  cf := some (fileOf pool9 1 #[] #[] 1537 3 #[] #[])
  fields := #[]
  methods := #[]
  instanceTypes := #[]
  staticTypes := #[]
  resolved := Array.replicate 37 none
  statics := none }

def pool10 : Array CpInfo := pool [(1, .class_ 2), (0, u "java/lang/Integer"), (16, u "digits"), (0, u "[C"), (46, u "<init>"), (17, u "DigitOnes"), (0, u "[B"), (2, u "DigitTens"), (10, .nameAndType 67 101), (0, u "()V"), (85, u "valueOf"), (0, u "(I)Ljava/lang/Integer;"), (0, .class_ 190), (0, u "java/lang/Integer$IntegerCache"), (0, .fieldref 189 192), (0, .nameAndType 193 194), (0, u "high"), (0, u "I"), (0, .fieldref 189 196), (0, .nameAndType 197 198), (0, u "cache"), (0, u "[Ljava/lang/Integer;"), (0, .methodref 1 200), (0, .nameAndType 67 201), (0, u "(I)V"), (0, .methodref 203 100), (0, .class_ 204), (0, u "java/lang/Number"), (0, .fieldref 1 206), (0, .nameAndType 207 194), (0, u "value"), (94, u "TYPE"), (0, u "Ljava/lang/Class;"), (0, .class_ 305), (0, u "java/lang/Comparable"), (0, .class_ 307), (0, u "java/lang/constant/Constable"), (0, .class_ 309), (0, u "java/lang/constant/ConstantDesc"), (0, u "MIN_VALUE"), (1, u "MAX_VALUE"), (3, u "SIZE"), (1, u "BYTES"), (1, u "serialVersionUID"), (0, u "J")] 131

def k10c0 : Code := { maxStack := 3, maxLocals := 1, code := jdk_33_method_22_code, exceptionTable := #[], attributes := #[] }
def k10m0 : Method := { name := "valueOf", desc := "(I)Ljava/lang/Integer;", sig := { parameters := [.int], returnType := some (.object "java/lang/Integer") }, accessFlags := 9, code := some k10c0 }
def k10c1 : Code := { maxStack := 2, maxLocals := 2, code := jdk_33_method_23_code, exceptionTable := #[], attributes := #[] }
def k10m1 : Method := { name := "<init>", desc := "(I)V", sig := { parameters := [.int], returnType := none }, accessFlags := 1, code := some k10c1 }
/-- java/lang/Integer -/
def k10 : Class := { plain "java/lang/Integer" (some 6) with
  accessFlags := 49
  interfaces := #[7, 8, 9]
  cf := some (fileOf pool10 1 #[.nestMembers #[189]] #[{ accessFlags := 9, nameIndex := 187, descriptorIndex := 188, attributes := #[] }, { accessFlags := 1, nameIndex := 67, descriptorIndex := 201, attributes := #[] }] 49 203 #[304, 306, 308] #[{ accessFlags := 25, nameIndex := 310, descriptorIndex := 194, attributes := #[] }, { accessFlags := 25, nameIndex := 312, descriptorIndex := 194, attributes := #[] }, { accessFlags := 25, nameIndex := 302, descriptorIndex := 303, attributes := #[] }, { accessFlags := 24, nameIndex := 19, descriptorIndex := 20, attributes := #[] }, { accessFlags := 24, nameIndex := 89, descriptorIndex := 86, attributes := #[] }, { accessFlags := 24, nameIndex := 85, descriptorIndex := 86, attributes := #[] }, { accessFlags := 18, nameIndex := 207, descriptorIndex := 194, attributes := #[] }, { accessFlags := 25, nameIndex := 316, descriptorIndex := 194, attributes := #[] }, { accessFlags := 25, nameIndex := 318, descriptorIndex := 194, attributes := #[] }, { accessFlags := 26, nameIndex := 320, descriptorIndex := 321, attributes := #[] }])
  fields := #[{ name := "MIN_VALUE", type := .int, accessFlags := 25, slot := 0, constantValue := 0 }, { name := "MAX_VALUE", type := .int, accessFlags := 25, slot := 1, constantValue := 0 }, { name := "TYPE", type := (.object "java/lang/Class"), accessFlags := 25, slot := 2, constantValue := 0 }, { name := "digits", type := (.array .char), accessFlags := 24, slot := 3, constantValue := 0 }, { name := "DigitTens", type := (.array .byte), accessFlags := 24, slot := 4, constantValue := 0 }, { name := "DigitOnes", type := (.array .byte), accessFlags := 24, slot := 5, constantValue := 0 }, { name := "value", type := .int, accessFlags := 18, slot := 0, constantValue := 0 }, { name := "SIZE", type := .int, accessFlags := 25, slot := 6, constantValue := 0 }, { name := "BYTES", type := .int, accessFlags := 25, slot := 7, constantValue := 0 }, { name := "serialVersionUID", type := .long, accessFlags := 26, slot := 8, constantValue := 0 }]
  methods := #[k10m0, k10m1]
  instanceTypes := #[.int]
  staticTypes := #[.int, .int, (.object "java/lang/Class"), (.array .char), (.array .byte), (.array .byte), .int, .int, .long]
  resolved := Array.replicate 453 none
  statics := none }

def pool11 : Array CpInfo := pool [(2, .class_ 4), (1, u "java/lang/Object"), (0, u "<init>"), (0, u "()V"), (0, .class_ 8), (0, u "java/lang/Integer"), (7, .class_ 18), (1, u "java/lang/Integer$IntegerCache"), (0, u "$assertionsDisabled"), (0, u "Z"), (26, u "high"), (0, u "I"), (8, u "archivedCache"), (0, u "[Ljava/lang/Integer;"), (12, u "cache"), (0, u "low")] 27

def k11m0 : Method := { name := "<init>", desc := "()V", sig := { parameters := [], returnType := none }, accessFlags := 2, code := none }
/-- java/lang/Integer$IntegerCache -/
def k11 : Class := { plain "java/lang/Integer$IntegerCache" (some 0) with
  accessFlags := 48
  interfaces := #[]
  cf := some (fileOf pool11 16 #[.nestHost 7] #[{ accessFlags := 2, nameIndex := 5, descriptorIndex := 6, attributes := #[] }] 48 2 #[] #[{ accessFlags := 24, nameIndex := 72, descriptorIndex := 48, attributes := #[] }, { accessFlags := 24, nameIndex := 47, descriptorIndex := 48, attributes := #[] }, { accessFlags := 24, nameIndex := 71, descriptorIndex := 58, attributes := #[] }, { accessFlags := 8, nameIndex := 57, descriptorIndex := 58, attributes := #[] }, { accessFlags := 4120, nameIndex := 19, descriptorIndex := 20, attributes := #[] }])
  fields := #[{ name := "low", type := .int, accessFlags := 24, slot := 0, constantValue := 0 }, { name := "high", type := .int, accessFlags := 24, slot := 1, constantValue := 0 }, { name := "cache", type := (.array (.object "java/lang/Integer")), accessFlags := 24, slot := 2, constantValue := 0 }, { name := "archivedCache", type := (.array (.object "java/lang/Integer")), accessFlags := 8, slot := 3, constantValue := 0 }, { name := "$assertionsDisabled", type := .boolean, accessFlags := 4120, slot := 4, constantValue := 0 }]
  methods := #[k11m0]
  instanceTypes := #[]
  staticTypes := #[.int, .int, (.array (.object "java/lang/Integer")), (.array (.object "java/lang/Integer")), .boolean]
  resolved := Array.replicate 100 none
  statics := some 0 }

def pool12 : Array CpInfo := pool [(1, .class_ 2), (0, u "java/lang/Long"), (55, .nameAndType 59 60), (0, u "<init>"), (0, u "()V"), (24, u "valueOf"), (143, u "(J)Ljava/lang/Long;"), (0, .long 18446744073709551488), (1, .long 127), (1, .fieldref 235 236), (0, .class_ 237), (0, .nameAndType 238 239), (0, u "java/lang/Long$LongCache"), (0, u "cache"), (0, u "[Ljava/lang/Long;"), (0, .methodref 1 241), (0, .nameAndType 59 242), (0, u "(J)V"), (27, .methodref 271 58), (0, .class_ 272), (0, u "java/lang/Number"), (0, .fieldref 1 274), (0, .nameAndType 275 276), (0, u "value"), (0, u "J"), (84, u "TYPE"), (0, u "Ljava/lang/Class;"), (0, .class_ 364), (0, u "java/lang/Comparable"), (0, .class_ 366), (0, u "java/lang/constant/Constable"), (0, .class_ 368), (0, u "java/lang/constant/ConstantDesc"), (0, u "MIN_VALUE"), (1, u "MAX_VALUE"), (4, u "SIZE"), (0, u "I"), (1, u "BYTES"), (1, u "serialVersionUID")] 142

def k12c0 : Code := { maxStack := 4, maxLocals := 3, code := jdk_35_method_24_code, exceptionTable := #[], attributes := #[] }
def k12m0 : Method := { name := "valueOf", desc := "(J)Ljava/lang/Long;", sig := { parameters := [.long], returnType := some (.object "java/lang/Long") }, accessFlags := 9, code := some k12c0 }
def k12c1 : Code := { maxStack := 3, maxLocals := 3, code := jdk_35_method_26_code, exceptionTable := #[], attributes := #[] }
def k12m1 : Method := { name := "<init>", desc := "(J)V", sig := { parameters := [.long], returnType := none }, accessFlags := 1, code := some k12c1 }
/-- java/lang/Long -/
def k12 : Class := { plain "java/lang/Long" (some 6) with
  accessFlags := 49
  interfaces := #[7, 8, 9]
  cf := some (fileOf pool12 1 #[.nestMembers #[235]] #[{ accessFlags := 9, nameIndex := 85, descriptorIndex := 229, attributes := #[] }, { accessFlags := 1, nameIndex := 59, descriptorIndex := 242, attributes := #[] }] 49 271 #[363, 365, 367] #[{ accessFlags := 25, nameIndex := 369, descriptorIndex := 276, attributes := #[] }, { accessFlags := 25, nameIndex := 371, descriptorIndex := 276, attributes := #[] }, { accessFlags := 25, nameIndex := 361, descriptorIndex := 362, attributes := #[] }, { accessFlags := 18, nameIndex := 275, descriptorIndex := 276, attributes := #[] }, { accessFlags := 25, nameIndex := 376, descriptorIndex := 377, attributes := #[] }, { accessFlags := 25, nameIndex := 379, descriptorIndex := 377, attributes := #[] }, { accessFlags := 26, nameIndex := 381, descriptorIndex := 276, attributes := #[] }])
  fields := #[{ name := "MIN_VALUE", type := .long, accessFlags := 25, slot := 0, constantValue := 0 }, { name := "MAX_VALUE", type := .long, accessFlags := 25, slot := 1, constantValue := 0 }, { name := "TYPE", type := (.object "java/lang/Class"), accessFlags := 25, slot := 2, constantValue := 0 }, { name := "value", type := .long, accessFlags := 18, slot := 0, constantValue := 0 }, { name := "SIZE", type := .int, accessFlags := 25, slot := 3, constantValue := 0 }, { name := "BYTES", type := .int, accessFlags := 25, slot := 4, constantValue := 0 }, { name := "serialVersionUID", type := .long, accessFlags := 26, slot := 5, constantValue := 0 }]
  methods := #[k12m0, k12m1]
  instanceTypes := #[.long]
  staticTypes := #[.long, .long, (.object "java/lang/Class"), .int, .int, .long]
  resolved := Array.replicate 524 none
  statics := none }

def pool13 : Array CpInfo := pool [(2, .class_ 4), (1, u "java/lang/Object"), (0, u "<init>"), (0, u "()V"), (0, .class_ 8), (0, u "java/lang/Long"), (7, .class_ 18), (1, u "java/lang/Long$LongCache"), (0, u "$assertionsDisabled"), (0, u "Z"), (8, u "archivedCache"), (0, u "[Ljava/lang/Long;"), (7, u "cache")] 24

def k13m0 : Method := { name := "<init>", desc := "()V", sig := { parameters := [], returnType := none }, accessFlags := 2, code := none }
/-- java/lang/Long$LongCache -/
def k13 : Class := { plain "java/lang/Long$LongCache" (some 0) with
  accessFlags := 48
  interfaces := #[]
  cf := some (fileOf pool13 16 #[.nestHost 7] #[{ accessFlags := 2, nameIndex := 5, descriptorIndex := 6, attributes := #[] }] 48 2 #[] #[{ accessFlags := 24, nameIndex := 38, descriptorIndex := 30, attributes := #[] }, { accessFlags := 8, nameIndex := 29, descriptorIndex := 30, attributes := #[] }, { accessFlags := 4120, nameIndex := 19, descriptorIndex := 20, attributes := #[] }])
  fields := #[{ name := "cache", type := (.array (.object "java/lang/Long")), accessFlags := 24, slot := 0, constantValue := 0 }, { name := "archivedCache", type := (.array (.object "java/lang/Long")), accessFlags := 8, slot := 1, constantValue := 0 }, { name := "$assertionsDisabled", type := .boolean, accessFlags := 4120, slot := 2, constantValue := 0 }]
  methods := #[k13m0]
  instanceTypes := #[]
  staticTypes := #[(.array (.object "java/lang/Long")), (.array (.object "java/lang/Long")), .boolean]
  resolved := Array.replicate 63 none
  statics := some 1 }

def pool14 : Array CpInfo := pool [(1, u "java/lang/Cloneable"), (0, .class_ 1), (0, u "java/lang/Object"), (0, .class_ 3)] 3

/-- java/lang/Cloneable -/
def k14 : Class := { plain "java/lang/Cloneable" (some 0) with
  accessFlags := 1537
  interfaces := #[]
  cf := some (fileOf pool14 2 #[] #[] 1537 4 #[] #[])
  fields := #[]
  methods := #[]
  instanceTypes := #[]
  staticTypes := #[]
  resolved := Array.replicate 8 none
  statics := none }

/-- the primitive byte -/
def k15 : Class := { plain "byte" none with kind := .primitive 'B', accessFlags := 0x411 }
/-- [B -/
def k16 : Class := { plain "[B" (some 0) with kind := .array 15 .byte, interfaces := #[14, 5], accessFlags := 1041 }

/-- the primitive int -/
def k17 : Class := { plain "int" none with kind := .primitive 'I', accessFlags := 0x411 }
/-- [I -/
def k18 : Class := { plain "[I" (some 0) with kind := .array 17 .int, interfaces := #[14, 5], accessFlags := 1041 }

/-- the primitive long -/
def k19 : Class := { plain "long" none with kind := .primitive 'J', accessFlags := 0x411 }
/-- [J -/
def k20 : Class := { plain "[J" (some 0) with kind := .array 19 .long, interfaces := #[14, 5], accessFlags := 1041 }

/-- [Ljava/lang/Integer; -/
def k21 : Class := { plain "[Ljava/lang/Integer;" (some 0) with kind := .array 10 (.object "java/lang/Integer"), interfaces := #[14, 5], accessFlags := 1041 }

/-- [Ljava/lang/Long; -/
def k22 : Class := { plain "[Ljava/lang/Long;" (some 0) with kind := .array 12 (.object "java/lang/Long"), interfaces := #[14, 5], accessFlags := 1041 }

def heap : Heap := #[{ cls := 11, slots := #[.int 0, .int 127, .ref 2, .null, .int 0], vm := .statics 11 },
  { cls := 13, slots := #[.ref 3, .null, .int 0], vm := .statics 13 },
  { cls := 21, slots := #[.ref 4, .ref 5, .ref 6, .ref 7, .ref 8, .ref 9, .ref 10, .ref 11, .ref 12, .ref 13, .ref 14, .ref 15, .ref 16, .ref 17, .ref 18, .ref 19, .ref 20, .ref 21, .ref 22, .ref 23, .ref 24, .ref 25, .ref 26, .ref 27, .ref 28, .ref 29, .ref 30, .ref 31, .ref 32, .ref 33, .ref 34, .ref 35, .ref 36, .ref 37, .ref 38, .ref 39, .ref 40, .ref 41, .ref 42, .ref 43, .ref 44, .ref 45, .ref 46, .ref 47, .ref 48, .ref 49, .ref 50, .ref 51, .ref 52, .ref 53, .ref 54, .ref 55, .ref 56, .ref 57, .ref 58, .ref 59, .ref 60, .ref 61, .ref 62, .ref 63, .ref 64, .ref 65, .ref 66, .ref 67, .ref 68, .ref 69, .ref 70, .ref 71, .ref 72, .ref 73, .ref 74, .ref 75, .ref 76, .ref 77, .ref 78, .ref 79, .ref 80, .ref 81, .ref 82, .ref 83, .ref 84, .ref 85, .ref 86, .ref 87, .ref 88, .ref 89, .ref 90, .ref 91, .ref 92, .ref 93, .ref 94, .ref 95, .ref 96, .ref 97, .ref 98, .ref 99, .ref 100, .ref 101, .ref 102, .ref 103, .ref 104, .ref 105, .ref 106, .ref 107, .ref 108, .ref 109, .ref 110, .ref 111, .ref 112, .ref 113, .ref 114, .ref 115, .ref 116, .ref 117, .ref 118, .ref 119, .ref 120, .ref 121, .ref 122, .ref 123, .ref 124, .ref 125, .ref 126, .ref 127, .ref 128, .ref 129, .ref 130, .ref 131, .ref 132, .ref 133, .ref 134, .ref 135, .ref 136, .ref 137, .ref 138, .ref 139, .ref 140, .ref 141, .ref 142, .ref 143, .ref 144, .ref 145, .ref 146, .ref 147, .ref 148, .ref 149, .ref 150, .ref 151, .ref 152, .ref 153, .ref 154, .ref 155, .ref 156, .ref 157, .ref 158, .ref 159, .ref 160, .ref 161, .ref 162, .ref 163, .ref 164, .ref 165, .ref 166, .ref 167, .ref 168, .ref 169, .ref 170, .ref 171, .ref 172, .ref 173, .ref 174, .ref 175, .ref 176, .ref 177, .ref 178, .ref 179, .ref 180, .ref 181, .ref 182, .ref 183, .ref 184, .ref 185, .ref 186, .ref 187, .ref 188, .ref 189, .ref 190, .ref 191, .ref 192, .ref 193, .ref 194, .ref 195, .ref 196, .ref 197, .ref 198, .ref 199, .ref 200, .ref 201, .ref 202, .ref 203, .ref 204, .ref 205, .ref 206, .ref 207, .ref 208, .ref 209, .ref 210, .ref 211, .ref 212, .ref 213, .ref 214, .ref 215, .ref 216, .ref 217, .ref 218, .ref 219, .ref 220, .ref 221, .ref 222, .ref 223, .ref 224, .ref 225, .ref 226, .ref 227, .ref 228, .ref 229, .ref 230, .ref 231, .ref 232, .ref 233, .ref 234, .ref 235, .ref 236, .ref 237, .ref 238, .ref 239, .ref 240, .ref 241, .ref 242, .ref 243, .ref 244, .ref 245, .ref 246, .ref 247, .ref 248, .ref 249, .ref 250, .ref 251, .ref 252, .ref 253, .ref 254, .ref 255, .ref 256, .ref 257, .ref 258, .ref 259], vm := .none },
  { cls := 22, slots := #[.ref 260, .ref 261, .ref 262, .ref 263, .ref 264, .ref 265, .ref 266, .ref 267, .ref 268, .ref 269, .ref 270, .ref 271, .ref 272, .ref 273, .ref 274, .ref 275, .ref 276, .ref 277, .ref 278, .ref 279, .ref 280, .ref 281, .ref 282, .ref 283, .ref 284, .ref 285, .ref 286, .ref 287, .ref 288, .ref 289, .ref 290, .ref 291, .ref 292, .ref 293, .ref 294, .ref 295, .ref 296, .ref 297, .ref 298, .ref 299, .ref 300, .ref 301, .ref 302, .ref 303, .ref 304, .ref 305, .ref 306, .ref 307, .ref 308, .ref 309, .ref 310, .ref 311, .ref 312, .ref 313, .ref 314, .ref 315, .ref 316, .ref 317, .ref 318, .ref 319, .ref 320, .ref 321, .ref 322, .ref 323, .ref 324, .ref 325, .ref 326, .ref 327, .ref 328, .ref 329, .ref 330, .ref 331, .ref 332, .ref 333, .ref 334, .ref 335, .ref 336, .ref 337, .ref 338, .ref 339, .ref 340, .ref 341, .ref 342, .ref 343, .ref 344, .ref 345, .ref 346, .ref 347, .ref 348, .ref 349, .ref 350, .ref 351, .ref 352, .ref 353, .ref 354, .ref 355, .ref 356, .ref 357, .ref 358, .ref 359, .ref 360, .ref 361, .ref 362, .ref 363, .ref 364, .ref 365, .ref 366, .ref 367, .ref 368, .ref 369, .ref 370, .ref 371, .ref 372, .ref 373, .ref 374, .ref 375, .ref 376, .ref 377, .ref 378, .ref 379, .ref 380, .ref 381, .ref 382, .ref 383, .ref 384, .ref 385, .ref 386, .ref 387, .ref 388, .ref 389, .ref 390, .ref 391, .ref 392, .ref 393, .ref 394, .ref 395, .ref 396, .ref 397, .ref 398, .ref 399, .ref 400, .ref 401, .ref 402, .ref 403, .ref 404, .ref 405, .ref 406, .ref 407, .ref 408, .ref 409, .ref 410, .ref 411, .ref 412, .ref 413, .ref 414, .ref 415, .ref 416, .ref 417, .ref 418, .ref 419, .ref 420, .ref 421, .ref 422, .ref 423, .ref 424, .ref 425, .ref 426, .ref 427, .ref 428, .ref 429, .ref 430, .ref 431, .ref 432, .ref 433, .ref 434, .ref 435, .ref 436, .ref 437, .ref 438, .ref 439, .ref 440, .ref 441, .ref 442, .ref 443, .ref 444, .ref 445, .ref 446, .ref 447, .ref 448, .ref 449, .ref 450, .ref 451, .ref 452, .ref 453, .ref 454, .ref 455, .ref 456, .ref 457, .ref 458, .ref 459, .ref 460, .ref 461, .ref 462, .ref 463, .ref 464, .ref 465, .ref 466, .ref 467, .ref 468, .ref 469, .ref 470, .ref 471, .ref 472, .ref 473, .ref 474, .ref 475, .ref 476, .ref 477, .ref 478, .ref 479, .ref 480, .ref 481, .ref 482, .ref 483, .ref 484, .ref 485, .ref 486, .ref 487, .ref 488, .ref 489, .ref 490, .ref 491, .ref 492, .ref 493, .ref 494, .ref 495, .ref 496, .ref 497, .ref 498, .ref 499, .ref 500, .ref 501, .ref 502, .ref 503, .ref 504, .ref 505, .ref 506, .ref 507, .ref 508, .ref 509, .ref 510, .ref 511, .ref 512, .ref 513, .ref 514, .ref 515], vm := .none },
  { cls := 10, slots := #[.int (-128)], vm := .none },
  { cls := 10, slots := #[.int (-127)], vm := .none },
  { cls := 10, slots := #[.int (-126)], vm := .none },
  { cls := 10, slots := #[.int (-125)], vm := .none },
  { cls := 10, slots := #[.int (-124)], vm := .none },
  { cls := 10, slots := #[.int (-123)], vm := .none },
  { cls := 10, slots := #[.int (-122)], vm := .none },
  { cls := 10, slots := #[.int (-121)], vm := .none },
  { cls := 10, slots := #[.int (-120)], vm := .none },
  { cls := 10, slots := #[.int (-119)], vm := .none },
  { cls := 10, slots := #[.int (-118)], vm := .none },
  { cls := 10, slots := #[.int (-117)], vm := .none },
  { cls := 10, slots := #[.int (-116)], vm := .none },
  { cls := 10, slots := #[.int (-115)], vm := .none },
  { cls := 10, slots := #[.int (-114)], vm := .none },
  { cls := 10, slots := #[.int (-113)], vm := .none },
  { cls := 10, slots := #[.int (-112)], vm := .none },
  { cls := 10, slots := #[.int (-111)], vm := .none },
  { cls := 10, slots := #[.int (-110)], vm := .none },
  { cls := 10, slots := #[.int (-109)], vm := .none },
  { cls := 10, slots := #[.int (-108)], vm := .none },
  { cls := 10, slots := #[.int (-107)], vm := .none },
  { cls := 10, slots := #[.int (-106)], vm := .none },
  { cls := 10, slots := #[.int (-105)], vm := .none },
  { cls := 10, slots := #[.int (-104)], vm := .none },
  { cls := 10, slots := #[.int (-103)], vm := .none },
  { cls := 10, slots := #[.int (-102)], vm := .none },
  { cls := 10, slots := #[.int (-101)], vm := .none },
  { cls := 10, slots := #[.int (-100)], vm := .none },
  { cls := 10, slots := #[.int (-99)], vm := .none },
  { cls := 10, slots := #[.int (-98)], vm := .none },
  { cls := 10, slots := #[.int (-97)], vm := .none },
  { cls := 10, slots := #[.int (-96)], vm := .none },
  { cls := 10, slots := #[.int (-95)], vm := .none },
  { cls := 10, slots := #[.int (-94)], vm := .none },
  { cls := 10, slots := #[.int (-93)], vm := .none },
  { cls := 10, slots := #[.int (-92)], vm := .none },
  { cls := 10, slots := #[.int (-91)], vm := .none },
  { cls := 10, slots := #[.int (-90)], vm := .none },
  { cls := 10, slots := #[.int (-89)], vm := .none },
  { cls := 10, slots := #[.int (-88)], vm := .none },
  { cls := 10, slots := #[.int (-87)], vm := .none },
  { cls := 10, slots := #[.int (-86)], vm := .none },
  { cls := 10, slots := #[.int (-85)], vm := .none },
  { cls := 10, slots := #[.int (-84)], vm := .none },
  { cls := 10, slots := #[.int (-83)], vm := .none },
  { cls := 10, slots := #[.int (-82)], vm := .none },
  { cls := 10, slots := #[.int (-81)], vm := .none },
  { cls := 10, slots := #[.int (-80)], vm := .none },
  { cls := 10, slots := #[.int (-79)], vm := .none },
  { cls := 10, slots := #[.int (-78)], vm := .none },
  { cls := 10, slots := #[.int (-77)], vm := .none },
  { cls := 10, slots := #[.int (-76)], vm := .none },
  { cls := 10, slots := #[.int (-75)], vm := .none },
  { cls := 10, slots := #[.int (-74)], vm := .none },
  { cls := 10, slots := #[.int (-73)], vm := .none },
  { cls := 10, slots := #[.int (-72)], vm := .none },
  { cls := 10, slots := #[.int (-71)], vm := .none },
  { cls := 10, slots := #[.int (-70)], vm := .none },
  { cls := 10, slots := #[.int (-69)], vm := .none },
  { cls := 10, slots := #[.int (-68)], vm := .none },
  { cls := 10, slots := #[.int (-67)], vm := .none },
  { cls := 10, slots := #[.int (-66)], vm := .none },
  { cls := 10, slots := #[.int (-65)], vm := .none },
  { cls := 10, slots := #[.int (-64)], vm := .none },
  { cls := 10, slots := #[.int (-63)], vm := .none },
  { cls := 10, slots := #[.int (-62)], vm := .none },
  { cls := 10, slots := #[.int (-61)], vm := .none },
  { cls := 10, slots := #[.int (-60)], vm := .none },
  { cls := 10, slots := #[.int (-59)], vm := .none },
  { cls := 10, slots := #[.int (-58)], vm := .none },
  { cls := 10, slots := #[.int (-57)], vm := .none },
  { cls := 10, slots := #[.int (-56)], vm := .none },
  { cls := 10, slots := #[.int (-55)], vm := .none },
  { cls := 10, slots := #[.int (-54)], vm := .none },
  { cls := 10, slots := #[.int (-53)], vm := .none },
  { cls := 10, slots := #[.int (-52)], vm := .none },
  { cls := 10, slots := #[.int (-51)], vm := .none },
  { cls := 10, slots := #[.int (-50)], vm := .none },
  { cls := 10, slots := #[.int (-49)], vm := .none },
  { cls := 10, slots := #[.int (-48)], vm := .none },
  { cls := 10, slots := #[.int (-47)], vm := .none },
  { cls := 10, slots := #[.int (-46)], vm := .none },
  { cls := 10, slots := #[.int (-45)], vm := .none },
  { cls := 10, slots := #[.int (-44)], vm := .none },
  { cls := 10, slots := #[.int (-43)], vm := .none },
  { cls := 10, slots := #[.int (-42)], vm := .none },
  { cls := 10, slots := #[.int (-41)], vm := .none },
  { cls := 10, slots := #[.int (-40)], vm := .none },
  { cls := 10, slots := #[.int (-39)], vm := .none },
  { cls := 10, slots := #[.int (-38)], vm := .none },
  { cls := 10, slots := #[.int (-37)], vm := .none },
  { cls := 10, slots := #[.int (-36)], vm := .none },
  { cls := 10, slots := #[.int (-35)], vm := .none },
  { cls := 10, slots := #[.int (-34)], vm := .none },
  { cls := 10, slots := #[.int (-33)], vm := .none },
  { cls := 10, slots := #[.int (-32)], vm := .none },
  { cls := 10, slots := #[.int (-31)], vm := .none },
  { cls := 10, slots := #[.int (-30)], vm := .none },
  { cls := 10, slots := #[.int (-29)], vm := .none },
  { cls := 10, slots := #[.int (-28)], vm := .none },
  { cls := 10, slots := #[.int (-27)], vm := .none },
  { cls := 10, slots := #[.int (-26)], vm := .none },
  { cls := 10, slots := #[.int (-25)], vm := .none },
  { cls := 10, slots := #[.int (-24)], vm := .none },
  { cls := 10, slots := #[.int (-23)], vm := .none },
  { cls := 10, slots := #[.int (-22)], vm := .none },
  { cls := 10, slots := #[.int (-21)], vm := .none },
  { cls := 10, slots := #[.int (-20)], vm := .none },
  { cls := 10, slots := #[.int (-19)], vm := .none },
  { cls := 10, slots := #[.int (-18)], vm := .none },
  { cls := 10, slots := #[.int (-17)], vm := .none },
  { cls := 10, slots := #[.int (-16)], vm := .none },
  { cls := 10, slots := #[.int (-15)], vm := .none },
  { cls := 10, slots := #[.int (-14)], vm := .none },
  { cls := 10, slots := #[.int (-13)], vm := .none },
  { cls := 10, slots := #[.int (-12)], vm := .none },
  { cls := 10, slots := #[.int (-11)], vm := .none },
  { cls := 10, slots := #[.int (-10)], vm := .none },
  { cls := 10, slots := #[.int (-9)], vm := .none },
  { cls := 10, slots := #[.int (-8)], vm := .none },
  { cls := 10, slots := #[.int (-7)], vm := .none },
  { cls := 10, slots := #[.int (-6)], vm := .none },
  { cls := 10, slots := #[.int (-5)], vm := .none },
  { cls := 10, slots := #[.int (-4)], vm := .none },
  { cls := 10, slots := #[.int (-3)], vm := .none },
  { cls := 10, slots := #[.int (-2)], vm := .none },
  { cls := 10, slots := #[.int (-1)], vm := .none },
  { cls := 10, slots := #[.int (0)], vm := .none },
  { cls := 10, slots := #[.int (1)], vm := .none },
  { cls := 10, slots := #[.int (2)], vm := .none },
  { cls := 10, slots := #[.int (3)], vm := .none },
  { cls := 10, slots := #[.int (4)], vm := .none },
  { cls := 10, slots := #[.int (5)], vm := .none },
  { cls := 10, slots := #[.int (6)], vm := .none },
  { cls := 10, slots := #[.int (7)], vm := .none },
  { cls := 10, slots := #[.int (8)], vm := .none },
  { cls := 10, slots := #[.int (9)], vm := .none },
  { cls := 10, slots := #[.int (10)], vm := .none },
  { cls := 10, slots := #[.int (11)], vm := .none },
  { cls := 10, slots := #[.int (12)], vm := .none },
  { cls := 10, slots := #[.int (13)], vm := .none },
  { cls := 10, slots := #[.int (14)], vm := .none },
  { cls := 10, slots := #[.int (15)], vm := .none },
  { cls := 10, slots := #[.int (16)], vm := .none },
  { cls := 10, slots := #[.int (17)], vm := .none },
  { cls := 10, slots := #[.int (18)], vm := .none },
  { cls := 10, slots := #[.int (19)], vm := .none },
  { cls := 10, slots := #[.int (20)], vm := .none },
  { cls := 10, slots := #[.int (21)], vm := .none },
  { cls := 10, slots := #[.int (22)], vm := .none },
  { cls := 10, slots := #[.int (23)], vm := .none },
  { cls := 10, slots := #[.int (24)], vm := .none },
  { cls := 10, slots := #[.int (25)], vm := .none },
  { cls := 10, slots := #[.int (26)], vm := .none },
  { cls := 10, slots := #[.int (27)], vm := .none },
  { cls := 10, slots := #[.int (28)], vm := .none },
  { cls := 10, slots := #[.int (29)], vm := .none },
  { cls := 10, slots := #[.int (30)], vm := .none },
  { cls := 10, slots := #[.int (31)], vm := .none },
  { cls := 10, slots := #[.int (32)], vm := .none },
  { cls := 10, slots := #[.int (33)], vm := .none },
  { cls := 10, slots := #[.int (34)], vm := .none },
  { cls := 10, slots := #[.int (35)], vm := .none },
  { cls := 10, slots := #[.int (36)], vm := .none },
  { cls := 10, slots := #[.int (37)], vm := .none },
  { cls := 10, slots := #[.int (38)], vm := .none },
  { cls := 10, slots := #[.int (39)], vm := .none },
  { cls := 10, slots := #[.int (40)], vm := .none },
  { cls := 10, slots := #[.int (41)], vm := .none },
  { cls := 10, slots := #[.int (42)], vm := .none },
  { cls := 10, slots := #[.int (43)], vm := .none },
  { cls := 10, slots := #[.int (44)], vm := .none },
  { cls := 10, slots := #[.int (45)], vm := .none },
  { cls := 10, slots := #[.int (46)], vm := .none },
  { cls := 10, slots := #[.int (47)], vm := .none },
  { cls := 10, slots := #[.int (48)], vm := .none },
  { cls := 10, slots := #[.int (49)], vm := .none },
  { cls := 10, slots := #[.int (50)], vm := .none },
  { cls := 10, slots := #[.int (51)], vm := .none },
  { cls := 10, slots := #[.int (52)], vm := .none },
  { cls := 10, slots := #[.int (53)], vm := .none },
  { cls := 10, slots := #[.int (54)], vm := .none },
  { cls := 10, slots := #[.int (55)], vm := .none },
  { cls := 10, slots := #[.int (56)], vm := .none },
  { cls := 10, slots := #[.int (57)], vm := .none },
  { cls := 10, slots := #[.int (58)], vm := .none },
  { cls := 10, slots := #[.int (59)], vm := .none },
  { cls := 10, slots := #[.int (60)], vm := .none },
  { cls := 10, slots := #[.int (61)], vm := .none },
  { cls := 10, slots := #[.int (62)], vm := .none },
  { cls := 10, slots := #[.int (63)], vm := .none },
  { cls := 10, slots := #[.int (64)], vm := .none },
  { cls := 10, slots := #[.int (65)], vm := .none },
  { cls := 10, slots := #[.int (66)], vm := .none },
  { cls := 10, slots := #[.int (67)], vm := .none },
  { cls := 10, slots := #[.int (68)], vm := .none },
  { cls := 10, slots := #[.int (69)], vm := .none },
  { cls := 10, slots := #[.int (70)], vm := .none },
  { cls := 10, slots := #[.int (71)], vm := .none },
  { cls := 10, slots := #[.int (72)], vm := .none },
  { cls := 10, slots := #[.int (73)], vm := .none },
  { cls := 10, slots := #[.int (74)], vm := .none },
  { cls := 10, slots := #[.int (75)], vm := .none },
  { cls := 10, slots := #[.int (76)], vm := .none },
  { cls := 10, slots := #[.int (77)], vm := .none },
  { cls := 10, slots := #[.int (78)], vm := .none },
  { cls := 10, slots := #[.int (79)], vm := .none },
  { cls := 10, slots := #[.int (80)], vm := .none },
  { cls := 10, slots := #[.int (81)], vm := .none },
  { cls := 10, slots := #[.int (82)], vm := .none },
  { cls := 10, slots := #[.int (83)], vm := .none },
  { cls := 10, slots := #[.int (84)], vm := .none },
  { cls := 10, slots := #[.int (85)], vm := .none },
  { cls := 10, slots := #[.int (86)], vm := .none },
  { cls := 10, slots := #[.int (87)], vm := .none },
  { cls := 10, slots := #[.int (88)], vm := .none },
  { cls := 10, slots := #[.int (89)], vm := .none },
  { cls := 10, slots := #[.int (90)], vm := .none },
  { cls := 10, slots := #[.int (91)], vm := .none },
  { cls := 10, slots := #[.int (92)], vm := .none },
  { cls := 10, slots := #[.int (93)], vm := .none },
  { cls := 10, slots := #[.int (94)], vm := .none },
  { cls := 10, slots := #[.int (95)], vm := .none },
  { cls := 10, slots := #[.int (96)], vm := .none },
  { cls := 10, slots := #[.int (97)], vm := .none },
  { cls := 10, slots := #[.int (98)], vm := .none },
  { cls := 10, slots := #[.int (99)], vm := .none },
  { cls := 10, slots := #[.int (100)], vm := .none },
  { cls := 10, slots := #[.int (101)], vm := .none },
  { cls := 10, slots := #[.int (102)], vm := .none },
  { cls := 10, slots := #[.int (103)], vm := .none },
  { cls := 10, slots := #[.int (104)], vm := .none },
  { cls := 10, slots := #[.int (105)], vm := .none },
  { cls := 10, slots := #[.int (106)], vm := .none },
  { cls := 10, slots := #[.int (107)], vm := .none },
  { cls := 10, slots := #[.int (108)], vm := .none },
  { cls := 10, slots := #[.int (109)], vm := .none },
  { cls := 10, slots := #[.int (110)], vm := .none },
  { cls := 10, slots := #[.int (111)], vm := .none },
  { cls := 10, slots := #[.int (112)], vm := .none },
  { cls := 10, slots := #[.int (113)], vm := .none },
  { cls := 10, slots := #[.int (114)], vm := .none },
  { cls := 10, slots := #[.int (115)], vm := .none },
  { cls := 10, slots := #[.int (116)], vm := .none },
  { cls := 10, slots := #[.int (117)], vm := .none },
  { cls := 10, slots := #[.int (118)], vm := .none },
  { cls := 10, slots := #[.int (119)], vm := .none },
  { cls := 10, slots := #[.int (120)], vm := .none },
  { cls := 10, slots := #[.int (121)], vm := .none },
  { cls := 10, slots := #[.int (122)], vm := .none },
  { cls := 10, slots := #[.int (123)], vm := .none },
  { cls := 10, slots := #[.int (124)], vm := .none },
  { cls := 10, slots := #[.int (125)], vm := .none },
  { cls := 10, slots := #[.int (126)], vm := .none },
  { cls := 10, slots := #[.int (127)], vm := .none },
  { cls := 12, slots := #[.long (-128)], vm := .none },
  { cls := 12, slots := #[.long (-127)], vm := .none },
  { cls := 12, slots := #[.long (-126)], vm := .none },
  { cls := 12, slots := #[.long (-125)], vm := .none },
  { cls := 12, slots := #[.long (-124)], vm := .none },
  { cls := 12, slots := #[.long (-123)], vm := .none },
  { cls := 12, slots := #[.long (-122)], vm := .none },
  { cls := 12, slots := #[.long (-121)], vm := .none },
  { cls := 12, slots := #[.long (-120)], vm := .none },
  { cls := 12, slots := #[.long (-119)], vm := .none },
  { cls := 12, slots := #[.long (-118)], vm := .none },
  { cls := 12, slots := #[.long (-117)], vm := .none },
  { cls := 12, slots := #[.long (-116)], vm := .none },
  { cls := 12, slots := #[.long (-115)], vm := .none },
  { cls := 12, slots := #[.long (-114)], vm := .none },
  { cls := 12, slots := #[.long (-113)], vm := .none },
  { cls := 12, slots := #[.long (-112)], vm := .none },
  { cls := 12, slots := #[.long (-111)], vm := .none },
  { cls := 12, slots := #[.long (-110)], vm := .none },
  { cls := 12, slots := #[.long (-109)], vm := .none },
  { cls := 12, slots := #[.long (-108)], vm := .none },
  { cls := 12, slots := #[.long (-107)], vm := .none },
  { cls := 12, slots := #[.long (-106)], vm := .none },
  { cls := 12, slots := #[.long (-105)], vm := .none },
  { cls := 12, slots := #[.long (-104)], vm := .none },
  { cls := 12, slots := #[.long (-103)], vm := .none },
  { cls := 12, slots := #[.long (-102)], vm := .none },
  { cls := 12, slots := #[.long (-101)], vm := .none },
  { cls := 12, slots := #[.long (-100)], vm := .none },
  { cls := 12, slots := #[.long (-99)], vm := .none },
  { cls := 12, slots := #[.long (-98)], vm := .none },
  { cls := 12, slots := #[.long (-97)], vm := .none },
  { cls := 12, slots := #[.long (-96)], vm := .none },
  { cls := 12, slots := #[.long (-95)], vm := .none },
  { cls := 12, slots := #[.long (-94)], vm := .none },
  { cls := 12, slots := #[.long (-93)], vm := .none },
  { cls := 12, slots := #[.long (-92)], vm := .none },
  { cls := 12, slots := #[.long (-91)], vm := .none },
  { cls := 12, slots := #[.long (-90)], vm := .none },
  { cls := 12, slots := #[.long (-89)], vm := .none },
  { cls := 12, slots := #[.long (-88)], vm := .none },
  { cls := 12, slots := #[.long (-87)], vm := .none },
  { cls := 12, slots := #[.long (-86)], vm := .none },
  { cls := 12, slots := #[.long (-85)], vm := .none },
  { cls := 12, slots := #[.long (-84)], vm := .none },
  { cls := 12, slots := #[.long (-83)], vm := .none },
  { cls := 12, slots := #[.long (-82)], vm := .none },
  { cls := 12, slots := #[.long (-81)], vm := .none },
  { cls := 12, slots := #[.long (-80)], vm := .none },
  { cls := 12, slots := #[.long (-79)], vm := .none },
  { cls := 12, slots := #[.long (-78)], vm := .none },
  { cls := 12, slots := #[.long (-77)], vm := .none },
  { cls := 12, slots := #[.long (-76)], vm := .none },
  { cls := 12, slots := #[.long (-75)], vm := .none },
  { cls := 12, slots := #[.long (-74)], vm := .none },
  { cls := 12, slots := #[.long (-73)], vm := .none },
  { cls := 12, slots := #[.long (-72)], vm := .none },
  { cls := 12, slots := #[.long (-71)], vm := .none },
  { cls := 12, slots := #[.long (-70)], vm := .none },
  { cls := 12, slots := #[.long (-69)], vm := .none },
  { cls := 12, slots := #[.long (-68)], vm := .none },
  { cls := 12, slots := #[.long (-67)], vm := .none },
  { cls := 12, slots := #[.long (-66)], vm := .none },
  { cls := 12, slots := #[.long (-65)], vm := .none },
  { cls := 12, slots := #[.long (-64)], vm := .none },
  { cls := 12, slots := #[.long (-63)], vm := .none },
  { cls := 12, slots := #[.long (-62)], vm := .none },
  { cls := 12, slots := #[.long (-61)], vm := .none },
  { cls := 12, slots := #[.long (-60)], vm := .none },
  { cls := 12, slots := #[.long (-59)], vm := .none },
  { cls := 12, slots := #[.long (-58)], vm := .none },
  { cls := 12, slots := #[.long (-57)], vm := .none },
  { cls := 12, slots := #[.long (-56)], vm := .none },
  { cls := 12, slots := #[.long (-55)], vm := .none },
  { cls := 12, slots := #[.long (-54)], vm := .none },
  { cls := 12, slots := #[.long (-53)], vm := .none },
  { cls := 12, slots := #[.long (-52)], vm := .none },
  { cls := 12, slots := #[.long (-51)], vm := .none },
  { cls := 12, slots := #[.long (-50)], vm := .none },
  { cls := 12, slots := #[.long (-49)], vm := .none },
  { cls := 12, slots := #[.long (-48)], vm := .none },
  { cls := 12, slots := #[.long (-47)], vm := .none },
  { cls := 12, slots := #[.long (-46)], vm := .none },
  { cls := 12, slots := #[.long (-45)], vm := .none },
  { cls := 12, slots := #[.long (-44)], vm := .none },
  { cls := 12, slots := #[.long (-43)], vm := .none },
  { cls := 12, slots := #[.long (-42)], vm := .none },
  { cls := 12, slots := #[.long (-41)], vm := .none },
  { cls := 12, slots := #[.long (-40)], vm := .none },
  { cls := 12, slots := #[.long (-39)], vm := .none },
  { cls := 12, slots := #[.long (-38)], vm := .none },
  { cls := 12, slots := #[.long (-37)], vm := .none },
  { cls := 12, slots := #[.long (-36)], vm := .none },
  { cls := 12, slots := #[.long (-35)], vm := .none },
  { cls := 12, slots := #[.long (-34)], vm := .none },
  { cls := 12, slots := #[.long (-33)], vm := .none },
  { cls := 12, slots := #[.long (-32)], vm := .none },
  { cls := 12, slots := #[.long (-31)], vm := .none },
  { cls := 12, slots := #[.long (-30)], vm := .none },
  { cls := 12, slots := #[.long (-29)], vm := .none },
  { cls := 12, slots := #[.long (-28)], vm := .none },
  { cls := 12, slots := #[.long (-27)], vm := .none },
  { cls := 12, slots := #[.long (-26)], vm := .none },
  { cls := 12, slots := #[.long (-25)], vm := .none },
  { cls := 12, slots := #[.long (-24)], vm := .none },
  { cls := 12, slots := #[.long (-23)], vm := .none },
  { cls := 12, slots := #[.long (-22)], vm := .none },
  { cls := 12, slots := #[.long (-21)], vm := .none },
  { cls := 12, slots := #[.long (-20)], vm := .none },
  { cls := 12, slots := #[.long (-19)], vm := .none },
  { cls := 12, slots := #[.long (-18)], vm := .none },
  { cls := 12, slots := #[.long (-17)], vm := .none },
  { cls := 12, slots := #[.long (-16)], vm := .none },
  { cls := 12, slots := #[.long (-15)], vm := .none },
  { cls := 12, slots := #[.long (-14)], vm := .none },
  { cls := 12, slots := #[.long (-13)], vm := .none },
  { cls := 12, slots := #[.long (-12)], vm := .none },
  { cls := 12, slots := #[.long (-11)], vm := .none },
  { cls := 12, slots := #[.long (-10)], vm := .none },
  { cls := 12, slots := #[.long (-9)], vm := .none },
  { cls := 12, slots := #[.long (-8)], vm := .none },
  { cls := 12, slots := #[.long (-7)], vm := .none },
  { cls := 12, slots := #[.long (-6)], vm := .none },
  { cls := 12, slots := #[.long (-5)], vm := .none },
  { cls := 12, slots := #[.long (-4)], vm := .none },
  { cls := 12, slots := #[.long (-3)], vm := .none },
  { cls := 12, slots := #[.long (-2)], vm := .none },
  { cls := 12, slots := #[.long (-1)], vm := .none },
  { cls := 12, slots := #[.long (0)], vm := .none },
  { cls := 12, slots := #[.long (1)], vm := .none },
  { cls := 12, slots := #[.long (2)], vm := .none },
  { cls := 12, slots := #[.long (3)], vm := .none },
  { cls := 12, slots := #[.long (4)], vm := .none },
  { cls := 12, slots := #[.long (5)], vm := .none },
  { cls := 12, slots := #[.long (6)], vm := .none },
  { cls := 12, slots := #[.long (7)], vm := .none },
  { cls := 12, slots := #[.long (8)], vm := .none },
  { cls := 12, slots := #[.long (9)], vm := .none },
  { cls := 12, slots := #[.long (10)], vm := .none },
  { cls := 12, slots := #[.long (11)], vm := .none },
  { cls := 12, slots := #[.long (12)], vm := .none },
  { cls := 12, slots := #[.long (13)], vm := .none },
  { cls := 12, slots := #[.long (14)], vm := .none },
  { cls := 12, slots := #[.long (15)], vm := .none },
  { cls := 12, slots := #[.long (16)], vm := .none },
  { cls := 12, slots := #[.long (17)], vm := .none },
  { cls := 12, slots := #[.long (18)], vm := .none },
  { cls := 12, slots := #[.long (19)], vm := .none },
  { cls := 12, slots := #[.long (20)], vm := .none },
  { cls := 12, slots := #[.long (21)], vm := .none },
  { cls := 12, slots := #[.long (22)], vm := .none },
  { cls := 12, slots := #[.long (23)], vm := .none },
  { cls := 12, slots := #[.long (24)], vm := .none },
  { cls := 12, slots := #[.long (25)], vm := .none },
  { cls := 12, slots := #[.long (26)], vm := .none },
  { cls := 12, slots := #[.long (27)], vm := .none },
  { cls := 12, slots := #[.long (28)], vm := .none },
  { cls := 12, slots := #[.long (29)], vm := .none },
  { cls := 12, slots := #[.long (30)], vm := .none },
  { cls := 12, slots := #[.long (31)], vm := .none },
  { cls := 12, slots := #[.long (32)], vm := .none },
  { cls := 12, slots := #[.long (33)], vm := .none },
  { cls := 12, slots := #[.long (34)], vm := .none },
  { cls := 12, slots := #[.long (35)], vm := .none },
  { cls := 12, slots := #[.long (36)], vm := .none },
  { cls := 12, slots := #[.long (37)], vm := .none },
  { cls := 12, slots := #[.long (38)], vm := .none },
  { cls := 12, slots := #[.long (39)], vm := .none },
  { cls := 12, slots := #[.long (40)], vm := .none },
  { cls := 12, slots := #[.long (41)], vm := .none },
  { cls := 12, slots := #[.long (42)], vm := .none },
  { cls := 12, slots := #[.long (43)], vm := .none },
  { cls := 12, slots := #[.long (44)], vm := .none },
  { cls := 12, slots := #[.long (45)], vm := .none },
  { cls := 12, slots := #[.long (46)], vm := .none },
  { cls := 12, slots := #[.long (47)], vm := .none },
  { cls := 12, slots := #[.long (48)], vm := .none },
  { cls := 12, slots := #[.long (49)], vm := .none },
  { cls := 12, slots := #[.long (50)], vm := .none },
  { cls := 12, slots := #[.long (51)], vm := .none },
  { cls := 12, slots := #[.long (52)], vm := .none },
  { cls := 12, slots := #[.long (53)], vm := .none },
  { cls := 12, slots := #[.long (54)], vm := .none },
  { cls := 12, slots := #[.long (55)], vm := .none },
  { cls := 12, slots := #[.long (56)], vm := .none },
  { cls := 12, slots := #[.long (57)], vm := .none },
  { cls := 12, slots := #[.long (58)], vm := .none },
  { cls := 12, slots := #[.long (59)], vm := .none },
  { cls := 12, slots := #[.long (60)], vm := .none },
  { cls := 12, slots := #[.long (61)], vm := .none },
  { cls := 12, slots := #[.long (62)], vm := .none },
  { cls := 12, slots := #[.long (63)], vm := .none },
  { cls := 12, slots := #[.long (64)], vm := .none },
  { cls := 12, slots := #[.long (65)], vm := .none },
  { cls := 12, slots := #[.long (66)], vm := .none },
  { cls := 12, slots := #[.long (67)], vm := .none },
  { cls := 12, slots := #[.long (68)], vm := .none },
  { cls := 12, slots := #[.long (69)], vm := .none },
  { cls := 12, slots := #[.long (70)], vm := .none },
  { cls := 12, slots := #[.long (71)], vm := .none },
  { cls := 12, slots := #[.long (72)], vm := .none },
  { cls := 12, slots := #[.long (73)], vm := .none },
  { cls := 12, slots := #[.long (74)], vm := .none },
  { cls := 12, slots := #[.long (75)], vm := .none },
  { cls := 12, slots := #[.long (76)], vm := .none },
  { cls := 12, slots := #[.long (77)], vm := .none },
  { cls := 12, slots := #[.long (78)], vm := .none },
  { cls := 12, slots := #[.long (79)], vm := .none },
  { cls := 12, slots := #[.long (80)], vm := .none },
  { cls := 12, slots := #[.long (81)], vm := .none },
  { cls := 12, slots := #[.long (82)], vm := .none },
  { cls := 12, slots := #[.long (83)], vm := .none },
  { cls := 12, slots := #[.long (84)], vm := .none },
  { cls := 12, slots := #[.long (85)], vm := .none },
  { cls := 12, slots := #[.long (86)], vm := .none },
  { cls := 12, slots := #[.long (87)], vm := .none },
  { cls := 12, slots := #[.long (88)], vm := .none },
  { cls := 12, slots := #[.long (89)], vm := .none },
  { cls := 12, slots := #[.long (90)], vm := .none },
  { cls := 12, slots := #[.long (91)], vm := .none },
  { cls := 12, slots := #[.long (92)], vm := .none },
  { cls := 12, slots := #[.long (93)], vm := .none },
  { cls := 12, slots := #[.long (94)], vm := .none },
  { cls := 12, slots := #[.long (95)], vm := .none },
  { cls := 12, slots := #[.long (96)], vm := .none },
  { cls := 12, slots := #[.long (97)], vm := .none },
  { cls := 12, slots := #[.long (98)], vm := .none },
  { cls := 12, slots := #[.long (99)], vm := .none },
  { cls := 12, slots := #[.long (100)], vm := .none },
  { cls := 12, slots := #[.long (101)], vm := .none },
  { cls := 12, slots := #[.long (102)], vm := .none },
  { cls := 12, slots := #[.long (103)], vm := .none },
  { cls := 12, slots := #[.long (104)], vm := .none },
  { cls := 12, slots := #[.long (105)], vm := .none },
  { cls := 12, slots := #[.long (106)], vm := .none },
  { cls := 12, slots := #[.long (107)], vm := .none },
  { cls := 12, slots := #[.long (108)], vm := .none },
  { cls := 12, slots := #[.long (109)], vm := .none },
  { cls := 12, slots := #[.long (110)], vm := .none },
  { cls := 12, slots := #[.long (111)], vm := .none },
  { cls := 12, slots := #[.long (112)], vm := .none },
  { cls := 12, slots := #[.long (113)], vm := .none },
  { cls := 12, slots := #[.long (114)], vm := .none },
  { cls := 12, slots := #[.long (115)], vm := .none },
  { cls := 12, slots := #[.long (116)], vm := .none },
  { cls := 12, slots := #[.long (117)], vm := .none },
  { cls := 12, slots := #[.long (118)], vm := .none },
  { cls := 12, slots := #[.long (119)], vm := .none },
  { cls := 12, slots := #[.long (120)], vm := .none },
  { cls := 12, slots := #[.long (121)], vm := .none },
  { cls := 12, slots := #[.long (122)], vm := .none },
  { cls := 12, slots := #[.long (123)], vm := .none },
  { cls := 12, slots := #[.long (124)], vm := .none },
  { cls := 12, slots := #[.long (125)], vm := .none },
  { cls := 12, slots := #[.long (126)], vm := .none },
  { cls := 12, slots := #[.long (127)], vm := .none }]
def classes : Array Class := #[k0, k1, k2, k3, k4, k5, k6, k7, k8, k9, k10, k11, k12, k13, k14, k15, k16, k17, k18, k19, k20, k21, k22]
def interned : List (Array UInt16 × Addr) := []
def slotsUsed : Nat := 1032
def theMethod : MethodId := ⟨1, 2⟩
def args0 : Array Value := #[.long 5, .long 3, .long 7, .long 3, .int 9]
def aboutOver (below : List Frame) : State where
  vm := { classes := classes, interned := interned.toArray }
  heap := heap
  slotsUsed := slotsUsed
  threads := #[{ frames := .invoking theMethod args0 :: below }]
def below0 : List Frame := [.native { method := ⟨0, 0⟩, args := #[] }]
def about1 : State := aboutOver below0
def p0 : Program := .bare "" "" ""
def e0 : Env := launch0.env 0 0 0
theorem w_frames : about1.frames = Frame.invoking theMethod args0 :: below0 := rfl
set_option maxRecDepth 65536 in
theorem w_args : argsFit about1.vm theMethod args0 = true := by decide +kernel
set_option maxRecDepth 65536 in
theorem w_heap : heapFits about1 = true := by decide +kernel
set_option maxRecDepth 65536 in
theorem w_runnable : about1.curStatus? = some .runnable := by decide +kernel
set_option maxRecDepth 65536 in
theorem w_alone : about1.alone = true := by decide +kernel
set_option maxRecDepth 65536 in
theorem w_named : about1.methodNamed? x = some theMethod := by decide +kernel
set_option maxRecDepth 65536 in
theorem w_hears : about1.hears theMethod below0 = true := by decide +kernel
set_option maxRecDepth 65536 in
theorem w_ripe : about1.ripe theMethod args0 below0 = true := by decide +kernel
theorem w_running : about1.status = .running := rfl
set_option maxRecDepth 65536 in
theorem w_room : about1.hasRoom e0.platform room_1 = true :=
  launch0.hasRoom_least _ room_1 (by decide +kernel) (by decide +kernel) (by decide +kernel) (by decide +kernel) (by decide +kernel) (by decide +kernel)
theorem allAtoms_all (ts : List Jvm.Cond) (a : Array Jvm.Value) (st : Jvm.State) : (allAtoms ts).before a st = ts.all (fun c => c.before a st) := by
  induction ts with
  | nil => rfl
  | cons c t ih =>
    show (Jvm.Cond.and c (allAtoms t)).before a st = _
    rw [Jvm.Cond.before_and, ih, List.all_cons]
def words1 : List Jvm.Cond := Jvm.Cond.code x code maxLocals ret :: tables_1
/-- a 'code' word, met by the world's own term for the bytes: nothing is compared byte by byte -/
theorem code_word {y : MethodName} {bytes : ByteArray} {mx : Nat} {rt : Option FieldType} {a : Array Value} {s : State} {m : MethodId} {meth : Method} {c : Code} (h1 : s.methodNamed? y = some m) (h2 : s.vm.method? m = some meth) (h3 : meth.code = some c) (h4 : c.code = bytes)
    (h5 : (c.maxLocals == mx && c.exceptionTable.isEmpty && decide (c.maxStack ≤ mostOperands) && decide (meth.sig.returnType = rt) && !meth.locks && decide (parseMethodDescriptor y.desc = some meth.sig)) = true) : (Jvm.Cond.code y bytes mx rt).before a s = true := by
  simp only [Bool.and_eq_true, beq_iff_eq, Bool.not_eq_true', decide_eq_true_eq] at h5
  obtain ⟨⟨⟨⟨⟨g1, g2⟩, g3⟩, g4⟩, g5⟩, g6⟩ := h5
  simp [Cond.before, Cond.holds, Cond.value, h1, h2, h3, h4, g1, g2, g3, g4, g5, g6]
def isCode : Jvm.Cond → Bool
  | .code _ _ _ _ => true
  | _ => false
theorem all_split {L : List Jvm.Cond} {P : Jvm.Cond → Bool} (h1 : L.all (fun c => isCode c || P c) = true) (h2 : ∀ c ∈ L.filter isCode, P c = true) : L.all P = true := by
  refine List.all_eq_true.mpr fun c hc => ?_
  have h := List.all_eq_true.mp h1 c hc
  rcases Bool.eq_false_or_eq_true (isCode c) with hi | hi
  · exact h2 c (List.mem_filter.mpr ⟨hc, hi⟩)
  · simpa [hi] using h
set_option maxRecDepth 65536 in
theorem w_c0 : (Jvm.Cond.code x code maxLocals ret).before args0 about1 = true := code_word (m := ⟨1, 2⟩) (meth := k1m2) (c := k1c2) (by decide +kernel) rfl rfl rfl (by decide +kernel)
set_option maxRecDepth 65536 in
theorem w_c1 : (Jvm.Cond.code ({ cls := "com/example/razione/razione/rating/PeriodEqualsPinLaw", name := "norm", desc := "(JJ)[J" } : Jvm.MethodName) method_2_code (9 : Nat) (Option.some (Jvm.ClassFile.FieldType.array Jvm.ClassFile.FieldType.long))).before args0 about1 = true := code_word (m := ⟨1, 1⟩) (meth := k1m1) (c := k1c1) (by decide +kernel) rfl rfl rfl (by decide +kernel)
set_option maxRecDepth 65536 in
theorem w_c2 : (Jvm.Cond.code ({ cls := "java/lang/Math", name := "min", desc := "(JJ)J" } : Jvm.MethodName) jdk_29_method_70_code (4 : Nat) (Option.some Jvm.ClassFile.FieldType.long)).before args0 about1 = true := code_word (m := ⟨2, 2⟩) (meth := k2m2) (c := k2c2) (by decide +kernel) rfl rfl rfl (by decide +kernel)
set_option maxRecDepth 65536 in
theorem w_c3 : (Jvm.Cond.code ({ cls := "java/lang/Math", name := "max", desc := "(JJ)J" } : Jvm.MethodName) jdk_29_method_66_code (4 : Nat) (Option.some Jvm.ClassFile.FieldType.long)).before args0 about1 = true := code_word (m := ⟨2, 1⟩) (meth := k2m1) (c := k2c1) (by decide +kernel) rfl rfl rfl (by decide +kernel)
set_option maxRecDepth 65536 in
theorem w_c4 : (Jvm.Cond.code ({ cls := "com/example/razione/razione/rating/Period", name := "<init>", desc := "(JJ)V" } : Jvm.MethodName) prog_55_method_1_code (5 : Nat) (Option.none : Option Jvm.ClassFile.FieldType)).before args0 about1 = true := code_word (m := ⟨4, 0⟩) (meth := k4m0) (c := k4c0) (by decide +kernel) rfl rfl rfl (by decide +kernel)
set_option maxRecDepth 65536 in
theorem w_c5 : (Jvm.Cond.code ({ cls := "java/lang/Record", name := "<init>", desc := "()V" } : Jvm.MethodName) jdk_30_method_1_code (1 : Nat) (Option.none : Option Jvm.ClassFile.FieldType)).before args0 about1 = true := code_word (m := ⟨3, 0⟩) (meth := k3m0) (c := k3c0) (by decide +kernel) rfl rfl rfl (by decide +kernel)
set_option maxRecDepth 65536 in
theorem w_c6 : (Jvm.Cond.code ({ cls := "java/lang/Object", name := "<init>", desc := "()V" } : Jvm.MethodName) object_method_1_code (1 : Nat) (Option.none : Option Jvm.ClassFile.FieldType)).before args0 about1 = true := code_word (m := ⟨0, 0⟩) (meth := k0m0) (c := k0c0) (by decide +kernel) rfl rfl rfl (by decide +kernel)
set_option maxRecDepth 65536 in
theorem w_c7 : (Jvm.Cond.code ({ cls := "com/example/razione/razione/rating/Period", name := "equals", desc := "(Ljava/lang/Object;)Z" } : Jvm.MethodName) prog_55_method_3_code (3 : Nat) (Option.some Jvm.ClassFile.FieldType.boolean)).before args0 about1 = true := code_word (m := ⟨4, 1⟩) (meth := k4m1) (c := k4c1) (by decide +kernel) rfl rfl rfl (by decide +kernel)
set_option maxRecDepth 65536 in
theorem w_c8 : (Jvm.Cond.code ({ cls := "java/lang/Integer", name := "valueOf", desc := "(I)Ljava/lang/Integer;" } : Jvm.MethodName) jdk_33_method_22_code (1 : Nat) (Option.some (Jvm.ClassFile.FieldType.object "java/lang/Integer"))).before args0 about1 = true := code_word (m := ⟨10, 0⟩) (meth := k10m0) (c := k10c0) (by decide +kernel) rfl rfl rfl (by decide +kernel)
set_option maxRecDepth 65536 in
theorem w_c9 : (Jvm.Cond.code ({ cls := "java/lang/Long", name := "valueOf", desc := "(J)Ljava/lang/Long;" } : Jvm.MethodName) jdk_35_method_24_code (3 : Nat) (Option.some (Jvm.ClassFile.FieldType.object "java/lang/Long"))).before args0 about1 = true := code_word (m := ⟨12, 0⟩) (meth := k12m0) (c := k12c0) (by decide +kernel) rfl rfl rfl (by decide +kernel)
set_option maxRecDepth 65536 in
theorem w_c10 : (Jvm.Cond.code ({ cls := "java/lang/Long", name := "<init>", desc := "(J)V" } : Jvm.MethodName) jdk_35_method_26_code (3 : Nat) (Option.none : Option Jvm.ClassFile.FieldType)).before args0 about1 = true := code_word (m := ⟨12, 1⟩) (meth := k12m1) (c := k12c1) (by decide +kernel) rfl rfl rfl (by decide +kernel)
set_option maxRecDepth 65536 in
theorem w_c11 : (Jvm.Cond.code ({ cls := "java/lang/Number", name := "<init>", desc := "()V" } : Jvm.MethodName) jdk_18_method_1_code (1 : Nat) (Option.none : Option Jvm.ClassFile.FieldType)).before args0 about1 = true := code_word (m := ⟨6, 0⟩) (meth := k6m0) (c := k6c0) (by decide +kernel) rfl rfl rfl (by decide +kernel)
set_option maxRecDepth 65536 in
theorem w_c12 : (Jvm.Cond.code ({ cls := "java/lang/Integer", name := "<init>", desc := "(I)V" } : Jvm.MethodName) jdk_33_method_23_code (2 : Nat) (Option.none : Option Jvm.ClassFile.FieldType)).before args0 about1 = true := code_word (m := ⟨10, 1⟩) (meth := k10m1) (c := k10c1) (by decide +kernel) rfl rfl rfl (by decide +kernel)
def codes1 : List Jvm.Cond := [Jvm.Cond.code x code maxLocals ret, Jvm.Cond.code ({ cls := "com/example/razione/razione/rating/PeriodEqualsPinLaw", name := "norm", desc := "(JJ)[J" } : Jvm.MethodName) method_2_code (9 : Nat) (Option.some (Jvm.ClassFile.FieldType.array Jvm.ClassFile.FieldType.long)), Jvm.Cond.code ({ cls := "java/lang/Math", name := "min", desc := "(JJ)J" } : Jvm.MethodName) jdk_29_method_70_code (4 : Nat) (Option.some Jvm.ClassFile.FieldType.long), Jvm.Cond.code ({ cls := "java/lang/Math", name := "max", desc := "(JJ)J" } : Jvm.MethodName) jdk_29_method_66_code (4 : Nat) (Option.some Jvm.ClassFile.FieldType.long), Jvm.Cond.code ({ cls := "com/example/razione/razione/rating/Period", name := "<init>", desc := "(JJ)V" } : Jvm.MethodName) prog_55_method_1_code (5 : Nat) (Option.none : Option Jvm.ClassFile.FieldType), Jvm.Cond.code ({ cls := "java/lang/Record", name := "<init>", desc := "()V" } : Jvm.MethodName) jdk_30_method_1_code (1 : Nat) (Option.none : Option Jvm.ClassFile.FieldType), Jvm.Cond.code ({ cls := "java/lang/Object", name := "<init>", desc := "()V" } : Jvm.MethodName) object_method_1_code (1 : Nat) (Option.none : Option Jvm.ClassFile.FieldType), Jvm.Cond.code ({ cls := "com/example/razione/razione/rating/Period", name := "equals", desc := "(Ljava/lang/Object;)Z" } : Jvm.MethodName) prog_55_method_3_code (3 : Nat) (Option.some Jvm.ClassFile.FieldType.boolean), Jvm.Cond.code ({ cls := "java/lang/Integer", name := "valueOf", desc := "(I)Ljava/lang/Integer;" } : Jvm.MethodName) jdk_33_method_22_code (1 : Nat) (Option.some (Jvm.ClassFile.FieldType.object "java/lang/Integer")), Jvm.Cond.code ({ cls := "java/lang/Long", name := "valueOf", desc := "(J)Ljava/lang/Long;" } : Jvm.MethodName) jdk_35_method_24_code (3 : Nat) (Option.some (Jvm.ClassFile.FieldType.object "java/lang/Long")), Jvm.Cond.code ({ cls := "java/lang/Long", name := "<init>", desc := "(J)V" } : Jvm.MethodName) jdk_35_method_26_code (3 : Nat) (Option.none : Option Jvm.ClassFile.FieldType), Jvm.Cond.code ({ cls := "java/lang/Number", name := "<init>", desc := "()V" } : Jvm.MethodName) jdk_18_method_1_code (1 : Nat) (Option.none : Option Jvm.ClassFile.FieldType), Jvm.Cond.code ({ cls := "java/lang/Integer", name := "<init>", desc := "(I)V" } : Jvm.MethodName) jdk_33_method_23_code (2 : Nat) (Option.none : Option Jvm.ClassFile.FieldType)]
set_option maxRecDepth 65536 in
theorem codes_eq : words1.filter isCode = codes1 := rfl
theorem w_codes : ∀ c ∈ words1.filter isCode, c.before args0 about1 = true := by
  rw [codes_eq]
  intro c hc
  simp only [codes1, List.mem_cons, List.not_mem_nil, or_false] at hc
  rcases hc with rfl | rfl | rfl | rfl | rfl | rfl | rfl | rfl | rfl | rfl | rfl | rfl | rfl
  · exact w_c0
  · exact w_c1
  · exact w_c2
  · exact w_c3
  · exact w_c4
  · exact w_c5
  · exact w_c6
  · exact w_c7
  · exact w_c8
  · exact w_c9
  · exact w_c10
  · exact w_c11
  · exact w_c12
set_option maxRecDepth 65536 in
theorem w_t1 : (words1.take 24).all (fun c => isCode c || c.before args0 about1) = true := by decide +kernel
set_option maxRecDepth 65536 in
theorem w_t2 : ((words1.drop 24).take 24).all (fun c => isCode c || c.before args0 about1) = true := by decide +kernel
set_option maxRecDepth 65536 in
theorem w_t3 : (((words1.drop 24).drop 24).take 24).all (fun c => isCode c || c.before args0 about1) = true := by decide +kernel
set_option maxRecDepth 65536 in
theorem w_t4 : (((words1.drop 24).drop 24).drop 24).all (fun c => isCode c || c.before args0 about1) = true := by decide +kernel
theorem w_tables : (allAtoms (Jvm.Cond.code x code maxLocals ret :: tables_1)).before args0 about1 = true := by
  rw [allAtoms_all]
  show words1.all (fun c => c.before args0 about1) = true
  refine all_split ?_ w_codes
  rw [← List.take_append_drop 24 words1, List.all_append, w_t1, ← List.take_append_drop 24 (words1.drop 24), List.all_append, w_t2, ← List.take_append_drop 24 ((words1.drop 24).drop 24), List.all_append, w_t3, w_t4]
  rfl
set_option maxRecDepth 65536 in
theorem w_rest : rest_1_c.before args0 about1 = true := by decide +kernel
set_option maxRecDepth 65536 in
theorem w_case : (Jvm.Cond.and given_1 narrow_1).before args0 about1 = true := by decide +kernel
theorem w_applies : (headSpec (Jvm.Cond.code x code maxLocals ret :: tables_1) room_1).applies x e0.platform about1 = true :=
  (Spec.applies_iff w_frames).mpr ⟨w_running, w_runnable, w_alone, w_named, w_hears, w_ripe, w_room, w_tables⟩
theorem atStart : AtStart classFile x code maxLocals ret World_1 tables_1 room_1 Calls_1 rest_1 Pre_1 launch0 p0 e0 about1 theMethod args0 below0 :=
  ⟨lists_1, trivial, launch0.admits_env _ _ _, launch0.least_env, fairChoices_fair.cas, fairChoices_fair.clock, w_frames, w_args, w_heap, w_applies, trivial, w_rest, w_case⟩
end start1
theorem witness_1 : WitnessClaimed_1 := ⟨start1.p0, start1.e0, start1.about1, start1.theMethod, start1.args0, start1.below0, start1.atStart⟩
end Jvm.Pilot.@@N@@

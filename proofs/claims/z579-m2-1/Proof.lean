import JvmDerived
import JvmDerived.Pilot.@@N@@Statement
import JvmDerived.Pilot.@@N@@Code
set_option linter.unusedVariables false
set_option linter.unusedSimpArgs false
namespace Jvm.Pilot.@@N@@
open Jvm Jvm.ClassFile Sem Op Lib Jvm.Free Jvm.Stand Jvm.LawKit Jvm.RoadKit Bundle Jvm.Pilot.@@N@@.Jvm.D
/-! own frame: 'Go': from here the run ends as Q says -/
def Go (p : Program) (e : Env) (below : List Frame) (s : State) (nc ns : Nat) (Q : Option Value → Heap → List Loc → Prop) (u : State) : Prop :=
  ∃ s₂ o, Steps p.tables e below u s₂ ∧ s₂.status = .running ∧ Ended s₂ below o ∧ ∃ v L, o = .returned v ∧ Q v s₂.heap L ∧ FrameEnd s o s₂ L nc ns
/-- what a body's walk stands on -/
def Bdy (p : Program) (s : State) (m : MethodId) (meth : Method) (c : Code) (Z : State) (a0 : Array Value) (own nm : String) (bytes : ByteArray) (maxL : Nat) (rt : Option FieldType) (tabs : List Jvm.Cond) : Prop :=
  p.tables.exec = Jvm.exec ∧ Z.Warmed39 s.vm ∧ (∀ d ∈ tabs, d.before a0 Z = true) ∧ c.code = bytes ∧ c.maxLocals = maxL ∧ s.vm.findClass own = some m.cls ∧ meth.sig.returnType = rt ∧ meth.locks = false ∧ meth.name = nm
def PQ (w : Option Value) (h : Heap) (locs : List Loc) : Option Value → Heap → List Loc → Prop := fun v h' L => v = w ∧ h' = h ∧ L = locs
section GoKit
variable {p : Program} {l : Launch} {e : Env} {R : Room} {s : State} {m : MethodId} {args : Array Value} {below : List Frame} {meth : Method} {c : Code} {T : State} {locs : List Loc} {cells slots : Nat} {Z : State} {a0 : Array Value} {h : Heap} {nc ns : Nat} {Q Q' : Option Value → Heap → List Loc → Prop} {pc pc' : Nat} {Ls Ls' : Array Slot} {St : List Value} {own nm : String} {bytes : ByteArray} {maxL : Nat} {rt : Option FieldType} {tabs : List Jvm.Cond}
theorem Go.step {u u' : State} (st : ∀ t, Steps p.tables e below u' t → Steps p.tables e below u t) (k : Go p e below s nc ns Q u') : Go p e below s nc ns Q u := by
  obtain ⟨s₂, o, h1, h2⟩ := k
  exact ⟨s₂, o, st _ h1, h2⟩
theorem Go.mono {u : State} (q : ∀ v h L, Q v h L → Q' v h L) (k : Go p e below s nc ns Q u) : Go p e below s nc ns Q' u := by
  obtain ⟨s₂, o, h1, h2, h3, v, L, h4, h5, h6⟩ := k
  exact ⟨s₂, o, h1, h2, h3, v, L, h4, q _ _ _ h5, h6⟩
theorem Go.wid {u : State} {nc' ns' : Nat} (q1 : nc ≤ nc') (q2 : ns ≤ ns') (k : Go p e below s nc ns Q u) : Go p e below s nc' ns' Q u := by
  obtain ⟨s₂, o, h1, h2, h3, v, L, h4, h5, h6, h7, h8⟩ := k
  exact ⟨s₂, o, h1, h2, h3, v, L, h4, h5, h6, h7, h8.mono q1 q2⟩
theorem Go.cw {u : State} {w w' : Option Value} (q : w = w') (k : Go p e below s nc ns (PQ w h locs) u) : Go p e below s nc ns (PQ w' h locs) u := q ▸ k
theorem Go.top {g g' : JFrame} (q : g = g') (k : Go p e below s nc ns Q (T.setTop g')) : Go p e below s nc ns Q (T.setTop g) := q ▸ k
theorem Bdy.w (B : Bdy p s m meth c Z a0 own nm bytes maxL rt tabs) {d : Jvm.Cond} (i : Nat) (q : tabs[i]? = some d) : d.before a0 Z = true := B.2.2.1 _ (List.mem_of_getElem? q)
theorem Bdy.d (B : Bdy p s m meth c Z a0 own nm bytes maxL rt tabs) {r : Except ClassFile.DecodeError (ClassFile.Instr × Nat)} (q : decode bytes pc = r) : decode c.code pc = r := hb B.2.2.2.1 q
theorem Bdy.x (B : Bdy p s m meth c Z a0 own nm bytes maxL rt tabs) : p.tables.exec = Jvm.exec := B.1
theorem Bdy.z (B : Bdy p s m meth c Z a0 own nm bytes maxL rt tabs) : Z.Warmed39 s.vm := B.2.1
theorem Bdy.ml (B : Bdy p s m meth c Z a0 own nm bytes maxL rt tabs) : c.maxLocals = maxL := B.2.2.2.2.1
theorem Bdy.o (B : Bdy p s m meth c Z a0 own nm bytes maxL rt tabs) : s.vm.findClass own = some m.cls := B.2.2.2.2.2.1
theorem Bdy.r (B : Bdy p s m meth c Z a0 own nm bytes maxL rt tabs) : meth.sig.returnType = rt := B.2.2.2.2.2.2.1
theorem Bdy.lk (B : Bdy p s m meth c Z a0 own nm bytes maxL rt tabs) : meth.locks = false := B.2.2.2.2.2.2.2.1
theorem Bdy.n (B : Bdy p s m meth c Z a0 own nm bytes maxL rt tabs) : meth.name = nm := B.2.2.2.2.2.2.2.2
theorem g_iloadN (X : Stand p l e R s m args below meth c T locs cells slots) (B : Bdy p s m meth c Z a0 own nm bytes maxL rt tabs) {k : Fin 4} {v : Int32} (hd : decode bytes pc = .ok (.iload_n k, 1)) (hp : pc + 1 = pc') (hl : Ls[k.val]? = some (.val (.int v))) (K : Go p e below s nc ns Q (T.setTop (mkF m pc' Ls (.int v :: St)))) : Go p e below s nc ns Q (T.setTop (mkF m pc Ls St)) := by
  subst hp; exact Go.step (fun t q => XS.iloadN X.here B.x (g := mkF m pc Ls St) rfl (B.d hd) hl q) K
theorem g_iload (X : Stand p l e R s m args below meth c T locs cells slots) (B : Bdy p s m meth c Z a0 own nm bytes maxL rt tabs) {k : Nat} {v : Int32} (hd : decode bytes pc = .ok (.iload k, 2)) (hp : pc + 2 = pc') (hl : Ls[k]? = some (.val (.int v))) (K : Go p e below s nc ns Q (T.setTop (mkF m pc' Ls (.int v :: St)))) : Go p e below s nc ns Q (T.setTop (mkF m pc Ls St)) := by
  subst hp; exact Go.step (fun t q => XS.iload X.here B.x (g := mkF m pc Ls St) rfl (B.d hd) hl q) K
theorem g_lloadN (X : Stand p l e R s m args below meth c T locs cells slots) (B : Bdy p s m meth c Z a0 own nm bytes maxL rt tabs) {k : Fin 4} {v : Int64} (hd : decode bytes pc = .ok (.lload_n k, 1)) (hp : pc + 1 = pc') (hl : Ls[k.val]? = some (.val (.long v))) (K : Go p e below s nc ns Q (T.setTop (mkF m pc' Ls (.long v :: St)))) : Go p e below s nc ns Q (T.setTop (mkF m pc Ls St)) := by
  subst hp; exact Go.step (fun t q => XS.lloadN X.here B.x (g := mkF m pc Ls St) rfl (B.d hd) hl q) K
theorem g_lload (X : Stand p l e R s m args below meth c T locs cells slots) (B : Bdy p s m meth c Z a0 own nm bytes maxL rt tabs) {k : Nat} {v : Int64} (hd : decode bytes pc = .ok (.lload k, 2)) (hp : pc + 2 = pc') (hl : Ls[k]? = some (.val (.long v))) (K : Go p e below s nc ns Q (T.setTop (mkF m pc' Ls (.long v :: St)))) : Go p e below s nc ns Q (T.setTop (mkF m pc Ls St)) := by
  subst hp; exact Go.step (fun t q => XS.lload X.here B.x (g := mkF m pc Ls St) rfl (B.d hd) hl q) K
theorem g_aloadN (X : Stand p l e R s m args below meth c T locs cells slots) (B : Bdy p s m meth c Z a0 own nm bytes maxL rt tabs) {k : Fin 4} {v : Value} (hd : decode bytes pc = .ok (.aload_n k, 1)) (hp : pc + 1 = pc') (hl : Ls[k.val]? = some (.val v)) (hv : v.isRef = true) (K : Go p e below s nc ns Q (T.setTop (mkF m pc' Ls (v :: St)))) : Go p e below s nc ns Q (T.setTop (mkF m pc Ls St)) := by
  subst hp; exact Go.step (fun t q => XS.aloadN X.here B.x (g := mkF m pc Ls St) rfl (B.d hd) hl hv q) K
theorem g_aload (X : Stand p l e R s m args below meth c T locs cells slots) (B : Bdy p s m meth c Z a0 own nm bytes maxL rt tabs) {k : Nat} {v : Value} (hd : decode bytes pc = .ok (.aload k, 2)) (hp : pc + 2 = pc') (hl : Ls[k]? = some (.val v)) (hv : v.isRef = true) (K : Go p e below s nc ns Q (T.setTop (mkF m pc' Ls (v :: St)))) : Go p e below s nc ns Q (T.setTop (mkF m pc Ls St)) := by
  subst hp; exact Go.step (fun t q => XS.aload X.here B.x (g := mkF m pc Ls St) rfl (B.d hd) hl hv q) K
theorem g_istoreN (X : Stand p l e R s m args below meth c T locs cells slots) (B : Bdy p s m meth c Z a0 own nm bytes maxL rt tabs) {k : Fin 4} {v : Int32} (hd : decode bytes pc = .ok (.istore_n k, 1)) (hp : pc + 1 = pc') (hl : storeLocals Ls k.val (.int v) = some Ls') (K : Go p e below s nc ns Q (T.setTop (mkF m pc' Ls' St))) : Go p e below s nc ns Q (T.setTop (mkF m pc Ls (.int v :: St))) := by
  subst hp; exact Go.step (fun t q => XS.istoreN X.here B.x (g := mkF m pc Ls (.int v :: St)) rfl (B.d hd) rfl hl q) K
theorem g_istore (X : Stand p l e R s m args below meth c T locs cells slots) (B : Bdy p s m meth c Z a0 own nm bytes maxL rt tabs) {k : Nat} {v : Int32} (hd : decode bytes pc = .ok (.istore k, 2)) (hp : pc + 2 = pc') (hl : storeLocals Ls k (.int v) = some Ls') (K : Go p e below s nc ns Q (T.setTop (mkF m pc' Ls' St))) : Go p e below s nc ns Q (T.setTop (mkF m pc Ls (.int v :: St))) := by
  subst hp; exact Go.step (fun t q => XS.istore X.here B.x (g := mkF m pc Ls (.int v :: St)) rfl (B.d hd) rfl hl q) K
theorem g_lstoreN (X : Stand p l e R s m args below meth c T locs cells slots) (B : Bdy p s m meth c Z a0 own nm bytes maxL rt tabs) {k : Fin 4} {v : Int64} (hd : decode bytes pc = .ok (.lstore_n k, 1)) (hp : pc + 1 = pc') (hl : storeLocals Ls k.val (.long v) = some Ls') (K : Go p e below s nc ns Q (T.setTop (mkF m pc' Ls' St))) : Go p e below s nc ns Q (T.setTop (mkF m pc Ls (.long v :: St))) := by
  subst hp; exact Go.step (fun t q => XS.lstoreN X.here B.x (g := mkF m pc Ls (.long v :: St)) rfl (B.d hd) rfl hl q) K
theorem g_lstore (X : Stand p l e R s m args below meth c T locs cells slots) (B : Bdy p s m meth c Z a0 own nm bytes maxL rt tabs) {k : Nat} {v : Int64} (hd : decode bytes pc = .ok (.lstore k, 2)) (hp : pc + 2 = pc') (hl : storeLocals Ls k (.long v) = some Ls') (K : Go p e below s nc ns Q (T.setTop (mkF m pc' Ls' St))) : Go p e below s nc ns Q (T.setTop (mkF m pc Ls (.long v :: St))) := by
  subst hp; exact Go.step (fun t q => XS.lstore X.here B.x (g := mkF m pc Ls (.long v :: St)) rfl (B.d hd) rfl hl q) K
theorem g_astoreN (X : Stand p l e R s m args below meth c T locs cells slots) (B : Bdy p s m meth c Z a0 own nm bytes maxL rt tabs) {k : Fin 4} {v : Value} (hd : decode bytes pc = .ok (.astore_n k, 1)) (hp : pc + 1 = pc') (hv : v.isRef = true) (hl : storeLocals Ls k.val v = some Ls') (K : Go p e below s nc ns Q (T.setTop (mkF m pc' Ls' St))) : Go p e below s nc ns Q (T.setTop (mkF m pc Ls (v :: St))) := by
  subst hp; exact Go.step (fun t q => XS.astoreN X.here B.x (g := mkF m pc Ls (v :: St)) rfl (B.d hd) rfl hv hl q) K
theorem g_astore (X : Stand p l e R s m args below meth c T locs cells slots) (B : Bdy p s m meth c Z a0 own nm bytes maxL rt tabs) {k : Nat} {v : Value} (hd : decode bytes pc = .ok (.astore k, 2)) (hp : pc + 2 = pc') (hv : v.isRef = true) (hl : storeLocals Ls k v = some Ls') (K : Go p e below s nc ns Q (T.setTop (mkF m pc' Ls' St))) : Go p e below s nc ns Q (T.setTop (mkF m pc Ls (v :: St))) := by
  subst hp; exact Go.step (fun t q => XS.astore X.here B.x (g := mkF m pc Ls (v :: St)) rfl (B.d hd) rfl hv hl q) K
theorem g_iinc (X : Stand p l e R s m args below meth c T locs cells slots) (B : Bdy p s m meth c Z a0 own nm bytes maxL rt tabs) {k : Nat} {i : Int} {v : Int32} (hd : decode bytes pc = .ok (.iinc k i, 3)) (hp : pc + 3 = pc') (hl : Ls[k]? = some (.val (.int v))) (hs : storeLocals Ls k (.int (v + Int32.ofInt i)) = some Ls') (K : Go p e below s nc ns Q (T.setTop (mkF m pc' Ls' St))) : Go p e below s nc ns Q (T.setTop (mkF m pc Ls St)) := by
  subst hp; exact Go.step (fun t q => XS.iinc X.here B.x (g := mkF m pc Ls St) rfl (B.d hd) hl hs q) K
theorem g_iconst (X : Stand p l e R s m args below meth c T locs cells slots) (B : Bdy p s m meth c Z a0 own nm bytes maxL rt tabs) {i : Int} {v : Int32} (hd : decode bytes pc = .ok (.iconst i, 1)) (hp : pc + 1 = pc') (hv : Int32.ofInt i = v) (K : Go p e below s nc ns Q (T.setTop (mkF m pc' Ls (.int v :: St)))) : Go p e below s nc ns Q (T.setTop (mkF m pc Ls St)) := by
  subst hp hv; exact Go.step (fun t q => XS.iconst X.here B.x (g := mkF m pc Ls St) rfl (B.d hd) q) K
theorem g_bipush (X : Stand p l e R s m args below meth c T locs cells slots) (B : Bdy p s m meth c Z a0 own nm bytes maxL rt tabs) {i : Int} {v : Int32} (hd : decode bytes pc = .ok (.bipush i, 2)) (hp : pc + 2 = pc') (hv : (Int8.ofInt i).toInt32 = v) (K : Go p e below s nc ns Q (T.setTop (mkF m pc' Ls (.int v :: St)))) : Go p e below s nc ns Q (T.setTop (mkF m pc Ls St)) := by
  subst hp hv; exact Go.step (fun t q => XS.bipush X.here B.x (g := mkF m pc Ls St) rfl (B.d hd) q) K
theorem g_sipush (X : Stand p l e R s m args below meth c T locs cells slots) (B : Bdy p s m meth c Z a0 own nm bytes maxL rt tabs) {i : Int} {v : Int32} (hd : decode bytes pc = .ok (.sipush i, 3)) (hp : pc + 3 = pc') (hv : (Int16.ofInt i).toInt32 = v) (K : Go p e below s nc ns Q (T.setTop (mkF m pc' Ls (.int v :: St)))) : Go p e below s nc ns Q (T.setTop (mkF m pc Ls St)) := by
  subst hp hv; exact Go.step (fun t q => XS.sipush X.here B.x (g := mkF m pc Ls St) rfl (B.d hd) q) K
theorem g_lconst (X : Stand p l e R s m args below meth c T locs cells slots) (B : Bdy p s m meth c Z a0 own nm bytes maxL rt tabs) {k : Fin 2} {v : Int64} (hd : decode bytes pc = .ok (.lconst k, 1)) (hp : pc + 1 = pc') (hv : Int64.ofNat k = v) (K : Go p e below s nc ns Q (T.setTop (mkF m pc' Ls (.long v :: St)))) : Go p e below s nc ns Q (T.setTop (mkF m pc Ls St)) := by
  subst hp hv; exact Go.step (fun t q => XS.lconst X.here B.x (g := mkF m pc Ls St) rfl (B.d hd) q) K
theorem g_null (X : Stand p l e R s m args below meth c T locs cells slots) (B : Bdy p s m meth c Z a0 own nm bytes maxL rt tabs) (hd : decode bytes pc = .ok (.aconst_null, 1)) (hp : pc + 1 = pc') (K : Go p e below s nc ns Q (T.setTop (mkF m pc' Ls (.null :: St)))) : Go p e below s nc ns Q (T.setTop (mkF m pc Ls St)) := by
  subst hp; exact Go.step (fun t q => XS.aconstNull X.here B.x (g := mkF m pc Ls St) rfl (B.d hd) q) K
theorem g_ldc (X : Stand p l e R s m args below meth c T locs cells slots) (B : Bdy p s m meth c Z a0 own nm bytes maxL rt tabs) {i : Nat} {v : Int32} (w : (Jvm.Cond.constant own i v).before a0 Z = true) (hd : decode bytes pc = .ok (.ldc i, 2)) (hp : pc + 2 = pc') (K : Go p e below s nc ns Q (T.setTop (mkF m pc' Ls (.int v :: St)))) : Go p e below s nc ns Q (T.setTop (mkF m pc Ls St)) := by
  subst hp; exact Go.step (fun t q => X.ldcInt B.x B.o (mvT B.z w) (g := mkF m pc Ls St) rfl (B.d hd) t q) K
theorem g_ldcw (X : Stand p l e R s m args below meth c T locs cells slots) (B : Bdy p s m meth c Z a0 own nm bytes maxL rt tabs) {i : Nat} {v : Int32} (w : (Jvm.Cond.constant own i v).before a0 Z = true) (hd : decode bytes pc = .ok (.ldc_w i, 3)) (hp : pc + 3 = pc') (K : Go p e below s nc ns Q (T.setTop (mkF m pc' Ls (.int v :: St)))) : Go p e below s nc ns Q (T.setTop (mkF m pc Ls St)) := by
  subst hp; exact Go.step (fun t q => X.ldcwInt B.x B.o (mvT B.z w) (g := mkF m pc Ls St) rfl (B.d hd) t q) K
theorem g_ldc2 (X : Stand p l e R s m args below meth c T locs cells slots) (B : Bdy p s m meth c Z a0 own nm bytes maxL rt tabs) {i : Nat} {v : Int64} (w : (Jvm.Cond.constantLong own i v).before a0 Z = true) (hd : decode bytes pc = .ok (.ldc2_w i, 3)) (hp : pc + 3 = pc') (K : Go p e below s nc ns Q (T.setTop (mkF m pc' Ls (.long v :: St)))) : Go p e below s nc ns Q (T.setTop (mkF m pc Ls St)) := by
  subst hp; exact Go.step (fun t q => X.ldc2Long B.x B.o (mvT B.z w) (g := mkF m pc Ls St) rfl (B.d hd) t q) K
theorem g_iadd (X : Stand p l e R s m args below meth c T locs cells slots) (B : Bdy p s m meth c Z a0 own nm bytes maxL rt tabs) {x y : Int32} (hd : decode bytes pc = .ok (.iadd, 1)) (hp : pc + 1 = pc') (K : Go p e below s nc ns Q (T.setTop (mkF m pc' Ls (.int (x + y) :: St)))) : Go p e below s nc ns Q (T.setTop (mkF m pc Ls (.int y :: .int x :: St))) := by
  subst hp; exact Go.step (fun t q => XS.iadd X.here B.x (g := mkF m pc Ls (.int y :: .int x :: St)) rfl (B.d hd) rfl q) K
theorem g_isub (X : Stand p l e R s m args below meth c T locs cells slots) (B : Bdy p s m meth c Z a0 own nm bytes maxL rt tabs) {x y : Int32} (hd : decode bytes pc = .ok (.isub, 1)) (hp : pc + 1 = pc') (K : Go p e below s nc ns Q (T.setTop (mkF m pc' Ls (.int (x - y) :: St)))) : Go p e below s nc ns Q (T.setTop (mkF m pc Ls (.int y :: .int x :: St))) := by
  subst hp; exact Go.step (fun t q => XS.isub X.here B.x (g := mkF m pc Ls (.int y :: .int x :: St)) rfl (B.d hd) rfl q) K
theorem g_imul (X : Stand p l e R s m args below meth c T locs cells slots) (B : Bdy p s m meth c Z a0 own nm bytes maxL rt tabs) {x y : Int32} (hd : decode bytes pc = .ok (.imul, 1)) (hp : pc + 1 = pc') (K : Go p e below s nc ns Q (T.setTop (mkF m pc' Ls (.int (x * y) :: St)))) : Go p e below s nc ns Q (T.setTop (mkF m pc Ls (.int y :: .int x :: St))) := by
  subst hp; exact Go.step (fun t q => XS.imul X.here B.x (g := mkF m pc Ls (.int y :: .int x :: St)) rfl (B.d hd) rfl q) K
theorem g_iand (X : Stand p l e R s m args below meth c T locs cells slots) (B : Bdy p s m meth c Z a0 own nm bytes maxL rt tabs) {x y : Int32} (hd : decode bytes pc = .ok (.iand, 1)) (hp : pc + 1 = pc') (K : Go p e below s nc ns Q (T.setTop (mkF m pc' Ls (.int (x &&& y) :: St)))) : Go p e below s nc ns Q (T.setTop (mkF m pc Ls (.int y :: .int x :: St))) := by
  subst hp; exact Go.step (fun t q => XS.iand X.here B.x (g := mkF m pc Ls (.int y :: .int x :: St)) rfl (B.d hd) rfl q) K
theorem g_ior (X : Stand p l e R s m args below meth c T locs cells slots) (B : Bdy p s m meth c Z a0 own nm bytes maxL rt tabs) {x y : Int32} (hd : decode bytes pc = .ok (.ior, 1)) (hp : pc + 1 = pc') (K : Go p e below s nc ns Q (T.setTop (mkF m pc' Ls (.int (x ||| y) :: St)))) : Go p e below s nc ns Q (T.setTop (mkF m pc Ls (.int y :: .int x :: St))) := by
  subst hp; exact Go.step (fun t q => XS.ior X.here B.x (g := mkF m pc Ls (.int y :: .int x :: St)) rfl (B.d hd) rfl q) K
theorem g_ixor (X : Stand p l e R s m args below meth c T locs cells slots) (B : Bdy p s m meth c Z a0 own nm bytes maxL rt tabs) {x y : Int32} (hd : decode bytes pc = .ok (.ixor, 1)) (hp : pc + 1 = pc') (K : Go p e below s nc ns Q (T.setTop (mkF m pc' Ls (.int (x ^^^ y) :: St)))) : Go p e below s nc ns Q (T.setTop (mkF m pc Ls (.int y :: .int x :: St))) := by
  subst hp; exact Go.step (fun t q => XS.ixor X.here B.x (g := mkF m pc Ls (.int y :: .int x :: St)) rfl (B.d hd) rfl q) K
theorem g_ishl (X : Stand p l e R s m args below meth c T locs cells slots) (B : Bdy p s m meth c Z a0 own nm bytes maxL rt tabs) {x z : Int32} {y : Int32} (hd : decode bytes pc = .ok (.ishl, 1)) (hp : pc + 1 = pc') (hz : x <<< (y &&& 31) = z) (K : Go p e below s nc ns Q (T.setTop (mkF m pc' Ls (.int z :: St)))) : Go p e below s nc ns Q (T.setTop (mkF m pc Ls (.int y :: .int x :: St))) := by
  subst hp hz; exact Go.step (fun t q => XS.ishl X.here B.x (g := mkF m pc Ls (.int y :: .int x :: St)) rfl (B.d hd) rfl q) K
theorem g_ishr (X : Stand p l e R s m args below meth c T locs cells slots) (B : Bdy p s m meth c Z a0 own nm bytes maxL rt tabs) {x z : Int32} {y : Int32} (hd : decode bytes pc = .ok (.ishr, 1)) (hp : pc + 1 = pc') (hz : x >>> (y &&& 31) = z) (K : Go p e below s nc ns Q (T.setTop (mkF m pc' Ls (.int z :: St)))) : Go p e below s nc ns Q (T.setTop (mkF m pc Ls (.int y :: .int x :: St))) := by
  subst hp hz; exact Go.step (fun t q => XS.ishr X.here B.x (g := mkF m pc Ls (.int y :: .int x :: St)) rfl (B.d hd) rfl q) K
theorem g_iushr (X : Stand p l e R s m args below meth c T locs cells slots) (B : Bdy p s m meth c Z a0 own nm bytes maxL rt tabs) {x z : Int32} {y : Int32} (hd : decode bytes pc = .ok (.iushr, 1)) (hp : pc + 1 = pc') (hz : (x.toUInt32 >>> (y &&& 31).toUInt32).toInt32 = z) (K : Go p e below s nc ns Q (T.setTop (mkF m pc' Ls (.int z :: St)))) : Go p e below s nc ns Q (T.setTop (mkF m pc Ls (.int y :: .int x :: St))) := by
  subst hp hz; exact Go.step (fun t q => XS.iushr X.here B.x (g := mkF m pc Ls (.int y :: .int x :: St)) rfl (B.d hd) rfl q) K
theorem g_ladd (X : Stand p l e R s m args below meth c T locs cells slots) (B : Bdy p s m meth c Z a0 own nm bytes maxL rt tabs) {x y : Int64} (hd : decode bytes pc = .ok (.ladd, 1)) (hp : pc + 1 = pc') (K : Go p e below s nc ns Q (T.setTop (mkF m pc' Ls (.long (x + y) :: St)))) : Go p e below s nc ns Q (T.setTop (mkF m pc Ls (.long y :: .long x :: St))) := by
  subst hp; exact Go.step (fun t q => XS.ladd X.here B.x (g := mkF m pc Ls (.long y :: .long x :: St)) rfl (B.d hd) rfl q) K
theorem g_lsub (X : Stand p l e R s m args below meth c T locs cells slots) (B : Bdy p s m meth c Z a0 own nm bytes maxL rt tabs) {x y : Int64} (hd : decode bytes pc = .ok (.lsub, 1)) (hp : pc + 1 = pc') (K : Go p e below s nc ns Q (T.setTop (mkF m pc' Ls (.long (x - y) :: St)))) : Go p e below s nc ns Q (T.setTop (mkF m pc Ls (.long y :: .long x :: St))) := by
  subst hp; exact Go.step (fun t q => XS.lsub X.here B.x (g := mkF m pc Ls (.long y :: .long x :: St)) rfl (B.d hd) rfl q) K
theorem g_lmul (X : Stand p l e R s m args below meth c T locs cells slots) (B : Bdy p s m meth c Z a0 own nm bytes maxL rt tabs) {x y : Int64} (hd : decode bytes pc = .ok (.lmul, 1)) (hp : pc + 1 = pc') (K : Go p e below s nc ns Q (T.setTop (mkF m pc' Ls (.long (x * y) :: St)))) : Go p e below s nc ns Q (T.setTop (mkF m pc Ls (.long y :: .long x :: St))) := by
  subst hp; exact Go.step (fun t q => XS.lmul X.here B.x (g := mkF m pc Ls (.long y :: .long x :: St)) rfl (B.d hd) rfl q) K
theorem g_land (X : Stand p l e R s m args below meth c T locs cells slots) (B : Bdy p s m meth c Z a0 own nm bytes maxL rt tabs) {x y : Int64} (hd : decode bytes pc = .ok (.land, 1)) (hp : pc + 1 = pc') (K : Go p e below s nc ns Q (T.setTop (mkF m pc' Ls (.long (x &&& y) :: St)))) : Go p e below s nc ns Q (T.setTop (mkF m pc Ls (.long y :: .long x :: St))) := by
  subst hp; exact Go.step (fun t q => XS.land X.here B.x (g := mkF m pc Ls (.long y :: .long x :: St)) rfl (B.d hd) rfl q) K
theorem g_lor (X : Stand p l e R s m args below meth c T locs cells slots) (B : Bdy p s m meth c Z a0 own nm bytes maxL rt tabs) {x y : Int64} (hd : decode bytes pc = .ok (.lor, 1)) (hp : pc + 1 = pc') (K : Go p e below s nc ns Q (T.setTop (mkF m pc' Ls (.long (x ||| y) :: St)))) : Go p e below s nc ns Q (T.setTop (mkF m pc Ls (.long y :: .long x :: St))) := by
  subst hp; exact Go.step (fun t q => XS.lor X.here B.x (g := mkF m pc Ls (.long y :: .long x :: St)) rfl (B.d hd) rfl q) K
theorem g_lxor (X : Stand p l e R s m args below meth c T locs cells slots) (B : Bdy p s m meth c Z a0 own nm bytes maxL rt tabs) {x y : Int64} (hd : decode bytes pc = .ok (.lxor, 1)) (hp : pc + 1 = pc') (K : Go p e below s nc ns Q (T.setTop (mkF m pc' Ls (.long (x ^^^ y) :: St)))) : Go p e below s nc ns Q (T.setTop (mkF m pc Ls (.long y :: .long x :: St))) := by
  subst hp; exact Go.step (fun t q => XS.lxor X.here B.x (g := mkF m pc Ls (.long y :: .long x :: St)) rfl (B.d hd) rfl q) K
theorem g_lshl (X : Stand p l e R s m args below meth c T locs cells slots) (B : Bdy p s m meth c Z a0 own nm bytes maxL rt tabs) {x z : Int64} {y : Int32} (hd : decode bytes pc = .ok (.lshl, 1)) (hp : pc + 1 = pc') (hz : x <<< (y &&& 63).toInt64 = z) (K : Go p e below s nc ns Q (T.setTop (mkF m pc' Ls (.long z :: St)))) : Go p e below s nc ns Q (T.setTop (mkF m pc Ls (.int y :: .long x :: St))) := by
  subst hp hz; exact Go.step (fun t q => XS.lshl X.here B.x (g := mkF m pc Ls (.int y :: .long x :: St)) rfl (B.d hd) rfl q) K
theorem g_lshr (X : Stand p l e R s m args below meth c T locs cells slots) (B : Bdy p s m meth c Z a0 own nm bytes maxL rt tabs) {x z : Int64} {y : Int32} (hd : decode bytes pc = .ok (.lshr, 1)) (hp : pc + 1 = pc') (hz : x >>> (y &&& 63).toInt64 = z) (K : Go p e below s nc ns Q (T.setTop (mkF m pc' Ls (.long z :: St)))) : Go p e below s nc ns Q (T.setTop (mkF m pc Ls (.int y :: .long x :: St))) := by
  subst hp hz; exact Go.step (fun t q => XS.lshr X.here B.x (g := mkF m pc Ls (.int y :: .long x :: St)) rfl (B.d hd) rfl q) K
theorem g_lushr (X : Stand p l e R s m args below meth c T locs cells slots) (B : Bdy p s m meth c Z a0 own nm bytes maxL rt tabs) {x z : Int64} {y : Int32} (hd : decode bytes pc = .ok (.lushr, 1)) (hp : pc + 1 = pc') (hz : (x.toUInt64 >>> (y &&& 63).toInt64.toUInt64).toInt64 = z) (K : Go p e below s nc ns Q (T.setTop (mkF m pc' Ls (.long z :: St)))) : Go p e below s nc ns Q (T.setTop (mkF m pc Ls (.int y :: .long x :: St))) := by
  subst hp hz; exact Go.step (fun t q => XS.lushr X.here B.x (g := mkF m pc Ls (.int y :: .long x :: St)) rfl (B.d hd) rfl q) K
theorem g_ineg (X : Stand p l e R s m args below meth c T locs cells slots) (B : Bdy p s m meth c Z a0 own nm bytes maxL rt tabs) {x : Int32} (hd : decode bytes pc = .ok (.ineg, 1)) (hp : pc + 1 = pc') (K : Go p e below s nc ns Q (T.setTop (mkF m pc' Ls (.int ((-x)) :: St)))) : Go p e below s nc ns Q (T.setTop (mkF m pc Ls (.int x :: St))) := by
  subst hp; exact Go.step (fun t q => XS.ineg X.here B.x (g := mkF m pc Ls (.int x :: St)) rfl (B.d hd) rfl q) K
theorem g_lneg (X : Stand p l e R s m args below meth c T locs cells slots) (B : Bdy p s m meth c Z a0 own nm bytes maxL rt tabs) {x : Int64} (hd : decode bytes pc = .ok (.lneg, 1)) (hp : pc + 1 = pc') (K : Go p e below s nc ns Q (T.setTop (mkF m pc' Ls (.long ((-x)) :: St)))) : Go p e below s nc ns Q (T.setTop (mkF m pc Ls (.long x :: St))) := by
  subst hp; exact Go.step (fun t q => XS.lneg X.here B.x (g := mkF m pc Ls (.long x :: St)) rfl (B.d hd) rfl q) K
theorem g_i2l (X : Stand p l e R s m args below meth c T locs cells slots) (B : Bdy p s m meth c Z a0 own nm bytes maxL rt tabs) {x : Int32} (hd : decode bytes pc = .ok (.i2l, 1)) (hp : pc + 1 = pc') (K : Go p e below s nc ns Q (T.setTop (mkF m pc' Ls (.long (x.toInt64) :: St)))) : Go p e below s nc ns Q (T.setTop (mkF m pc Ls (.int x :: St))) := by
  subst hp; exact Go.step (fun t q => XS.i2l X.here B.x (g := mkF m pc Ls (.int x :: St)) rfl (B.d hd) rfl q) K
theorem g_l2i (X : Stand p l e R s m args below meth c T locs cells slots) (B : Bdy p s m meth c Z a0 own nm bytes maxL rt tabs) {x : Int64} (hd : decode bytes pc = .ok (.l2i, 1)) (hp : pc + 1 = pc') (K : Go p e below s nc ns Q (T.setTop (mkF m pc' Ls (.int (x.toInt32) :: St)))) : Go p e below s nc ns Q (T.setTop (mkF m pc Ls (.long x :: St))) := by
  subst hp; exact Go.step (fun t q => XS.l2i X.here B.x (g := mkF m pc Ls (.long x :: St)) rfl (B.d hd) rfl q) K
theorem g_i2b (X : Stand p l e R s m args below meth c T locs cells slots) (B : Bdy p s m meth c Z a0 own nm bytes maxL rt tabs) {x : Int32} (hd : decode bytes pc = .ok (.i2b, 1)) (hp : pc + 1 = pc') (K : Go p e below s nc ns Q (T.setTop (mkF m pc' Ls (.int (x.toInt8.toInt32) :: St)))) : Go p e below s nc ns Q (T.setTop (mkF m pc Ls (.int x :: St))) := by
  subst hp; exact Go.step (fun t q => XS.i2b X.here B.x (g := mkF m pc Ls (.int x :: St)) rfl (B.d hd) rfl q) K
theorem g_i2s (X : Stand p l e R s m args below meth c T locs cells slots) (B : Bdy p s m meth c Z a0 own nm bytes maxL rt tabs) {x : Int32} (hd : decode bytes pc = .ok (.i2s, 1)) (hp : pc + 1 = pc') (K : Go p e below s nc ns Q (T.setTop (mkF m pc' Ls (.int (x.toInt16.toInt32) :: St)))) : Go p e below s nc ns Q (T.setTop (mkF m pc Ls (.int x :: St))) := by
  subst hp; exact Go.step (fun t q => XS.i2s X.here B.x (g := mkF m pc Ls (.int x :: St)) rfl (B.d hd) rfl q) K
theorem g_i2c (X : Stand p l e R s m args below meth c T locs cells slots) (B : Bdy p s m meth c Z a0 own nm bytes maxL rt tabs) {x : Int32} (hd : decode bytes pc = .ok (.i2c, 1)) (hp : pc + 1 = pc') (K : Go p e below s nc ns Q (T.setTop (mkF m pc' Ls (.int (x.toUInt32.toUInt16.toUInt32.toInt32) :: St)))) : Go p e below s nc ns Q (T.setTop (mkF m pc Ls (.int x :: St))) := by
  subst hp; exact Go.step (fun t q => XS.i2c X.here B.x (g := mkF m pc Ls (.int x :: St)) rfl (B.d hd) rfl q) K
theorem g_irem (X : Stand p l e R s m args below meth c T locs cells slots) (B : Bdy p s m meth c Z a0 own nm bytes maxL rt tabs) {x y : Int32} (hy : y ≠ 0) (hd : decode bytes pc = .ok (.irem, 1)) (hp : pc + 1 = pc') (K : Go p e below s nc ns Q (T.setTop (mkF m pc' Ls (.int (x % y) :: St)))) : Go p e below s nc ns Q (T.setTop (mkF m pc Ls (.int y :: .int x :: St))) := by
  subst hp; exact Go.step (fun t q => Jvm.RoadKit.iremM X B.x (g := mkF m pc Ls (.int y :: .int x :: St)) rfl (B.d hd) rfl hy q) K
theorem g_idiv (X : Stand p l e R s m args below meth c T locs cells slots) (B : Bdy p s m meth c Z a0 own nm bytes maxL rt tabs) {x y : Int32} (hy : y ≠ 0) (hd : decode bytes pc = .ok (.idiv, 1)) (hp : pc + 1 = pc') (K : Go p e below s nc ns Q (T.setTop (mkF m pc' Ls (.int (x / y) :: St)))) : Go p e below s nc ns Q (T.setTop (mkF m pc Ls (.int y :: .int x :: St))) := by
  subst hp; exact Go.step (fun t q => XS.idiv X.here B.x (g := mkF m pc Ls (.int y :: .int x :: St)) rfl (B.d hd) rfl hy q) K
theorem g_ldiv (X : Stand p l e R s m args below meth c T locs cells slots) (B : Bdy p s m meth c Z a0 own nm bytes maxL rt tabs) {x y : Int64} (hy : y ≠ 0) (hd : decode bytes pc = .ok (.ldiv, 1)) (hp : pc + 1 = pc') (K : Go p e below s nc ns Q (T.setTop (mkF m pc' Ls (.long (x / y) :: St)))) : Go p e below s nc ns Q (T.setTop (mkF m pc Ls (.long y :: .long x :: St))) := by
  subst hp; exact Go.step (fun t q => XS.ldiv X.here B.x (g := mkF m pc Ls (.long y :: .long x :: St)) rfl (B.d hd) rfl hy q) K
theorem g_lrem (X : Stand p l e R s m args below meth c T locs cells slots) (B : Bdy p s m meth c Z a0 own nm bytes maxL rt tabs) {x y : Int64} (hy : y ≠ 0) (hd : decode bytes pc = .ok (.lrem, 1)) (hp : pc + 1 = pc') (K : Go p e below s nc ns Q (T.setTop (mkF m pc' Ls (.long (x % y) :: St)))) : Go p e below s nc ns Q (T.setTop (mkF m pc Ls (.long y :: .long x :: St))) := by
  subst hp; rw [← lrem_mod] at K; exact Go.step (fun t q => XS.lrem X.here B.x (g := mkF m pc Ls (.long y :: .long x :: St)) rfl (B.d hd) rfl hy q) K
theorem g_dup (X : Stand p l e R s m args below meth c T locs cells slots) (B : Bdy p s m meth c Z a0 own nm bytes maxL rt tabs) {v : Value} (hd : decode bytes pc = .ok (.dup, 1)) (hp : pc + 1 = pc') (hv : v.category = 1) (K : Go p e below s nc ns Q (T.setTop (mkF m pc' Ls (v :: v :: St)))) : Go p e below s nc ns Q (T.setTop (mkF m pc Ls (v :: St))) := by
  subst hp; exact Go.step (fun t q => XS.dup X.here B.x (g := mkF m pc Ls (v :: St)) rfl (B.d hd) rfl hv q) K
theorem g_dupX1 (X : Stand p l e R s m args below meth c T locs cells slots) (B : Bdy p s m meth c Z a0 own nm bytes maxL rt tabs) {v w : Value} (hd : decode bytes pc = .ok (.dup_x1, 1)) (hp : pc + 1 = pc') (hv : v.category = 1) (hw : w.category = 1) (K : Go p e below s nc ns Q (T.setTop (mkF m pc' Ls (v :: w :: v :: St)))) : Go p e below s nc ns Q (T.setTop (mkF m pc Ls (v :: w :: St))) := by
  subst hp; exact Go.step (fun t q => XS.dupX1 X.here B.x (g := mkF m pc Ls (v :: w :: St)) rfl (B.d hd) rfl hv hw q) K
theorem g_dup2 (X : Stand p l e R s m args below meth c T locs cells slots) (B : Bdy p s m meth c Z a0 own nm bytes maxL rt tabs) {v w : Value} (hd : decode bytes pc = .ok (.dup2, 1)) (hp : pc + 1 = pc') (hv : v.category = 1) (hw : w.category = 1) (K : Go p e below s nc ns Q (T.setTop (mkF m pc' Ls (v :: w :: v :: w :: St)))) : Go p e below s nc ns Q (T.setTop (mkF m pc Ls (v :: w :: St))) := by
  subst hp; have hd' := B.d hd; have hx := B.x
  refine Go.step (fun t q => ?_) K
  jvm_step X.here [X.here.top, hx, hd', hv, hw]
  exact q
theorem g_dup2L (X : Stand p l e R s m args below meth c T locs cells slots) (B : Bdy p s m meth c Z a0 own nm bytes maxL rt tabs) {v : Int64} (hd : decode bytes pc = .ok (.dup2, 1)) (hp : pc + 1 = pc') (K : Go p e below s nc ns Q (T.setTop (mkF m pc' Ls (.long v :: .long v :: St)))) : Go p e below s nc ns Q (T.setTop (mkF m pc Ls (.long v :: St))) := by
  subst hp; have hd' := B.d hd; have hx := B.x
  refine Go.step (fun t q => ?_) K
  jvm_step X.here [X.here.top, hx, hd', Value.category]
  exact q
theorem g_pop (X : Stand p l e R s m args below meth c T locs cells slots) (B : Bdy p s m meth c Z a0 own nm bytes maxL rt tabs) {v : Value} (hd : decode bytes pc = .ok (.pop, 1)) (hp : pc + 1 = pc') (hv : v.category = 1) (K : Go p e below s nc ns Q (T.setTop (mkF m pc' Ls St))) : Go p e below s nc ns Q (T.setTop (mkF m pc Ls (v :: St))) := by
  subst hp; exact Go.step (fun t q => XS.pop X.here B.x (g := mkF m pc Ls (v :: St)) rfl (B.d hd) rfl hv q) K
theorem g_goto (X : Stand p l e R s m args below meth c T locs cells slots) (B : Bdy p s m meth c Z a0 own nm bytes maxL rt tabs) {o : Int} (hd : decode bytes pc = .ok (.goto o, 3)) (ho : 0 ≤ (pc : Int) + o) (hp : ((pc : Int) + o).toNat = pc') (K : Go p e below s nc ns Q (T.setTop (mkF m pc' Ls St))) : Go p e below s nc ns Q (T.setTop (mkF m pc Ls St)) :=
  Go.step (fun t q => XS.goto X.here B.x (g := mkF m pc Ls St) rfl rfl (B.d hd) ho hp q) K
/-! branches: K1 where the comparison holds, K2 where it doesn't -/
theorem g_icmp_lt (X : Stand p l e R s m args below meth c T locs cells slots) (B : Bdy p s m meth c Z a0 own nm bytes maxL rt tabs) {x y : Int32} {o : Int} {pcT pcF : Nat} (hd : decode bytes pc = .ok (.if_icmp .lt o, 3)) (ho : 0 ≤ (pc : Int) + o) (hT : ((pc : Int) + o).toNat = pcT) (hF : pc + 3 = pcF) (K1 : x < y → Go p e below s nc ns Q (T.setTop (mkF m pcT Ls St))) (K2 : ¬ x < y → Go p e below s nc ns Q (T.setTop (mkF m pcF Ls St))) : Go p e below s nc ns Q (T.setTop (mkF m pc Ls (.int y :: .int x :: St))) := by
  by_cases q : x < y
  · exact Go.step (fun t k => XS.icmpYes X.here B.x (g := mkF m pc Ls (.int y :: .int x :: St)) rfl rfl (B.d hd) rfl (tlt q).1 ho hT k) (K1 q)
  · subst hF; exact Go.step (fun t k => XS.icmpNo X.here B.x (g := mkF m pc Ls (.int y :: .int x :: St)) rfl (B.d hd) rfl (flt q).1 k) (K2 q)
theorem g_if_lt (X : Stand p l e R s m args below meth c T locs cells slots) (B : Bdy p s m meth c Z a0 own nm bytes maxL rt tabs) {x : Int32} {o : Int} {pcT pcF : Nat} (hd : decode bytes pc = .ok (.ifCond .lt o, 3)) (ho : 0 ≤ (pc : Int) + o) (hT : ((pc : Int) + o).toNat = pcT) (hF : pc + 3 = pcF) (K1 : x < (0 : Int32) → Go p e below s nc ns Q (T.setTop (mkF m pcT Ls St))) (K2 : ¬ x < (0 : Int32) → Go p e below s nc ns Q (T.setTop (mkF m pcF Ls St))) : Go p e below s nc ns Q (T.setTop (mkF m pc Ls (.int x :: St))) := by
  by_cases q : x < (0 : Int32)
  · exact Go.step (fun t k => XS.ifYes X.here B.x (g := mkF m pc Ls (.int x :: St)) rfl rfl (B.d hd) rfl ((if0 _ _).trans (tlt q).1) ho hT k) (K1 q)
  · subst hF; exact Go.step (fun t k => XS.ifNo X.here B.x (g := mkF m pc Ls (.int x :: St)) rfl (B.d hd) rfl ((if0 _ _).trans (flt q).1) k) (K2 q)
theorem g_lcmp_lt (X : Stand p l e R s m args below meth c T locs cells slots) (B : Bdy p s m meth c Z a0 own nm bytes maxL rt tabs) {x y : Int64} {o : Int} {pcT pcF : Nat} (hd1 : decode bytes pc = .ok (.lcmp, 1)) (hd : decode bytes (pc + 1) = .ok (.ifCond .lt o, 3)) (ho : 0 ≤ ((pc + 1 : Nat) : Int) + o) (hT : (((pc + 1 : Nat) : Int) + o).toNat = pcT) (hF : pc + 4 = pcF) (K1 : x < y → Go p e below s nc ns Q (T.setTop (mkF m pcT Ls St))) (K2 : ¬ x < y → Go p e below s nc ns Q (T.setTop (mkF m pcF Ls St))) : Go p e below s nc ns Q (T.setTop (mkF m pc Ls (.long y :: .long x :: St))) :=
  Go.step (fun t q => XS.lcmp X.here B.x (g := mkF m pc Ls (.long y :: .long x :: St)) rfl (B.d hd1) rfl q) (g_if_lt X B hd ho hT hF (fun q => K1 ((lw_lt x y).mp q)) (fun q => K2 fun z => q ((lw_lt x y).mpr z)))
theorem g_icmp_ge (X : Stand p l e R s m args below meth c T locs cells slots) (B : Bdy p s m meth c Z a0 own nm bytes maxL rt tabs) {x y : Int32} {o : Int} {pcT pcF : Nat} (hd : decode bytes pc = .ok (.if_icmp .ge o, 3)) (ho : 0 ≤ (pc : Int) + o) (hT : ((pc : Int) + o).toNat = pcT) (hF : pc + 3 = pcF) (K1 : x < y → Go p e below s nc ns Q (T.setTop (mkF m pcF Ls St))) (K2 : ¬ x < y → Go p e below s nc ns Q (T.setTop (mkF m pcT Ls St))) : Go p e below s nc ns Q (T.setTop (mkF m pc Ls (.int y :: .int x :: St))) := by
  by_cases q : x < y
  · subst hF; exact Go.step (fun t k => XS.icmpNo X.here B.x (g := mkF m pc Ls (.int y :: .int x :: St)) rfl (B.d hd) rfl (tlt q).2.1 k) (K1 q)
  · exact Go.step (fun t k => XS.icmpYes X.here B.x (g := mkF m pc Ls (.int y :: .int x :: St)) rfl rfl (B.d hd) rfl (flt q).2.1 ho hT k) (K2 q)
theorem g_if_ge (X : Stand p l e R s m args below meth c T locs cells slots) (B : Bdy p s m meth c Z a0 own nm bytes maxL rt tabs) {x : Int32} {o : Int} {pcT pcF : Nat} (hd : decode bytes pc = .ok (.ifCond .ge o, 3)) (ho : 0 ≤ (pc : Int) + o) (hT : ((pc : Int) + o).toNat = pcT) (hF : pc + 3 = pcF) (K1 : x < (0 : Int32) → Go p e below s nc ns Q (T.setTop (mkF m pcF Ls St))) (K2 : ¬ x < (0 : Int32) → Go p e below s nc ns Q (T.setTop (mkF m pcT Ls St))) : Go p e below s nc ns Q (T.setTop (mkF m pc Ls (.int x :: St))) := by
  by_cases q : x < (0 : Int32)
  · subst hF; exact Go.step (fun t k => XS.ifNo X.here B.x (g := mkF m pc Ls (.int x :: St)) rfl (B.d hd) rfl ((if0 _ _).trans (tlt q).2.1) k) (K1 q)
  · exact Go.step (fun t k => XS.ifYes X.here B.x (g := mkF m pc Ls (.int x :: St)) rfl rfl (B.d hd) rfl ((if0 _ _).trans (flt q).2.1) ho hT k) (K2 q)
theorem g_lcmp_ge (X : Stand p l e R s m args below meth c T locs cells slots) (B : Bdy p s m meth c Z a0 own nm bytes maxL rt tabs) {x y : Int64} {o : Int} {pcT pcF : Nat} (hd1 : decode bytes pc = .ok (.lcmp, 1)) (hd : decode bytes (pc + 1) = .ok (.ifCond .ge o, 3)) (ho : 0 ≤ ((pc + 1 : Nat) : Int) + o) (hT : (((pc + 1 : Nat) : Int) + o).toNat = pcT) (hF : pc + 4 = pcF) (K1 : x < y → Go p e below s nc ns Q (T.setTop (mkF m pcF Ls St))) (K2 : ¬ x < y → Go p e below s nc ns Q (T.setTop (mkF m pcT Ls St))) : Go p e below s nc ns Q (T.setTop (mkF m pc Ls (.long y :: .long x :: St))) :=
  Go.step (fun t q => XS.lcmp X.here B.x (g := mkF m pc Ls (.long y :: .long x :: St)) rfl (B.d hd1) rfl q) (g_if_ge X B hd ho hT hF (fun q => K1 ((lw_lt x y).mp q)) (fun q => K2 fun z => q ((lw_lt x y).mpr z)))
theorem g_icmp_gt (X : Stand p l e R s m args below meth c T locs cells slots) (B : Bdy p s m meth c Z a0 own nm bytes maxL rt tabs) {x y : Int32} {o : Int} {pcT pcF : Nat} (hd : decode bytes pc = .ok (.if_icmp .gt o, 3)) (ho : 0 ≤ (pc : Int) + o) (hT : ((pc : Int) + o).toNat = pcT) (hF : pc + 3 = pcF) (K1 : y < x → Go p e below s nc ns Q (T.setTop (mkF m pcT Ls St))) (K2 : ¬ y < x → Go p e below s nc ns Q (T.setTop (mkF m pcF Ls St))) : Go p e below s nc ns Q (T.setTop (mkF m pc Ls (.int y :: .int x :: St))) := by
  by_cases q : y < x
  · exact Go.step (fun t k => XS.icmpYes X.here B.x (g := mkF m pc Ls (.int y :: .int x :: St)) rfl rfl (B.d hd) rfl (tlt q).2.2.1 ho hT k) (K1 q)
  · subst hF; exact Go.step (fun t k => XS.icmpNo X.here B.x (g := mkF m pc Ls (.int y :: .int x :: St)) rfl (B.d hd) rfl (flt q).2.2.1 k) (K2 q)
theorem g_if_gt (X : Stand p l e R s m args below meth c T locs cells slots) (B : Bdy p s m meth c Z a0 own nm bytes maxL rt tabs) {x : Int32} {o : Int} {pcT pcF : Nat} (hd : decode bytes pc = .ok (.ifCond .gt o, 3)) (ho : 0 ≤ (pc : Int) + o) (hT : ((pc : Int) + o).toNat = pcT) (hF : pc + 3 = pcF) (K1 : (0 : Int32) < x → Go p e below s nc ns Q (T.setTop (mkF m pcT Ls St))) (K2 : ¬ (0 : Int32) < x → Go p e below s nc ns Q (T.setTop (mkF m pcF Ls St))) : Go p e below s nc ns Q (T.setTop (mkF m pc Ls (.int x :: St))) := by
  by_cases q : (0 : Int32) < x
  · exact Go.step (fun t k => XS.ifYes X.here B.x (g := mkF m pc Ls (.int x :: St)) rfl rfl (B.d hd) rfl ((if0 _ _).trans (tlt q).2.2.1) ho hT k) (K1 q)
  · subst hF; exact Go.step (fun t k => XS.ifNo X.here B.x (g := mkF m pc Ls (.int x :: St)) rfl (B.d hd) rfl ((if0 _ _).trans (flt q).2.2.1) k) (K2 q)
theorem g_lcmp_gt (X : Stand p l e R s m args below meth c T locs cells slots) (B : Bdy p s m meth c Z a0 own nm bytes maxL rt tabs) {x y : Int64} {o : Int} {pcT pcF : Nat} (hd1 : decode bytes pc = .ok (.lcmp, 1)) (hd : decode bytes (pc + 1) = .ok (.ifCond .gt o, 3)) (ho : 0 ≤ ((pc + 1 : Nat) : Int) + o) (hT : (((pc + 1 : Nat) : Int) + o).toNat = pcT) (hF : pc + 4 = pcF) (K1 : y < x → Go p e below s nc ns Q (T.setTop (mkF m pcT Ls St))) (K2 : ¬ y < x → Go p e below s nc ns Q (T.setTop (mkF m pcF Ls St))) : Go p e below s nc ns Q (T.setTop (mkF m pc Ls (.long y :: .long x :: St))) :=
  Go.step (fun t q => XS.lcmp X.here B.x (g := mkF m pc Ls (.long y :: .long x :: St)) rfl (B.d hd1) rfl q) (g_if_gt X B hd ho hT hF (fun q => K1 ((lw_gt x y).mp q)) (fun q => K2 fun z => q ((lw_gt x y).mpr z)))
theorem g_icmp_le (X : Stand p l e R s m args below meth c T locs cells slots) (B : Bdy p s m meth c Z a0 own nm bytes maxL rt tabs) {x y : Int32} {o : Int} {pcT pcF : Nat} (hd : decode bytes pc = .ok (.if_icmp .le o, 3)) (ho : 0 ≤ (pc : Int) + o) (hT : ((pc : Int) + o).toNat = pcT) (hF : pc + 3 = pcF) (K1 : y < x → Go p e below s nc ns Q (T.setTop (mkF m pcF Ls St))) (K2 : ¬ y < x → Go p e below s nc ns Q (T.setTop (mkF m pcT Ls St))) : Go p e below s nc ns Q (T.setTop (mkF m pc Ls (.int y :: .int x :: St))) := by
  by_cases q : y < x
  · subst hF; exact Go.step (fun t k => XS.icmpNo X.here B.x (g := mkF m pc Ls (.int y :: .int x :: St)) rfl (B.d hd) rfl (tlt q).2.2.2 k) (K1 q)
  · exact Go.step (fun t k => XS.icmpYes X.here B.x (g := mkF m pc Ls (.int y :: .int x :: St)) rfl rfl (B.d hd) rfl (flt q).2.2.2 ho hT k) (K2 q)
theorem g_if_le (X : Stand p l e R s m args below meth c T locs cells slots) (B : Bdy p s m meth c Z a0 own nm bytes maxL rt tabs) {x : Int32} {o : Int} {pcT pcF : Nat} (hd : decode bytes pc = .ok (.ifCond .le o, 3)) (ho : 0 ≤ (pc : Int) + o) (hT : ((pc : Int) + o).toNat = pcT) (hF : pc + 3 = pcF) (K1 : (0 : Int32) < x → Go p e below s nc ns Q (T.setTop (mkF m pcF Ls St))) (K2 : ¬ (0 : Int32) < x → Go p e below s nc ns Q (T.setTop (mkF m pcT Ls St))) : Go p e below s nc ns Q (T.setTop (mkF m pc Ls (.int x :: St))) := by
  by_cases q : (0 : Int32) < x
  · subst hF; exact Go.step (fun t k => XS.ifNo X.here B.x (g := mkF m pc Ls (.int x :: St)) rfl (B.d hd) rfl ((if0 _ _).trans (tlt q).2.2.2) k) (K1 q)
  · exact Go.step (fun t k => XS.ifYes X.here B.x (g := mkF m pc Ls (.int x :: St)) rfl rfl (B.d hd) rfl ((if0 _ _).trans (flt q).2.2.2) ho hT k) (K2 q)
theorem g_lcmp_le (X : Stand p l e R s m args below meth c T locs cells slots) (B : Bdy p s m meth c Z a0 own nm bytes maxL rt tabs) {x y : Int64} {o : Int} {pcT pcF : Nat} (hd1 : decode bytes pc = .ok (.lcmp, 1)) (hd : decode bytes (pc + 1) = .ok (.ifCond .le o, 3)) (ho : 0 ≤ ((pc + 1 : Nat) : Int) + o) (hT : (((pc + 1 : Nat) : Int) + o).toNat = pcT) (hF : pc + 4 = pcF) (K1 : y < x → Go p e below s nc ns Q (T.setTop (mkF m pcF Ls St))) (K2 : ¬ y < x → Go p e below s nc ns Q (T.setTop (mkF m pcT Ls St))) : Go p e below s nc ns Q (T.setTop (mkF m pc Ls (.long y :: .long x :: St))) :=
  Go.step (fun t q => XS.lcmp X.here B.x (g := mkF m pc Ls (.long y :: .long x :: St)) rfl (B.d hd1) rfl q) (g_if_le X B hd ho hT hF (fun q => K1 ((lw_gt x y).mp q)) (fun q => K2 fun z => q ((lw_gt x y).mpr z)))
theorem g_icmp_eq (X : Stand p l e R s m args below meth c T locs cells slots) (B : Bdy p s m meth c Z a0 own nm bytes maxL rt tabs) {x y : Int32} {o : Int} {pcT pcF : Nat} (hd : decode bytes pc = .ok (.if_icmp .eq o, 3)) (ho : 0 ≤ (pc : Int) + o) (hT : ((pc : Int) + o).toNat = pcT) (hF : pc + 3 = pcF) (K1 : x = y → Go p e below s nc ns Q (T.setTop (mkF m pcT Ls St))) (K2 : ¬ x = y → Go p e below s nc ns Q (T.setTop (mkF m pcF Ls St))) : Go p e below s nc ns Q (T.setTop (mkF m pc Ls (.int y :: .int x :: St))) := by
  by_cases q : x = y
  · exact Go.step (fun t k => XS.icmpYes X.here B.x (g := mkF m pc Ls (.int y :: .int x :: St)) rfl rfl (B.d hd) rfl (teq q).1 ho hT k) (K1 q)
  · subst hF; exact Go.step (fun t k => XS.icmpNo X.here B.x (g := mkF m pc Ls (.int y :: .int x :: St)) rfl (B.d hd) rfl (feq q).1 k) (K2 q)
theorem g_if_eq (X : Stand p l e R s m args below meth c T locs cells slots) (B : Bdy p s m meth c Z a0 own nm bytes maxL rt tabs) {x : Int32} {o : Int} {pcT pcF : Nat} (hd : decode bytes pc = .ok (.ifCond .eq o, 3)) (ho : 0 ≤ (pc : Int) + o) (hT : ((pc : Int) + o).toNat = pcT) (hF : pc + 3 = pcF) (K1 : x = (0 : Int32) → Go p e below s nc ns Q (T.setTop (mkF m pcT Ls St))) (K2 : ¬ x = (0 : Int32) → Go p e below s nc ns Q (T.setTop (mkF m pcF Ls St))) : Go p e below s nc ns Q (T.setTop (mkF m pc Ls (.int x :: St))) := by
  by_cases q : x = (0 : Int32)
  · exact Go.step (fun t k => XS.ifYes X.here B.x (g := mkF m pc Ls (.int x :: St)) rfl rfl (B.d hd) rfl ((if0 _ _).trans (teq q).1) ho hT k) (K1 q)
  · subst hF; exact Go.step (fun t k => XS.ifNo X.here B.x (g := mkF m pc Ls (.int x :: St)) rfl (B.d hd) rfl ((if0 _ _).trans (feq q).1) k) (K2 q)
theorem g_lcmp_eq (X : Stand p l e R s m args below meth c T locs cells slots) (B : Bdy p s m meth c Z a0 own nm bytes maxL rt tabs) {x y : Int64} {o : Int} {pcT pcF : Nat} (hd1 : decode bytes pc = .ok (.lcmp, 1)) (hd : decode bytes (pc + 1) = .ok (.ifCond .eq o, 3)) (ho : 0 ≤ ((pc + 1 : Nat) : Int) + o) (hT : (((pc + 1 : Nat) : Int) + o).toNat = pcT) (hF : pc + 4 = pcF) (K1 : x = y → Go p e below s nc ns Q (T.setTop (mkF m pcT Ls St))) (K2 : ¬ x = y → Go p e below s nc ns Q (T.setTop (mkF m pcF Ls St))) : Go p e below s nc ns Q (T.setTop (mkF m pc Ls (.long y :: .long x :: St))) :=
  Go.step (fun t q => XS.lcmp X.here B.x (g := mkF m pc Ls (.long y :: .long x :: St)) rfl (B.d hd1) rfl q) (g_if_eq X B hd ho hT hF (fun q => K1 ((lw_eq x y).mp q)) (fun q => K2 fun z => q ((lw_eq x y).mpr z)))
theorem g_icmp_ne (X : Stand p l e R s m args below meth c T locs cells slots) (B : Bdy p s m meth c Z a0 own nm bytes maxL rt tabs) {x y : Int32} {o : Int} {pcT pcF : Nat} (hd : decode bytes pc = .ok (.if_icmp .ne o, 3)) (ho : 0 ≤ (pc : Int) + o) (hT : ((pc : Int) + o).toNat = pcT) (hF : pc + 3 = pcF) (K1 : x = y → Go p e below s nc ns Q (T.setTop (mkF m pcF Ls St))) (K2 : ¬ x = y → Go p e below s nc ns Q (T.setTop (mkF m pcT Ls St))) : Go p e below s nc ns Q (T.setTop (mkF m pc Ls (.int y :: .int x :: St))) := by
  by_cases q : x = y
  · subst hF; exact Go.step (fun t k => XS.icmpNo X.here B.x (g := mkF m pc Ls (.int y :: .int x :: St)) rfl (B.d hd) rfl (teq q).2 k) (K1 q)
  · exact Go.step (fun t k => XS.icmpYes X.here B.x (g := mkF m pc Ls (.int y :: .int x :: St)) rfl rfl (B.d hd) rfl (feq q).2 ho hT k) (K2 q)
theorem g_if_ne (X : Stand p l e R s m args below meth c T locs cells slots) (B : Bdy p s m meth c Z a0 own nm bytes maxL rt tabs) {x : Int32} {o : Int} {pcT pcF : Nat} (hd : decode bytes pc = .ok (.ifCond .ne o, 3)) (ho : 0 ≤ (pc : Int) + o) (hT : ((pc : Int) + o).toNat = pcT) (hF : pc + 3 = pcF) (K1 : x = (0 : Int32) → Go p e below s nc ns Q (T.setTop (mkF m pcF Ls St))) (K2 : ¬ x = (0 : Int32) → Go p e below s nc ns Q (T.setTop (mkF m pcT Ls St))) : Go p e below s nc ns Q (T.setTop (mkF m pc Ls (.int x :: St))) := by
  by_cases q : x = (0 : Int32)
  · subst hF; exact Go.step (fun t k => XS.ifNo X.here B.x (g := mkF m pc Ls (.int x :: St)) rfl (B.d hd) rfl ((if0 _ _).trans (teq q).2) k) (K1 q)
  · exact Go.step (fun t k => XS.ifYes X.here B.x (g := mkF m pc Ls (.int x :: St)) rfl rfl (B.d hd) rfl ((if0 _ _).trans (feq q).2) ho hT k) (K2 q)
theorem g_lcmp_ne (X : Stand p l e R s m args below meth c T locs cells slots) (B : Bdy p s m meth c Z a0 own nm bytes maxL rt tabs) {x y : Int64} {o : Int} {pcT pcF : Nat} (hd1 : decode bytes pc = .ok (.lcmp, 1)) (hd : decode bytes (pc + 1) = .ok (.ifCond .ne o, 3)) (ho : 0 ≤ ((pc + 1 : Nat) : Int) + o) (hT : (((pc + 1 : Nat) : Int) + o).toNat = pcT) (hF : pc + 4 = pcF) (K1 : x = y → Go p e below s nc ns Q (T.setTop (mkF m pcF Ls St))) (K2 : ¬ x = y → Go p e below s nc ns Q (T.setTop (mkF m pcT Ls St))) : Go p e below s nc ns Q (T.setTop (mkF m pc Ls (.long y :: .long x :: St))) :=
  Go.step (fun t q => XS.lcmp X.here B.x (g := mkF m pc Ls (.long y :: .long x :: St)) rfl (B.d hd1) rfl q) (g_if_ne X B hd ho hT hF (fun q => K1 ((lw_eq x y).mp q)) (fun q => K2 fun z => q ((lw_eq x y).mpr z)))
/-! ends -/
theorem g_ret0 (X : Stand p l e R s m args below meth c T locs cells slots) (B : Bdy p s m meth c Z a0 own nm bytes maxL rt tabs) (hr : rt = none) (hd : decode bytes pc = .ok (.return_, 1)) (hc : cells ≤ nc) (hs : slots ≤ ns) (q : Q none T.heap locs) : Go p e below s nc ns Q (T.setTop (mkF m pc Ls [])) := by
  subst hr
  obtain ⟨fs, hr, hrun, hended, hW, hsame⟩ := X.leave (v := none) (fun _ => rfl) B.lk
  exact ⟨_, _, X.returnOut B.x B.r (B.d hd) hr, hrun, hended, _, _, rfl, q, ⟨_, rfl⟩, hW, hsame.mono hc hs⟩
theorem g_retV (X : Stand p l e R s m args below meth c T locs cells slots) (B : Bdy p s m meth c Z a0 own nm bytes maxL rt tabs) {w : Value} {t : FieldType} {i : Instr} (hr : rt = some t) (hn : narrow t w = w)
    (hi : (i = .ireturn ∧ (t = .int ∨ t = .boolean ∨ t = .byte ∨ t = .char ∨ t = .short) ∧ ∃ z, w = .int z) ∨ (i = .lreturn ∧ t = .long ∧ ∃ z, w = .long z) ∨ (i = .dreturn ∧ t = .double ∧ ∃ z, w = .double z) ∨ (i = .freturn ∧ t = .float ∧ ∃ z, w = .float z) ∨ (i = .areturn ∧ t.isReference = true ∧ w.isRef = true))
    (hd : decode bytes pc = .ok (i, 1)) (hc : cells ≤ nc) (hs : slots ≤ ns) (q : Q (some w) T.heap locs) : Go p e below s nc ns Q (T.setTop (mkF m pc Ls (w :: St))) := by
  subst hr
  obtain ⟨fs, hr, hrun, hended, hW, hsame⟩ := X.leave (v := some w) (fun h => by rw [B.r] at h; cases h) B.lk
  exact ⟨_, _, retOut X B.x B.r hn hi (B.d hd) hr, hrun, hended, _, _, rfl, q, ⟨_, rfl⟩, hW, hsame.mono hc hs⟩
theorem g_retI (X : Stand p l e R s m args below meth c T locs cells slots) (B : Bdy p s m meth c Z a0 own nm bytes maxL rt tabs) {z : Int32} (hr : rt = some .int) (hd : decode bytes pc = .ok (.ireturn, 1)) (hc : cells ≤ nc) (hs : slots ≤ ns) (q : Q (some (.int z)) T.heap locs) : Go p e below s nc ns Q (T.setTop (mkF m pc Ls (.int z :: St))) :=
  g_retV X B hr rfl (Or.inl ⟨rfl, Or.inl rfl, z, rfl⟩) hd hc hs q
theorem g_retL (X : Stand p l e R s m args below meth c T locs cells slots) (B : Bdy p s m meth c Z a0 own nm bytes maxL rt tabs) {z : Int64} (hr : rt = some .long) (hd : decode bytes pc = .ok (.lreturn, 1)) (hc : cells ≤ nc) (hs : slots ≤ ns) (q : Q (some (.long z)) T.heap locs) : Go p e below s nc ns Q (T.setTop (mkF m pc Ls (.long z :: St))) :=
  g_retV X B hr rfl (Or.inr (Or.inl ⟨rfl, rfl, z, rfl⟩)) hd hc hs q
theorem g_retA (X : Stand p l e R s m args below meth c T locs cells slots) (B : Bdy p s m meth c Z a0 own nm bytes maxL rt tabs) {w : Value} {t : FieldType} (hr : rt = some t) (ht : t.isReference = true) (hw : w.isRef = true) (hn : narrow t w = w) (hd : decode bytes pc = .ok (.areturn, 1)) (hc : cells ≤ nc) (hs : slots ≤ ns) (q : Q (some w) T.heap locs) : Go p e below s nc ns Q (T.setTop (mkF m pc Ls (w :: St))) :=
  g_retV X B hr hn (Or.inr (Or.inr (Or.inr (Or.inr ⟨rfl, ht, hw⟩)))) hd hc hs q
theorem g_retN (X : Stand p l e R s m args below meth c T locs cells slots) (B : Bdy p s m meth c Z a0 own nm bytes maxL rt tabs) {z : Int32} {t : FieldType} (hr : rt = some t) (ht : t = .boolean ∨ t = .byte ∨ t = .char ∨ t = .short) (hd : decode bytes pc = .ok (.ireturn, 1)) (hc : cells ≤ nc) (hs : slots ≤ ns) (q : Q (some (.int (nar t z))) T.heap locs) : Go p e below s nc ns Q (T.setTop (mkF m pc Ls (.int z :: St))) := by
  subst hr
  obtain ⟨fs, hr, hrun, hended, hW, hsame⟩ := X.leave (v := some (.int (nar t z))) (fun h => by rw [B.r] at h; cases h) B.lk
  exact ⟨_, _, retN X B.x B.r ht (B.d hd) hr, hrun, hended, _, _, rfl, q, ⟨_, rfl⟩, hW, hsame.mono hc hs⟩
/-! calls -/
abbrev Met (l : Launch) (Z : State) (y : MethodName) (yb : ByteArray) (ym : Nat) (yr : Option FieldType) (ws : List Jvm.Cond) (rm : Room) (as : Array Value) (h : Heap) (Qc : Option Value → Heap → List Loc → Prop) : Prop :=
  MetFree l y (head1 (Jvm.Cond.code y yb ym yr :: ws) rm) (fun a U => a = as ∧ Z.Warmed39 U.vm ∧ U.heap = h) (fun _ _ _ _ _ => True) (fun _ U o U' => ∃ v L, o = .returned v ∧ Qc v U'.heap L ∧ FrameEnd U o U' L rm.cells rm.slots)
theorem met_of {y : MethodName} {rm : Room} {as : Array Value} {ws : List Jvm.Cond} (hpl : plainFor y = true) (hw : ∀ d ∈ tabs, d.before a0 Z = true)
    (body : ∀ (p : Program) (e : Env) (s : State) (m : MethodId) (below : List Frame) (meth : Method) (c : Code) (T : State), Stand p l e rm s m as below meth c T [] 0 0 → Bdy p s m meth c Z a0 y.cls y.name bytes maxL rt tabs → T.heap = h → Go p e below s rm.cells rm.slots Q (T.setTop (entryFrame m as maxL))) :
    Met l Z y bytes maxL rt ws rm as h Q := by
  refine MetFree.of_bodySF hpl hisR ?_
  intro p e s m args below meth c s₁ Bd hml0 hP hK
  obtain ⟨rfl, hZ, hh⟩ := hP
  exact body p e s m below meth c s₁ (Stand.of_body Bd) ⟨Bd.exec, hZ, hw, Bd.bytes, hml0, findClass_of_methodNamed Bd.named, Bd.returns, BodyLoose.notSynchronized Bd, (name_of_methodNamed Bd.named Bd.method).1⟩ (by rw [← hh, Bd.state]; rfl)
theorem g_callS (X : Stand p l e R s m args below meth c T locs cells slots) (B : Bdy p s m meth c Z a0 own nm bytes maxL rt tabs) {y : MethodName} {i : Nat} {yb : ByteArray} {ym : Nat} {yr : Option FieldType} {rm : Room} {argsL rest : List Value} {Qc : Option Value → Heap → List Loc → Prop} (eT : T.heap = h) (W : Nat)
    (w1 : (Jvm.Cond.methodLink own i y).before a0 Z = true) (w2 : (Jvm.Cond.static y).before a0 Z = true) (w3 : (Jvm.Cond.initialized y.cls).before a0 Z = true) (w4 : (Jvm.Cond.code y yb ym yr).before a0 Z = true) (hy : y.cls ≠ "java/lang/invoke/MethodHandle" ∧ y.cls ≠ "java/lang/invoke/VarHandle")
    (M : Met l Z y yb ym yr [] rm argsL.toArray h Qc) (hf : rm.frames + 1 ≤ R.frames) (hl : W + (ym + 11) + rm.locals ≤ R.locals) (hc : cells + rm.cells ≤ R.cells) (hs : slots + rm.slots ≤ R.slots)
    (hsz : Ls.size = maxL) (hlen : ∀ sig, parseMethodDescriptor y.desc = some sig → argsL.length = sig.parameters.length) (hst : St = argsL.reverse ++ rest) (hW : (rest.map fun v => v.category).sum ≤ W) (hd : decode bytes pc = .ok (.invokestatic i, 3)) (hp : pc + 3 = pc')
    (K : ∀ (T' : State) (v : Option Value) (L : List Loc), Stand p l e R s m args below meth c T' (locs ++ L) (cells + rm.cells) (slots + rm.slots) → Qc v T'.heap L → Go p e below s nc ns Q (T'.setTop (mkF m pc' Ls (v.toList ++ rest)))) : Go p e below s nc ns Q (T.setTop (mkF m pc Ls St)) := by
  subst hp
  obtain ⟨v, _, ⟨T', L', k', n'⟩, -, X', ⟨Lc, hQ, l', y', z'⟩, st⟩ := Jvm.LawKit.callS X B.x (y := y) B.o (mvT B.z w1) (mvT B.z w2) (mvT B.z w3) (mvT B.z w4) hy (backOf (W := W) M B.z w4 w3 hf hl) (g := mkF m pc Ls St) rfl (by rw [B.ml]; exact hsz) (argsL := argsL) (rest := rest) hlen hst (by show 2 * 0 + _ ≤ _; omega) (B.d hd) (fun _ _ => ⟨rfl, eT, hc, hs⟩)
  dsimp only [Pt.U, Pt.locs, Pt.cells, Pt.slots] at X' l' y' z' st hQ
  subst l' y' z'
  exact Go.step st (K T' v Lc X' hQ)
theorem g_callP (X : Stand p l e R s m args below meth c T locs cells slots) (B : Bdy p s m meth c Z a0 own nm bytes maxL rt tabs) {y : MethodName} {i : Nat} {yb : ByteArray} {ym : Nat} {yr : Option FieldType} {fr lo : Nat} {argsL rest : List Value} {w : Value} (eT : T.heap = h) (W : Nat)
    (w1 : (Jvm.Cond.methodLink own i y).before a0 Z = true) (w2 : (Jvm.Cond.static y).before a0 Z = true) (w3 : (Jvm.Cond.initialized y.cls).before a0 Z = true) (w4 : (Jvm.Cond.code y yb ym yr).before a0 Z = true) (hy : y.cls ≠ "java/lang/invoke/MethodHandle" ∧ y.cls ≠ "java/lang/invoke/VarHandle")
    (M : Met l Z y yb ym yr [] ⟨fr, 0, 0, lo⟩ argsL.toArray h (PQ (some w) h [])) (hf : fr + 1 ≤ R.frames) (hl : W + (ym + 11) + lo ≤ R.locals) (hc : cells ≤ R.cells) (hs : slots ≤ R.slots)
    (hsz : Ls.size = maxL) (hlen : ∀ sig, parseMethodDescriptor y.desc = some sig → argsL.length = sig.parameters.length) (hst : St = argsL.reverse ++ rest) (hW : (rest.map fun v => v.category).sum ≤ W) (hd : decode bytes pc = .ok (.invokestatic i, 3)) (hp : pc + 3 = pc')
    (K : ∀ (T' : State), Stand p l e R s m args below meth c T' locs cells slots → T'.heap = h → Go p e below s nc ns Q (T'.setTop (mkF m pc' Ls (w :: rest)))) : Go p e below s nc ns Q (T.setTop (mkF m pc Ls St)) := by
  refine g_callS X B eT W w1 w2 w3 w4 hy M hf hl hc hs hsz hlen hst hW hd hp fun T' v L X' q => ?_
  obtain ⟨rfl, q2, rfl⟩ := q
  rw [List.append_nil] at X'
  exact K T' X' q2
end GoKit
/-! own frame, the heap's steps -/
def Ax (Z : State) (h : Heap) (a : Addr) (ty : FieldType) (n : Nat) (w : Nat → Value) : Prop := n < 2147483648 ∧ ∃ c : Cell, Arr Z h a c ty ∧ c.slots.size = n ∧ ∀ j, j < n → c.slots[j]? = some (w j)
section HeapKit
variable {p : Program} {l : Launch} {e : Env} {R : Room} {s : State} {m : MethodId} {args : Array Value} {below : List Frame} {meth : Method} {c : Code} {T : State} {locs : List Loc} {cells slots : Nat} {Z : State} {a0 : Array Value} {h h' : Heap} {nc ns : Nat} {Q Q' : Option Value → Heap → List Loc → Prop} {pc pc' : Nat} {Ls Ls' : Array Slot} {St : List Value} {own nm : String} {bytes : ByteArray} {maxL : Nat} {rt : Option FieldType} {tabs : List Jvm.Cond}
theorem Ax.lt {a : Addr} {ty : FieldType} {n : Nat} {w : Nat → Value} (F : Ax Z h a ty n w) : a < h.size := by obtain ⟨-, c, A, -⟩ := F; exact A.lt
theorem Ax.ext {a : Addr} {ty : FieldType} {n : Nat} {w : Nat → Value} (F : Ax Z h a ty n w) (E : Ext h h') : Ax Z h' a ty n w := by obtain ⟨h0, c, A, r⟩ := F; exact ⟨h0, c, A.ext E, r⟩
theorem Ax.other {a b : Addr} {ty : FieldType} {n sl : Nat} {v : Value} {w : Nat → Value} (F : Ax Z h b ty n w) (W : Wr h h' a sl v) (q : b ≠ a) : Ax Z h' b ty n w := by obtain ⟨h0, c, A, r⟩ := F; exact ⟨h0, c, A.other W q, r⟩
theorem Ax.keep {a : Addr} {ty : FieldType} {n : Nat} {w : Nat → Value} {ws : List Addr} (F : Ax Z h a ty n w) (K : Keep h h' ws) (q : a ∉ ws) : Ax Z h' a ty n w := by obtain ⟨h0, c, A, r⟩ := F; exact ⟨h0, c, ⟨K.2.1 a c A.1 q, A.2⟩, r⟩
theorem Ax.set {a : Addr} {ty : FieldType} {n k : Nat} {v : Value} {w : Nat → Value} (F : Ax Z h a ty n w) (W : Wr h h' a k v) : Ax Z h' a ty n (fun j => if j = k then v else w j) := by
  obtain ⟨h0, c, A, r1, r2⟩ := F
  refine ⟨h0, _, A.same W, by rw [sz_set]; exact r1, fun j hj => ?_⟩
  by_cases q : j = k
  · subst q; simp [Cell.setSlot, r1, hj]
  · simp only [Cell.setSlot, if_neg q]; rw [Array.getElem?_setIfInBounds_ne (Ne.symm q)]; exact r2 j hj
theorem Ax.eqw {a : Addr} {ty : FieldType} {n : Nat} {w w' : Nat → Value} (F : Ax Z h a ty n w) (q : ∀ j, j < n → w j = w' j) : Ax Z h a ty n w' := by
  obtain ⟨h0, c, A, r1, r2⟩ := F
  exact ⟨h0, c, A, r1, fun j hj => by rw [← q j hj]; exact r2 j hj⟩
theorem own_idx {j : Int32} {k n : Nat} (hk : j.toInt = (k : Int)) (hn : k < n) : ¬ (j < 0 ∨ n ≤ j.toNatClampNeg) ∧ j.toNatClampNeg = k := by
  have e0 : (0 : Int32).toInt = 0 := rfl
  have e1 : j.toNatClampNeg = j.toInt.toNat := rfl
  rw [Int32.lt_iff_toInt_lt, e0, e1, hk]; omega
theorem g_getF (X : Stand p l e R s m args below meth c T locs cells slots) (B : Bdy p s m meth c Z a0 own nm bytes maxL rt tabs) {i : Nat} {R0 O n d : String} {a : Addr} {v : Value} (w : (Jvm.Cond.fieldLink own i R0 n d).before a0 Z = true) (via : Via Z R0 O n d) (eT : T.heap = h) (F : Fld Z h a O n d v) (hd : decode bytes pc = .ok (.getfield i, 3)) (hp : pc + 3 = pc')
    (K : ∀ T' : State, Stand p l e R s m args below meth c T' locs cells slots → T'.heap = h → Go p e below s nc ns Q (T'.setTop (mkF m pc' Ls (v :: St)))) : Go p e below s nc ns Q (T.setTop (mkF m pc Ls (.ref a :: St))) := by
  subst hp
  obtain ⟨T', X', e', st⟩ := getF X B.x B.z B.o (host := "") (Or.inl w) via eT F (g := mkF m pc Ls (.ref a :: St)) rfl rfl (B.d hd)
  exact Go.step st (K T' X' e')
theorem g_putF (X : Stand p l e R s m args below meth c T locs cells slots) (B : Bdy p s m meth c Z a0 own nm bytes maxL rt tabs) {i kk : Nat} {R0 O n d C : String} {a : Addr} {v old : Value} {ty : FieldType} (w : (Jvm.Cond.fieldLink own i R0 n d).before a0 Z = true) (via : Via Z R0 O n d) (eT : T.heap = h) (F : Fld Z h a O n d old) (E : Exa Z h a C)
    (L : (Jvm.Cond.lays C O n d).before a0 Z = true ∨ ((Jvm.Cond.laysFinal C O n d).before a0 Z = true ∧ own = O ∧ nm = "<init>")) (wi : (Jvm.Cond.instantiable C kk).before a0 Z = true) (hty : parseFieldDescriptor d = some ty) (hn : narrow ty v = v) (hf : fits ty v = true)
    (hd : decode bytes pc = .ok (.putfield i, 3)) (hp : pc + 3 = pc')
    (K : ∀ (T' : State) (h' : Heap), Stand p l e R s m args below meth c T' (locs ++ [⟨a, Jvm.RoadKit.slotOf Z O n d⟩]) cells slots → T'.heap = h' → Wr h h' a (Jvm.RoadKit.slotOf Z O n d) v → Go p e below s nc ns Q (T'.setTop (mkF m pc' Ls St))) : Go p e below s nc ns Q (T.setTop (mkF m pc Ls (v :: .ref a :: St))) := by
  subst hp
  obtain ⟨T', h', X', e', W, st⟩ := putF X B.x B.z B.o (host := "") (Or.inl w) via eT F E (L.imp id fun q => ⟨q.1, q.2.1, B.n.trans q.2.2⟩) wi hty hn hf (g := mkF m pc Ls (v :: .ref a :: St)) rfl rfl (B.d hd)
  exact Go.step st (K T' h' X' e' W)
theorem g_getS (X : Stand p l e R s m args below meth c T locs cells slots) (B : Bdy p s m meth c Z a0 own nm bytes maxL rt tabs) {i : Nat} {R0 O n d : String} {v : Value} (w : (Jvm.Cond.fieldLink own i R0 n d).before a0 Z = true) (via : Via Z R0 O n d) (eT : T.heap = h) (F : Sta Z h O n d v) (hd : decode bytes pc = .ok (.getstatic i, 3)) (hp : pc + 3 = pc')
    (K : ∀ T' : State, Stand p l e R s m args below meth c T' locs cells slots → T'.heap = h → Go p e below s nc ns Q (T'.setTop (mkF m pc' Ls (v :: St)))) : Go p e below s nc ns Q (T.setTop (mkF m pc Ls St)) := by
  subst hp
  obtain ⟨T', X', e', st⟩ := getS X B.x B.z B.o (host := "") w via eT F (g := mkF m pc Ls St) rfl (B.d hd)
  exact Go.step st (K T' X' e')
theorem g_new (X : Stand p l e R s m args below meth c T locs cells slots) (B : Bdy p s m meth c Z a0 own nm bytes maxL rt tabs) {i n : Nat} {C : String} (w : (Jvm.Cond.classLink own i C).before a0 Z = true) (wi : (Jvm.Cond.instantiable C n).before a0 Z = true) (wz : (Jvm.Cond.initialized C).before a0 Z = true) (eT : T.heap = h) (hd : decode bytes pc = .ok (.new i, 3)) (hp : pc + 3 = pc') (hc : cells + 1 ≤ R.cells) (hl : slots + n ≤ R.slots)
    (K : ∀ (T' : State) (h' : Heap) (a : Addr), a = h.size → Stand p l e R s m args below meth c T' locs (cells + 1) (slots + n) → T'.heap = h' → Ext h h' → Exa Z h' a C → (∀ {O nm d : String} {ty : FieldType}, Laid Z a0 C O nm d → parseFieldDescriptor d = some ty → Fld Z h' a O nm d (defaultValue ty)) → Go p e below s nc ns Q (T'.setTop (mkF m pc' Ls (.ref a :: St)))) : Go p e below s nc ns Q (T.setTop (mkF m pc Ls St)) := by
  subst hp
  obtain ⟨T', h', X', e', E, A, D, -, st⟩ := newO X B.x B.z B.o w wi wz eT (g := mkF m pc Ls St) rfl (B.d hd) hc hl
  exact Go.step st (K T' h' _ rfl X' e' E A D)
theorem g_newA (X : Stand p l e R s m args below meth c T locs cells slots) (B : Bdy p s m meth c Z a0 own nm bytes maxL rt tabs) {aty : ArrayType} {z : Int32} (k cap : Nat) (w : (Jvm.Cond.arrayClass (newarray.typeOf aty)).before a0 Z = true) (eT : T.heap = h) (hz : z.toInt = (k : Int)) (hcap : k ≤ cap) (hb : cap * 8 ≤ 536870912) (hd : decode bytes pc = .ok (.newarray aty, 2)) (hp : pc + 2 = pc') (hc : cells + 1 ≤ R.cells) (hl : slots + cap ≤ R.slots)
    (K : ∀ (T' : State) (h' : Heap) (a : Addr), a = h.size → Stand p l e R s m args below meth c T' locs (cells + 1) (slots + cap) → T'.heap = h' → Ext h h' → Ax Z h' a (newarray.typeOf aty) k (fun _ => defaultValue (newarray.typeOf aty)) → Go p e below s nc ns Q (T'.setTop (mkF m pc' Ls (.ref a :: St)))) : Go p e below s nc ns Q (T.setTop (mkF m pc Ls (.int z :: St))) := by
  subst hp
  have e1 : z.toNatClampNeg = k := by show z.toInt.toNat = k; omega
  have e0 : (0 : Int32).toInt = 0 := rfl
  have hlt := z.toInt_lt
  obtain ⟨T', h', cA, X', e', E, A, st⟩ := newP X B.x B.z w eT (g := mkF m pc Ls (.int z :: St)) rfl (B.d hd) rfl (by rw [Int32.lt_iff_toInt_lt, e0]; omega) (cap := cap) (by omega) hb hc hl
  refine Go.step st (K T' h' _ rfl X' e' E ⟨by omega, _, A, (sz_new _ _ _).trans e1, fun j hj => ?_⟩)
  simp [newA, e1, hj]
theorem g_arrlen (X : Stand p l e R s m args below meth c T locs cells slots) (B : Bdy p s m meth c Z a0 own nm bytes maxL rt tabs) {a : Addr} {ty : FieldType} {n : Nat} {w : Nat → Value} (z : Int32) (eT : T.heap = h) (F : Ax Z h a ty n w) (hz : z.toInt = (n : Int)) (hd : decode bytes pc = .ok (.arraylength, 1)) (hp : pc + 1 = pc') (K : Go p e below s nc ns Q (T.setTop (mkF m pc' Ls (.int z :: St)))) : Go p e below s nc ns Q (T.setTop (mkF m pc Ls (.ref a :: St))) := by
  subst hp
  obtain ⟨h0, c, A, r1, -⟩ := F
  have ez : c.slots.size.toInt32 = z := by
    apply Int32.toInt_inj.mp; rw [hz, r1]; exact Int32.toInt_ofNat_small (by omega)
  refine Go.step (fun t q => X.arraylength B.x (by rw [eT]; exact A.1) (State.isArrayOf_alike B.z.alike A.2.1) (g := mkF m pc Ls (.ref a :: St)) rfl rfl (B.d hd) t (by rw [ez]; exact q)) K
theorem g_iaload (X : Stand p l e R s m args below meth c T locs cells slots) (B : Bdy p s m meth c Z a0 own nm bytes maxL rt tabs) {a : Addr} {n : Nat} {w : Nat → Value} {j : Int32} {v : Value} (k : Nat) (eT : T.heap = h) (F : Ax Z h a .int n w) (hk : j.toInt = (k : Int)) (hn : k < n) (hv : w k = v) (hd : decode bytes pc = .ok (.iaload, 1)) (hp : pc + 1 = pc') (K : Go p e below s nc ns Q (T.setTop (mkF m pc' Ls (v :: St)))) : Go p e below s nc ns Q (T.setTop (mkF m pc Ls (.int j :: .ref a :: St))) := by
  subst hp
  obtain ⟨h0, c, A, r1, r2⟩ := F
  obtain ⟨q1, q2⟩ := own_idx hk hn
  exact Go.step (fun t q => X.iaload B.x (v := v) (by rw [eT]; exact A.1) (State.isArrayOf_alike B.z.alike A.2.1) A.2.2 (by rw [r1]; exact q1) (by rw [q2, ← hv]; exact r2 k hn) (g := mkF m pc Ls (.int j :: .ref a :: St)) rfl rfl (B.d hd) t q) K
theorem g_laload (X : Stand p l e R s m args below meth c T locs cells slots) (B : Bdy p s m meth c Z a0 own nm bytes maxL rt tabs) {a : Addr} {n : Nat} {w : Nat → Value} {j : Int32} {v : Value} (k : Nat) (eT : T.heap = h) (F : Ax Z h a .long n w) (hk : j.toInt = (k : Int)) (hn : k < n) (hv : w k = v) (hd : decode bytes pc = .ok (.laload, 1)) (hp : pc + 1 = pc') (K : Go p e below s nc ns Q (T.setTop (mkF m pc' Ls (v :: St)))) : Go p e below s nc ns Q (T.setTop (mkF m pc Ls (.int j :: .ref a :: St))) := by
  subst hp
  obtain ⟨h0, c, A, r1, r2⟩ := F
  obtain ⟨q1, q2⟩ := own_idx hk hn
  exact Go.step (fun t q => X.laload B.x (v := v) (by rw [eT]; exact A.1) (State.isArrayOf_alike B.z.alike A.2.1) A.2.2 (by rw [r1]; exact q1) (by rw [q2, ← hv]; exact r2 k hn) (g := mkF m pc Ls (.int j :: .ref a :: St)) rfl rfl (B.d hd) t q) K
theorem g_baloadB (X : Stand p l e R s m args below meth c T locs cells slots) (B : Bdy p s m meth c Z a0 own nm bytes maxL rt tabs) {a : Addr} {n : Nat} {w : Nat → Value} {j : Int32} {v : Value} (k : Nat) (eT : T.heap = h) (F : Ax Z h a .byte n w) (hk : j.toInt = (k : Int)) (hn : k < n) (hv : w k = v) (hd : decode bytes pc = .ok (.baload, 1)) (hp : pc + 1 = pc') (K : Go p e below s nc ns Q (T.setTop (mkF m pc' Ls (v :: St)))) : Go p e below s nc ns Q (T.setTop (mkF m pc Ls (.int j :: .ref a :: St))) := by
  subst hp
  obtain ⟨h0, c, A, r1, r2⟩ := F
  obtain ⟨q1, q2⟩ := own_idx hk hn
  exact Go.step (fun t q => X.baloadBytes B.x (v := v) (by rw [eT]; exact A.1) (State.isArrayOf_alike B.z.alike A.2.1) A.2.2 (by rw [r1]; exact q1) (by rw [q2, ← hv]; exact r2 k hn) (g := mkF m pc Ls (.int j :: .ref a :: St)) rfl rfl (B.d hd) t q) K
theorem g_baloadZ (X : Stand p l e R s m args below meth c T locs cells slots) (B : Bdy p s m meth c Z a0 own nm bytes maxL rt tabs) {a : Addr} {n : Nat} {w : Nat → Value} {j : Int32} {v : Value} (k : Nat) (eT : T.heap = h) (F : Ax Z h a .boolean n w) (hk : j.toInt = (k : Int)) (hn : k < n) (hv : w k = v) (hd : decode bytes pc = .ok (.baload, 1)) (hp : pc + 1 = pc') (K : Go p e below s nc ns Q (T.setTop (mkF m pc' Ls (v :: St)))) : Go p e below s nc ns Q (T.setTop (mkF m pc Ls (.int j :: .ref a :: St))) := by
  subst hp
  obtain ⟨h0, c, A, r1, r2⟩ := F
  obtain ⟨q1, q2⟩ := own_idx hk hn
  exact Go.step (fun t q => X.baloadBooleans B.x (v := v) (by rw [eT]; exact A.1) (State.isArrayOf_alike B.z.alike A.2.1) A.2.2 (by rw [r1]; exact q1) (by rw [q2, ← hv]; exact r2 k hn) (g := mkF m pc Ls (.int j :: .ref a :: St)) rfl rfl (B.d hd) t q) K
theorem g_iastore (X : Stand p l e R s m args below meth c T locs cells slots) (B : Bdy p s m meth c Z a0 own nm bytes maxL rt tabs) {a : Addr} {n : Nat} {w : Nat → Value} {j x : Int32} (k : Nat) (eT : T.heap = h) (F : Ax Z h a .int n w) (hk : j.toInt = (k : Int)) (hn : k < n) (hd : decode bytes pc = .ok (.iastore, 1)) (hp : pc + 1 = pc')
    (K : ∀ (T' : State) (h' : Heap), Stand p l e R s m args below meth c T' (locs ++ [⟨a, k⟩]) cells slots → T'.heap = h' → Wr h h' a k (.int x) → Go p e below s nc ns Q (T'.setTop (mkF m pc' Ls St))) : Go p e below s nc ns Q (T.setTop (mkF m pc Ls (.int x :: .int j :: .ref a :: St))) := by
  subst hp
  obtain ⟨h0, c, A, r1, r2⟩ := F
  obtain ⟨q1, q2⟩ := own_idx hk hn
  obtain ⟨T', h', X', e', W, st⟩ := stI X B.x B.z eT A (j := j) (x := x) (by rw [r1]; exact q1) (g := mkF m pc Ls (.int x :: .int j :: .ref a :: St)) rfl rfl (B.d hd)
  rw [q2] at X' W
  exact Go.step st (K T' h' X' e' W)
theorem g_lastore (X : Stand p l e R s m args below meth c T locs cells slots) (B : Bdy p s m meth c Z a0 own nm bytes maxL rt tabs) {a : Addr} {n : Nat} {w : Nat → Value} {j : Int32} {x : Int64} (k : Nat) (eT : T.heap = h) (F : Ax Z h a .long n w) (hk : j.toInt = (k : Int)) (hn : k < n) (hd : decode bytes pc = .ok (.lastore, 1)) (hp : pc + 1 = pc')
    (K : ∀ (T' : State) (h' : Heap), Stand p l e R s m args below meth c T' (locs ++ [⟨a, k⟩]) cells slots → T'.heap = h' → Wr h h' a k (.long x) → Go p e below s nc ns Q (T'.setTop (mkF m pc' Ls St))) : Go p e below s nc ns Q (T.setTop (mkF m pc Ls (.long x :: .int j :: .ref a :: St))) := by
  subst hp
  obtain ⟨h0, c, A, r1, r2⟩ := F
  obtain ⟨q1, q2⟩ := own_idx hk hn
  obtain ⟨T', h', X', e', W, st⟩ := stJ X B.x B.z eT A (j := j) (x := x) (by rw [r1]; exact q1) (g := mkF m pc Ls (.long x :: .int j :: .ref a :: St)) rfl rfl (B.d hd)
  rw [q2] at X' W
  exact Go.step st (K T' h' X' e' W)
theorem g_bastoreB (X : Stand p l e R s m args below meth c T locs cells slots) (B : Bdy p s m meth c Z a0 own nm bytes maxL rt tabs) {a : Addr} {n : Nat} {w : Nat → Value} {j x : Int32} (k : Nat) (eT : T.heap = h) (F : Ax Z h a .byte n w) (hk : j.toInt = (k : Int)) (hn : k < n) (hd : decode bytes pc = .ok (.bastore, 1)) (hp : pc + 1 = pc')
    (K : ∀ (T' : State) (h' : Heap), Stand p l e R s m args below meth c T' (locs ++ [⟨a, k⟩]) cells slots → T'.heap = h' → Wr h h' a k (.int (nar .byte x)) → Go p e below s nc ns Q (T'.setTop (mkF m pc' Ls St))) : Go p e below s nc ns Q (T.setTop (mkF m pc Ls (.int x :: .int j :: .ref a :: St))) := by
  subst hp
  obtain ⟨h0, c, A, r1, r2⟩ := F
  obtain ⟨q1, q2⟩ := own_idx hk hn
  obtain ⟨T', h', X', e', W, st⟩ := stB X B.x B.z eT A (j := j) (x := x) (by rw [r1]; exact q1) (g := mkF m pc Ls (.int x :: .int j :: .ref a :: St)) rfl rfl (B.d hd)
  rw [q2] at X' W
  exact Go.step st (K T' h' X' e' W)
theorem g_bastoreZ (X : Stand p l e R s m args below meth c T locs cells slots) (B : Bdy p s m meth c Z a0 own nm bytes maxL rt tabs) {a : Addr} {n : Nat} {w : Nat → Value} {j x : Int32} (k : Nat) (eT : T.heap = h) (F : Ax Z h a .boolean n w) (hk : j.toInt = (k : Int)) (hn : k < n) (hd : decode bytes pc = .ok (.bastore, 1)) (hp : pc + 1 = pc')
    (K : ∀ (T' : State) (h' : Heap), Stand p l e R s m args below meth c T' (locs ++ [⟨a, k⟩]) cells slots → T'.heap = h' → Wr h h' a k (.int (nar .boolean x)) → Go p e below s nc ns Q (T'.setTop (mkF m pc' Ls St))) : Go p e below s nc ns Q (T.setTop (mkF m pc Ls (.int x :: .int j :: .ref a :: St))) := by
  subst hp
  obtain ⟨h0, c, A, r1, r2⟩ := F
  obtain ⟨q1, q2⟩ := own_idx hk hn
  obtain ⟨T', h', X', e', W, st⟩ := stZ X B.x B.z eT A (j := j) (x := x) (by rw [r1]; exact q1) (g := mkF m pc Ls (.int x :: .int j :: .ref a :: St)) rfl rfl (B.d hd)
  rw [q2] at X' W
  exact Go.step st (K T' h' X' e' W)
theorem g_castore (X : Stand p l e R s m args below meth c T locs cells slots) (B : Bdy p s m meth c Z a0 own nm bytes maxL rt tabs) {a : Addr} {n : Nat} {w : Nat → Value} {j x : Int32} (k : Nat) (eT : T.heap = h) (F : Ax Z h a .char n w) (hk : j.toInt = (k : Int)) (hn : k < n) (hd : decode bytes pc = .ok (.castore, 1)) (hp : pc + 1 = pc')
    (K : ∀ (T' : State) (h' : Heap), Stand p l e R s m args below meth c T' (locs ++ [⟨a, k⟩]) cells slots → T'.heap = h' → Wr h h' a k (.int (nar .char x)) → Go p e below s nc ns Q (T'.setTop (mkF m pc' Ls St))) : Go p e below s nc ns Q (T.setTop (mkF m pc Ls (.int x :: .int j :: .ref a :: St))) := by
  subst hp
  obtain ⟨h0, c, A, r1, r2⟩ := F
  obtain ⟨q1, q2⟩ := own_idx hk hn
  obtain ⟨T', h', X', e', W, st⟩ := stC X B.x B.z eT A (j := j) (x := x) (by rw [r1]; exact q1) (g := mkF m pc Ls (.int x :: .int j :: .ref a :: St)) rfl rfl (B.d hd)
  rw [q2] at X' W
  exact Go.step st (K T' h' X' e' W)
theorem g_sastore (X : Stand p l e R s m args below meth c T locs cells slots) (B : Bdy p s m meth c Z a0 own nm bytes maxL rt tabs) {a : Addr} {n : Nat} {w : Nat → Value} {j x : Int32} (k : Nat) (eT : T.heap = h) (F : Ax Z h a .short n w) (hk : j.toInt = (k : Int)) (hn : k < n) (hd : decode bytes pc = .ok (.sastore, 1)) (hp : pc + 1 = pc')
    (K : ∀ (T' : State) (h' : Heap), Stand p l e R s m args below meth c T' (locs ++ [⟨a, k⟩]) cells slots → T'.heap = h' → Wr h h' a k (.int (nar .short x)) → Go p e below s nc ns Q (T'.setTop (mkF m pc' Ls St))) : Go p e below s nc ns Q (T.setTop (mkF m pc Ls (.int x :: .int j :: .ref a :: St))) := by
  subst hp
  obtain ⟨h0, c, A, r1, r2⟩ := F
  obtain ⟨q1, q2⟩ := own_idx hk hn
  obtain ⟨T', h', X', e', W, st⟩ := stS X B.x B.z eT A (j := j) (x := x) (by rw [r1]; exact q1) (g := mkF m pc Ls (.int x :: .int j :: .ref a :: St)) rfl rfl (B.d hd)
  rw [q2] at X' W
  exact Go.step st (K T' h' X' e' W)
theorem g_initO (X : Stand p l e R s m args below meth c T locs cells slots) (B : Bdy p s m meth c Z a0 own nm bytes maxL rt tabs) {i : Nat} {a : Addr} (W : Nat) (w1 : (Jvm.Cond.methodLink own i Lib.objectInit).before a0 Z = true) (w2 : (Jvm.Cond.instanceMethod Lib.objectInit).before a0 Z = true) (w3 : (Jvm.Cond.code Lib.objectInit ⟨#[0xb1]⟩ 1 none).before a0 Z = true) (eT : T.heap = h) (hsz : Ls.size = maxL) (hd : decode bytes pc = .ok (.invokespecial i, 3)) (hp : pc + 3 = pc')
    (hf : 1 ≤ R.frames) (hW : (St.map fun v => v.category).sum ≤ W) (hl : W + 12 ≤ R.locals) (K : ∀ T' : State, Stand p l e R s m args below meth c T' locs cells slots → T'.heap = h → Go p e below s nc ns Q (T'.setTop (mkF m pc' Ls St))) : Go p e below s nc ns Q (T.setTop (mkF m pc Ls (.ref a :: St))) := by
  subst hp
  obtain ⟨T', X', e', st⟩ := initO X B.x B.z B.o w1 w2 w3 eT (g := mkF m pc Ls (.ref a :: St)) rfl (by rw [B.ml]; exact hsz) rfl (B.d hd) hf (W := W) (by show 2 * 0 + _ ≤ _; omega) hl
  exact Go.step st (K T' X' e')
theorem g_special (X : Stand p l e R s m args below meth c T locs cells slots) (B : Bdy p s m meth c Z a0 own nm bytes maxL rt tabs) {y : MethodName} {i : Nat} {yb : ByteArray} {ym : Nat} {rm : Room} {a : Addr} {argsL rest : List Value} {Qc : Option Value → Heap → List Loc → Prop} (eT : T.heap = h) (W : Nat) (hy1 : y.name = "<init>")
    (w1 : (Jvm.Cond.methodLink own i y).before a0 Z = true) (w2 : (Jvm.Cond.instanceMethod y).before a0 Z = true) (w3 : (Jvm.Cond.initialized y.cls).before a0 Z = true) (w4 : (Jvm.Cond.code y yb ym none).before a0 Z = true) (hy : y.cls ≠ "java/lang/invoke/MethodHandle" ∧ y.cls ≠ "java/lang/invoke/VarHandle")
    (M : Met l Z y yb ym none [] rm (.ref a :: argsL).toArray h Qc) (hf : rm.frames + 1 ≤ R.frames) (hl : W + (ym + 11) + rm.locals ≤ R.locals) (hc : cells + rm.cells ≤ R.cells) (hs : slots + rm.slots ≤ R.slots)
    (hsz : Ls.size = maxL) (hlen : ∀ sig, parseMethodDescriptor y.desc = some sig → argsL.length = sig.parameters.length) (hst : St = argsL.reverse ++ .ref a :: rest) (hW : (rest.map fun v => v.category).sum ≤ W) (hd : decode bytes pc = .ok (.invokespecial i, 3)) (hp : pc + 3 = pc')
    (K : ∀ (T' : State) (v : Option Value) (L : List Loc), Stand p l e R s m args below meth c T' (locs ++ L) (cells + rm.cells) (slots + rm.slots) → Qc v T'.heap L → Go p e below s nc ns Q (T'.setTop (mkF m pc' Ls (v.toList ++ rest)))) : Go p e below s nc ns Q (T.setTop (mkF m pc Ls St)) := by
  subst hp
  obtain ⟨v, _, ⟨T', L', k', n'⟩, -, X', ⟨Lc, hQ, l', y', z'⟩, st⟩ := X.specialBack B.x (y := y) hy1 B.o (mvT B.z w1) (mvT B.z w2) (mvT B.z w4) hy (backOf (W := W) M B.z w4 w3 hf hl) (g := mkF m pc Ls St) rfl (by rw [B.ml]; exact hsz) (Steps.refl _) (a := a) (argsL := argsL) (rest := rest) hlen hst (by show 2 * 0 + _ ≤ _; omega) (B.d hd) (fun _ _ => ⟨rfl, eT, hc, hs⟩)
  dsimp only [Pt.U, Pt.locs, Pt.cells, Pt.slots] at X' l' y' z' st hQ
  subst l' y' z'
  exact Go.step (fun t q => st.trans q) (K T' v Lc X' hQ)
theorem g_virtual (X : Stand p l e R s m args below meth c T locs cells slots) (B : Bdy p s m meth c Z a0 own nm bytes maxL rt tabs) {y : MethodName} {C : String} {i : Nat} {yb : ByteArray} {ym : Nat} {yr : Option FieldType} {rm : Room} {a : Addr} {argsL rest : List Value} {Qc : Option Value → Heap → List Loc → Prop} (eT : T.heap = h) (W : Nat) (E : Exa Z h a C)
    (w1 : (Jvm.Cond.methodLink own i y).before a0 Z = true) (wd : (Jvm.Cond.declares y).before a0 Z = true) (wsel : (Jvm.Cond.selects C y y).before a0 Z = true) (w2 : (Jvm.Cond.instanceMethod y).before a0 Z = true) (w3 : (Jvm.Cond.initialized y.cls).before a0 Z = true) (w4 : (Jvm.Cond.code y yb ym yr).before a0 Z = true) (hy : y.cls ≠ "java/lang/invoke/MethodHandle" ∧ y.cls ≠ "java/lang/invoke/VarHandle")
    (M : Met l Z y yb ym yr [] rm (.ref a :: argsL).toArray h Qc) (hf : rm.frames + 1 ≤ R.frames) (hl : W + (ym + 11) + rm.locals ≤ R.locals) (hc : cells + rm.cells ≤ R.cells) (hs : slots + rm.slots ≤ R.slots)
    (hsz : Ls.size = maxL) (hlen : ∀ sig, parseMethodDescriptor y.desc = some sig → argsL.length = sig.parameters.length) (hst : St = argsL.reverse ++ .ref a :: rest) (hW : (rest.map fun v => v.category).sum ≤ W) (hd : decode bytes pc = .ok (.invokevirtual i, 3)) (hp : pc + 3 = pc')
    (K : ∀ (T' : State) (v : Option Value) (L : List Loc), Stand p l e R s m args below meth c T' (locs ++ L) (cells + rm.cells) (slots + rm.slots) → Qc v T'.heap L → Go p e below s nc ns Q (T'.setTop (mkF m pc' Ls (v.toList ++ rest)))) : Go p e below s nc ns Q (T.setTop (mkF m pc Ls St)) := by
  subst hp
  obtain ⟨cq, kq, q1, q2, q3⟩ := isOf B.z eT E
  obtain ⟨v, _, ⟨T', L', k', n'⟩, -, X', ⟨Lc, hQ, l', y', z'⟩, st⟩ := X.virtualBack B.x (y := y) (z := y) B.o (mvT B.z w1) (mvT B.z wd) (notFace_of_selects (args := #[]) (mvT B.z wsel)) (mvT B.z wsel) (mvT B.z w2) hy (backOf (W := W) M B.z w4 w3 hf hl) q1 q3 (g := mkF m pc Ls St) rfl (by rw [B.ml]; exact hsz) (Steps.refl _) (argsL := argsL) (rest := rest) hlen hst (by show 2 * 0 + _ ≤ _; omega) (B.d hd) (fun _ _ => ⟨rfl, eT, hc, hs⟩)
  dsimp only [Pt.U, Pt.locs, Pt.cells, Pt.slots] at X' l' y' z' st hQ
  subst l' y' z'
  exact Go.step (fun t q => st.trans q) (K T' v Lc X' hQ)
theorem g_ifnullR (X : Stand p l e R s m args below meth c T locs cells slots) (B : Bdy p s m meth c Z a0 own nm bytes maxL rt tabs) {a : Addr} {o : Int} (hd : decode bytes pc = .ok (.ifnull o, 3)) (hp : pc + 3 = pc') (K : Go p e below s nc ns Q (T.setTop (mkF m pc' Ls St))) : Go p e below s nc ns Q (T.setTop (mkF m pc Ls (.ref a :: St))) := by
  subst hp; exact Go.step (fun t q => XS.ifnullNo X.here B.x (g := mkF m pc Ls (.ref a :: St)) rfl (B.d hd) rfl q) K
theorem g_ifnullN (X : Stand p l e R s m args below meth c T locs cells slots) (B : Bdy p s m meth c Z a0 own nm bytes maxL rt tabs) {o : Int} (hd : decode bytes pc = .ok (.ifnull o, 3)) (ho : 0 ≤ (pc : Int) + o) (hp : ((pc : Int) + o).toNat = pc') (K : Go p e below s nc ns Q (T.setTop (mkF m pc' Ls St))) : Go p e below s nc ns Q (T.setTop (mkF m pc Ls (.null :: St))) :=
  Go.step (fun t q => XS.ifnullYes X.here B.x (g := mkF m pc Ls (.null :: St)) rfl rfl (B.d hd) rfl ho hp q) K
theorem g_ifnonnullR (X : Stand p l e R s m args below meth c T locs cells slots) (B : Bdy p s m meth c Z a0 own nm bytes maxL rt tabs) {a : Addr} {o : Int} (hd : decode bytes pc = .ok (.ifnonnull o, 3)) (ho : 0 ≤ (pc : Int) + o) (hp : ((pc : Int) + o).toNat = pc') (K : Go p e below s nc ns Q (T.setTop (mkF m pc' Ls St))) : Go p e below s nc ns Q (T.setTop (mkF m pc Ls (.ref a :: St))) :=
  Go.step (fun t q => XS.ifnonnullYes X.here B.x (g := mkF m pc Ls (.ref a :: St)) rfl rfl (B.d hd) rfl ho hp q) K
theorem g_ifnonnullN (X : Stand p l e R s m args below meth c T locs cells slots) (B : Bdy p s m meth c Z a0 own nm bytes maxL rt tabs) {o : Int} (hd : decode bytes pc = .ok (.ifnonnull o, 3)) (hp : pc + 3 = pc') (K : Go p e below s nc ns Q (T.setTop (mkF m pc' Ls St))) : Go p e below s nc ns Q (T.setTop (mkF m pc Ls (.null :: St))) := by
  subst hp; exact Go.step (fun t q => XS.ifnonnullNo X.here B.x (g := mkF m pc Ls (.null :: St)) rfl (B.d hd) rfl q) K
theorem g_acmp_eq (X : Stand p l e R s m args below meth c T locs cells slots) (B : Bdy p s m meth c Z a0 own nm bytes maxL rt tabs) {a b : Addr} {o : Int} {pcT pcF : Nat} (hd : decode bytes pc = .ok (.if_acmp .eq o, 3)) (ho : 0 ≤ (pc : Int) + o) (hT : ((pc : Int) + o).toNat = pcT) (hF : pc + 3 = pcF) (K1 : a = b → Go p e below s nc ns Q (T.setTop (mkF m pcT Ls St))) (K2 : ¬ a = b → Go p e below s nc ns Q (T.setTop (mkF m pcF Ls St))) : Go p e below s nc ns Q (T.setTop (mkF m pc Ls (.ref b :: .ref a :: St))) := by
  by_cases q : a = b
  · exact Go.step (fun t k => XS.acmpYes X.here B.x (g := mkF m pc Ls (.ref b :: .ref a :: St)) rfl rfl (B.d hd) rfl (by simp [if_acmp.holds, q]) ho hT k) (K1 q)
  · subst hF; exact Go.step (fun t k => XS.acmpNo X.here B.x (g := mkF m pc Ls (.ref b :: .ref a :: St)) rfl (B.d hd) rfl (by simp [if_acmp.holds, q]) k) (K2 q)
theorem g_acmp_ne (X : Stand p l e R s m args below meth c T locs cells slots) (B : Bdy p s m meth c Z a0 own nm bytes maxL rt tabs) {a b : Addr} {o : Int} {pcT pcF : Nat} (hd : decode bytes pc = .ok (.if_acmp .ne o, 3)) (ho : 0 ≤ (pc : Int) + o) (hT : ((pc : Int) + o).toNat = pcT) (hF : pc + 3 = pcF) (K1 : a = b → Go p e below s nc ns Q (T.setTop (mkF m pcF Ls St))) (K2 : ¬ a = b → Go p e below s nc ns Q (T.setTop (mkF m pcT Ls St))) : Go p e below s nc ns Q (T.setTop (mkF m pc Ls (.ref b :: .ref a :: St))) := by
  by_cases q : a = b
  · subst hF; exact Go.step (fun t k => XS.acmpNo X.here B.x (g := mkF m pc Ls (.ref b :: .ref a :: St)) rfl (B.d hd) rfl (by simp [if_acmp.holds, q]) k) (K1 q)
  · exact Go.step (fun t k => XS.acmpYes X.here B.x (g := mkF m pc Ls (.ref b :: .ref a :: St)) rfl rfl (B.d hd) rfl (by simp [if_acmp.holds, q]) ho hT k) (K2 q)
theorem own_fuq {a : Addr} {C n d : String} {v w : Value} (F : Fld Z h a C n d v) (G : Fld Z h a C n d w) : v = w := by
  obtain ⟨c1, _, _, _, _, h1, h2, -, -, -, -, h3⟩ := F
  obtain ⟨c2, _, _, _, _, g1, g2, -, -, -, -, g3⟩ := G
  cases h1.symm.trans g1
  cases h2.symm.trans g2
  exact Option.some.inj (h3.symm.trans g3)
theorem own_fl {x : Addr} {t : Term} {C n d : String} {k : Int32} {as : Array Value} (ht : t.eval as s none [] s = some (.ref x)) (q : (Jvm.Cond.eq (.field t C n d) (.int k)).value as s none s [] = some true) : s.fieldOf? x C n d = some (.int k) := by
  obtain ⟨x', y', e1, e2, k1, k2⟩ := cmp_v (Or.inl q)
  have e3 : y' = .int k := (Option.some.inj ((Term.int_eval k).symm.trans e2)).symm
  subst e3
  obtain ⟨z, rfl⟩ := k2
  have e4 := gotT (Cond.eq_ints e1 e2) q
  subst e4
  rw [← fld_at (C := C) (n := n) (dd := d) ht]; exact e1
end HeapKit
theorem own_ints_nil (x : Int32) : ∀ j : Nat, ∃ v : Int32, (fun _ : Nat => Value.int x) j = .int v := fun _ => ⟨x, rfl⟩
theorem own_ints_set {w : Nat → Value} (H : ∀ j : Nat, ∃ v : Int32, w j = .int v) (k : Nat) (x : Int32) : ∀ j : Nat, ∃ v : Int32, (fun j => if j = k then Value.int x else w j) j = .int v := fun j => by
  by_cases q : j = k
  · exact ⟨x, by simp [q]⟩
  · obtain ⟨v, hv⟩ := H j; exact ⟨v, by simp [q, hv]⟩
section HeapKit2
variable {p : Program} {l : Launch} {e : Env} {R : Room} {s : State} {m : MethodId} {args : Array Value} {below : List Frame} {meth : Method} {c : Code} {T : State} {locs : List Loc} {cells slots : Nat} {Z : State} {a0 : Array Value} {h h' : Heap} {nc ns : Nat} {Q Q' : Option Value → Heap → List Loc → Prop} {pc pc' : Nat} {Ls Ls' : Array Slot} {St : List Value} {own nm : String} {bytes : ByteArray} {maxL : Nat} {rt : Option FieldType} {tabs : List Jvm.Cond}
theorem g_iaload_any (X : Stand p l e R s m args below meth c T locs cells slots) (B : Bdy p s m meth c Z a0 own nm bytes maxL rt tabs) {a : Addr} {n : Nat} {w : Nat → Value} {j : Int32} (k : Nat) (eT : T.heap = h) (F : Ax Z h a .int n w) (hk : j.toInt = (k : Int)) (hn : k < n) (hall : ∀ j : Nat, ∃ v : Int32, w j = .int v) (hd : decode bytes pc = .ok (.iaload, 1)) (hp : pc + 1 = pc') (K : ∀ v : Int32, Go p e below s nc ns Q (T.setTop (mkF m pc' Ls (.int v :: St)))) : Go p e below s nc ns Q (T.setTop (mkF m pc Ls (.int j :: .ref a :: St))) := by
  obtain ⟨v, hv⟩ := hall k
  exact g_iaload X B k eT F hk hn hv hd hp (K v)
end HeapKit2
section HeapKit3
variable {p : Program} {l : Launch} {e : Env} {R : Room} {s : State} {m : MethodId} {args : Array Value} {below : List Frame} {meth : Method} {c : Code} {T : State} {locs : List Loc} {cells slots : Nat} {Z : State} {a0 : Array Value} {h h' : Heap} {nc ns : Nat} {Q Q' : Option Value → Heap → List Loc → Prop} {pc pc' : Nat} {Ls Ls' : Array Slot} {St : List Value} {own nm : String} {bytes : ByteArray} {maxL : Nat} {rt : Option FieldType} {tabs : List Jvm.Cond}
theorem g_private (X : Stand p l e R s m args below meth c T locs cells slots) (B : Bdy p s m meth c Z a0 own nm bytes maxL rt tabs) {y : MethodName} {C : String} {i kk : Nat} {yb : ByteArray} {ym : Nat} {yr : Option FieldType} {rm : Room} {a : Addr} {argsL rest : List Value} {Qc : Option Value → Heap → List Loc → Prop} (eT : T.heap = h) (W : Nat) (E : Exa Z h a C)
    (w1 : (Jvm.Cond.methodLink own i y).before a0 Z = true) (wi : (Jvm.Cond.instantiable y.cls kk).before a0 Z = true) (wp : (Jvm.Cond.privateMethod y).before a0 Z = true) (w2 : (Jvm.Cond.instanceMethod y).before a0 Z = true) (w3 : (Jvm.Cond.initialized y.cls).before a0 Z = true) (w4 : (Jvm.Cond.code y yb ym yr).before a0 Z = true) (hy : y.cls ≠ "java/lang/invoke/MethodHandle" ∧ y.cls ≠ "java/lang/invoke/VarHandle")
    (M : Met l Z y yb ym yr [] rm (.ref a :: argsL).toArray h Qc) (hf : rm.frames + 1 ≤ R.frames) (hl : W + (ym + 11) + rm.locals ≤ R.locals) (hc : cells + rm.cells ≤ R.cells) (hs : slots + rm.slots ≤ R.slots)
    (hsz : Ls.size = maxL) (hlen : ∀ sig, parseMethodDescriptor y.desc = some sig → argsL.length = sig.parameters.length) (hst : St = argsL.reverse ++ .ref a :: rest) (hW : (rest.map fun v => v.category).sum ≤ W) (hd : decode bytes pc = .ok (.invokevirtual i, 3)) (hp : pc + 3 = pc')
    (K : ∀ (T' : State) (v : Option Value) (L : List Loc), Stand p l e R s m args below meth c T' (locs ++ L) (cells + rm.cells) (slots + rm.slots) → Qc v T'.heap L → Go p e below s nc ns Q (T'.setTop (mkF m pc' Ls (v.toList ++ rest)))) : Go p e below s nc ns Q (T.setTop (mkF m pc Ls St)) := by
  subst hp
  obtain ⟨cq, q1, q2⟩ := E.cell
  have wi' : (Jvm.Cond.instantiable y.cls kk).before args s = true := mvT B.z wi
  have w2' : (Jvm.Cond.instanceMethod y).before args s = true := mvT B.z w2
  obtain ⟨c2, k2, i1, i2, i3, i4, -⟩ := Cond.instantiable_spec wi'
  have i5 : k2.isInterface = false := by
    cases hq : k2.isInterface with
    | false => rfl
    | true => rw [hq] at i4; cases i4
  have hpv := Cond.privateMethod_at (mvP B.z wp (args := #[]))
  obtain ⟨v, _, ⟨T', L', k', n'⟩, -, X', ⟨Lc, hQ, l', y', z'⟩, st⟩ := X.privateBack B.x (y := y) B.o (mvT B.z w1) w2' (selects_self_of_private i1 i2 i5 hpv w2' hy) hpv (mvT B.z w4) hy (backOf (W := W) M B.z w4 w3 hf hl) (g := mkF m pc Ls St) rfl (by rw [B.ml]; exact hsz) (Steps.refl _) (a := a) (by rw [eT]; exact q1) q2 (argsL := argsL) (rest := rest) hlen hst (by show 2 * 0 + _ ≤ _; omega) (B.d hd) (fun _ _ => ⟨rfl, eT, hc, hs⟩)
  dsimp only [Pt.U, Pt.locs, Pt.cells, Pt.slots] at X' l' y' z' st hQ
  subst l' y' z'
  exact Go.step (fun t q => st.trans q) (K T' v Lc X' hQ)
theorem g_pop2L (X : Stand p l e R s m args below meth c T locs cells slots) (B : Bdy p s m meth c Z a0 own nm bytes maxL rt tabs) {x : Int64} (hd : decode bytes pc = .ok (.pop2, 1)) (hp : pc + 1 = pc') (K : Go p e below s nc ns Q (T.setTop (mkF m pc' Ls St))) : Go p e below s nc ns Q (T.setTop (mkF m pc Ls (.long x :: St))) := by
  subst hp
  have hd' := B.d hd
  have hx := B.x
  refine Go.step (fun t q => ?_) K
  jvm_step X.here [X.here.top, hx, hd', Value.category]
  exact q
theorem g_instY (X : Stand p l e R s m args below meth c T locs cells slots) (B : Bdy p s m meth c Z a0 own nm bytes maxL rt tabs) {i : Nat} {C : String} {a : Addr} (w : (Jvm.Cond.classLink own i C).before a0 Z = true) (eT : T.heap = h) (F : Ins Z h a C true) (hd : decode bytes pc = .ok (.instanceof i, 3)) (hp : pc + 3 = pc')
    (K : ∀ T' : State, Stand p l e R s m args below meth c T' locs cells slots → T'.heap = h → Go p e below s nc ns Q (T'.setTop (mkF m pc' Ls (.int (1 : Int32) :: St)))) : Go p e below s nc ns Q (T.setTop (mkF m pc Ls (.ref a :: St))) := by
  subst hp
  obtain ⟨T', X', e', st⟩ := instY X B.x B.z B.o w eT F (g := mkF m pc Ls (.ref a :: St)) rfl rfl (B.d hd)
  exact Go.step st (K T' X' e')
theorem g_instN (X : Stand p l e R s m args below meth c T locs cells slots) (B : Bdy p s m meth c Z a0 own nm bytes maxL rt tabs) {i : Nat} {K' C : String} {a : Addr} (w : (Jvm.Cond.classLink own i K').before a0 Z = true) (eT : T.heap = h) (E : Exa Z h a C) (F : ∃ c t, Z.vm.findClass C = some c ∧ Z.vm.findClass K' = some t ∧ Z.vm.assignable c t = false) (hd : decode bytes pc = .ok (.instanceof i, 3)) (hp : pc + 3 = pc')
    (K : ∀ T' : State, Stand p l e R s m args below meth c T' locs cells slots → T'.heap = h → Go p e below s nc ns Q (T'.setTop (mkF m pc' Ls (.int (0 : Int32) :: St)))) : Go p e below s nc ns Q (T.setTop (mkF m pc Ls (.ref a :: St))) := by
  subst hp
  obtain ⟨T', X', e', st⟩ := instNo X B.x B.z B.o w eT E F (g := mkF m pc Ls (.ref a :: St)) rfl rfl (B.d hd)
  exact Go.step st (K T' X' e')
theorem g_castY (X : Stand p l e R s m args below meth c T locs cells slots) (B : Bdy p s m meth c Z a0 own nm bytes maxL rt tabs) {i : Nat} {C : String} {a : Addr} (w : (Jvm.Cond.classLink own i C).before a0 Z = true) (eT : T.heap = h) (F : Ins Z h a C true) (hd : decode bytes pc = .ok (.checkcast i, 3)) (hp : pc + 3 = pc')
    (K : ∀ T' : State, Stand p l e R s m args below meth c T' locs cells slots → T'.heap = h → Go p e below s nc ns Q (T'.setTop (mkF m pc' Ls (.ref a :: St)))) : Go p e below s nc ns Q (T.setTop (mkF m pc Ls (.ref a :: St))) := by
  subst hp
  obtain ⟨T', X', e', st⟩ := castY X B.x B.z B.o w eT F (g := mkF m pc Ls (.ref a :: St)) rfl rfl (B.d hd)
  exact Go.step st (K T' X' e')
end HeapKit3
theorem own_pd0 : parseMethodDescriptor "(I)Lcom/example/proteus/proteus/value/AttributeType;" = some ⟨[.int], some (.object "com/example/proteus/proteus/value/AttributeType")⟩ := by decide +kernel
theorem own_pd1 : parseMethodDescriptor "()Z" = some ⟨[], some .boolean⟩ := by decide +kernel
theorem own_pd2 : parseMethodDescriptor "(I)Z" = some ⟨[.int], some .boolean⟩ := by decide +kernel
theorem ex_d0 : decode method_3_code 0 = .ok (.iload_n 0, 1) := by decide +kernel
theorem ex_d1 : decode method_3_code 1 = .ok (.ifCond .ne 5, 3) := by decide +kernel
theorem ex_d4 : decode method_3_code 4 = .ok (.iconst 1, 1) := by decide +kernel
theorem ex_d5 : decode method_3_code 5 = .ok (.ireturn, 1) := by decide +kernel
theorem ex_d6 : decode method_3_code 6 = .ok (.iload_n 0, 1) := by decide +kernel
theorem ex_d7 : decode method_3_code 7 = .ok (.iconst 1, 1) := by decide +kernel
theorem ex_d8 : decode method_3_code 8 = .ok (.if_icmp .ne 5, 3) := by decide +kernel
theorem ex_d11 : decode method_3_code 11 = .ok (.iconst 1, 1) := by decide +kernel
theorem ex_d12 : decode method_3_code 12 = .ok (.ireturn, 1) := by decide +kernel
theorem ex_d13 : decode method_3_code 13 = .ok (.iload_n 0, 1) := by decide +kernel
theorem ex_d14 : decode method_3_code 14 = .ok (.iconst 2, 1) := by decide +kernel
theorem ex_d15 : decode method_3_code 15 = .ok (.if_icmp .ne 5, 3) := by decide +kernel
theorem ex_d18 : decode method_3_code 18 = .ok (.iconst 1, 1) := by decide +kernel
theorem ex_d19 : decode method_3_code 19 = .ok (.ireturn, 1) := by decide +kernel
theorem ex_d20 : decode method_3_code 20 = .ok (.iconst 0, 1) := by decide +kernel
theorem ex_d21 : decode method_3_code 21 = .ok (.ireturn, 1) := by decide +kernel
def ex_f0 (i0 : Int32) : Int32 := (if i0 = (0 : Int32) then (1 : Int32) else (if i0 = (1 : Int32) then (1 : Int32) else (if i0 = (2 : Int32) then (1 : Int32) else (0 : Int32))))
theorem ex_b0 {p : Program} {l : Launch} {e : Env} {s : State} {m : MethodId} {args : Array Value} {below : List Frame} {meth : Method} {c : Code} {T : State} {Z : State} {a0 : Array Value} {h : Heap} {locs : List Loc} {cells slots : Nat} (X : Stand p l e (⟨0, 0, 0, 0⟩ : Room) s m args below meth c T locs cells slots) (hc : cells ≤ ((⟨0, 0, 0, 0⟩ : Room)).cells) (hs : slots ≤ ((⟨0, 0, 0, 0⟩ : Room)).slots) (B : Bdy p s m meth c Z a0 "com/example/proteus/proteus/value/AttributeTypeIsKeyTypePinLaw" "expected" method_3_code 1 (some .boolean) tables_1) (eT : T.heap = h) (i0 : Int32)  :
    Go p e below s cells slots (PQ (some (.int (ex_f0 i0))) h locs) (T.setTop (mkF m 0 #[.val (.int i0)] [])) := by
  refine g_iloadN X B ex_d0 (pc' := 1) rfl (v := i0) rfl ?_
  refine g_if_ne X B ex_d1 (pcT := 6) (pcF := 4) (by decide) rfl rfl (fun c1_0 => ?_) (fun c1_0 => ?_)
  · refine g_iconst X B ex_d4 (pc' := 5) rfl (v := (1 : Int32)) (by decide) ?_
    exact g_retN X B (t := .boolean) rfl (by simp) ex_d5 (Nat.le_refl _) (Nat.le_refl _) ⟨congrArg (fun z => some (Value.int z)) (Eq.symm (by rw [ex_f0, if_pos c1_0]; decide)), eT, rfl⟩
  · refine g_iloadN X B ex_d6 (pc' := 7) rfl (v := i0) rfl ?_
    refine g_iconst X B ex_d7 (pc' := 8) rfl (v := (1 : Int32)) (by decide) ?_
    refine g_icmp_ne X B ex_d8 (pcT := 13) (pcF := 11) (by decide) rfl rfl (fun c8_1 => ?_) (fun c8_1 => ?_)
    · refine g_iconst X B ex_d11 (pc' := 12) rfl (v := (1 : Int32)) (by decide) ?_
      exact g_retN X B (t := .boolean) rfl (by simp) ex_d12 (Nat.le_refl _) (Nat.le_refl _) ⟨congrArg (fun z => some (Value.int z)) (Eq.symm (by rw [ex_f0, if_neg c1_0, if_pos c8_1]; decide)), eT, rfl⟩
    · refine g_iloadN X B ex_d13 (pc' := 14) rfl (v := i0) rfl ?_
      refine g_iconst X B ex_d14 (pc' := 15) rfl (v := (2 : Int32)) (by decide) ?_
      refine g_icmp_ne X B ex_d15 (pcT := 20) (pcF := 18) (by decide) rfl rfl (fun c15_2 => ?_) (fun c15_2 => ?_)
      · refine g_iconst X B ex_d18 (pc' := 19) rfl (v := (1 : Int32)) (by decide) ?_
        exact g_retN X B (t := .boolean) rfl (by simp) ex_d19 (Nat.le_refl _) (Nat.le_refl _) ⟨congrArg (fun z => some (Value.int z)) (Eq.symm (by rw [ex_f0, if_neg c1_0, if_neg c8_1, if_pos c15_2]; decide)), eT, rfl⟩
      · refine g_iconst X B ex_d20 (pc' := 21) rfl (v := (0 : Int32)) (by decide) ?_
        exact g_retN X B (t := .boolean) rfl (by simp) ex_d21 (Nat.le_refl _) (Nat.le_refl _) ⟨congrArg (fun z => some (Value.int z)) (Eq.symm (by rw [ex_f0, if_neg c1_0, if_neg c8_1, if_neg c15_2]; decide)), eT, rfl⟩
theorem own_pn_ex : plainFor (⟨"com/example/proteus/proteus/value/AttributeTypeIsKeyTypePinLaw", "expected", "(I)Z"⟩ : MethodName) = true := plainFor_of_name (by first | (simp [plainName, overriddenIn]; done) | decide +kernel)
theorem own_ef_ex (m : MethodId) (i0 : Int32) : entryFrame m #[(.int i0)] 1 = (mkF m 0 #[.val (.int i0)] []) := by first | (simp [entryFrame, mkF, argsToLocals, Value.category]; done) | rfl
theorem ex_met (l : Launch) (Z : State) (a0 : Array Value) (hw : ∀ d ∈ tables_1, d.before a0 Z = true) (ws : List Jvm.Cond) (h : Heap) (i0 : Int32)  :
    Met l Z (⟨"com/example/proteus/proteus/value/AttributeTypeIsKeyTypePinLaw", "expected", "(I)Z"⟩ : MethodName) method_3_code 1 (some .boolean) ws (⟨0, 0, 0, 0⟩ : Room) #[(.int i0)] h (PQ (some (.int (ex_f0 i0))) h []) :=
  met_of own_pn_ex hw fun p e s m below meth c T X B eT => Go.top (own_ef_ex m i0) (ex_b0 X (Nat.zero_le _) (Nat.zero_le _) B eT i0)
theorem own_nine (i : Int32) (h0 : 0 ≤ i.toInt) (h9 : i.toInt ≤ 9) (c0 : ¬ i = (0 : Int32)) (c1 : ¬ i = (1 : Int32)) (c2 : ¬ i = (2 : Int32)) (c3 : ¬ i = (3 : Int32)) (c4 : ¬ i = (4 : Int32)) (c5 : ¬ i = (5 : Int32)) (c6 : ¬ i = (6 : Int32)) (c7 : ¬ i = (7 : Int32)) (c8 : ¬ i = (8 : Int32)) : i = (9 : Int32) := by
  obtain ⟨k0, k1, k2, k3, k4, k5, k6, k7, k8, k9⟩ : (0 : Int32).toInt = 0 ∧ (1 : Int32).toInt = 1 ∧ (2 : Int32).toInt = 2 ∧ (3 : Int32).toInt = 3 ∧ (4 : Int32).toInt = 4 ∧ (5 : Int32).toInt = 5 ∧ (6 : Int32).toInt = 6 ∧ (7 : Int32).toInt = 7 ∧ (8 : Int32).toInt = 8 ∧ (9 : Int32).toInt = 9 := by decide
  simp only [← Int32.toInt_inj, k0, k1, k2, k3, k4, k5, k6, k7, k8, k9] at *
  omega
theorem pk_d0 : decode method_2_code 0 = .ok (.iload_n 0, 1) := by decide +kernel
theorem pk_d1 : decode method_2_code 1 = .ok (.ifCond .ne 7, 3) := by decide +kernel
theorem pk_d4 : decode method_2_code 4 = .ok (.getstatic 7, 3) := by decide +kernel
theorem pk_d7 : decode method_2_code 7 = .ok (.areturn, 1) := by decide +kernel
theorem pk_d8 : decode method_2_code 8 = .ok (.iload_n 0, 1) := by decide +kernel
theorem pk_d9 : decode method_2_code 9 = .ok (.iconst 1, 1) := by decide +kernel
theorem pk_d10 : decode method_2_code 10 = .ok (.if_icmp .ne 7, 3) := by decide +kernel
theorem pk_d13 : decode method_2_code 13 = .ok (.getstatic 13, 3) := by decide +kernel
theorem pk_d16 : decode method_2_code 16 = .ok (.areturn, 1) := by decide +kernel
theorem pk_d17 : decode method_2_code 17 = .ok (.iload_n 0, 1) := by decide +kernel
theorem pk_d18 : decode method_2_code 18 = .ok (.iconst 2, 1) := by decide +kernel
theorem pk_d19 : decode method_2_code 19 = .ok (.if_icmp .ne 7, 3) := by decide +kernel
theorem pk_d22 : decode method_2_code 22 = .ok (.getstatic 16, 3) := by decide +kernel
theorem pk_d25 : decode method_2_code 25 = .ok (.areturn, 1) := by decide +kernel
theorem pk_d26 : decode method_2_code 26 = .ok (.iload_n 0, 1) := by decide +kernel
theorem pk_d27 : decode method_2_code 27 = .ok (.iconst 3, 1) := by decide +kernel
theorem pk_d28 : decode method_2_code 28 = .ok (.if_icmp .ne 7, 3) := by decide +kernel
theorem pk_d31 : decode method_2_code 31 = .ok (.getstatic 19, 3) := by decide +kernel
theorem pk_d34 : decode method_2_code 34 = .ok (.areturn, 1) := by decide +kernel
theorem pk_d35 : decode method_2_code 35 = .ok (.iload_n 0, 1) := by decide +kernel
theorem pk_d36 : decode method_2_code 36 = .ok (.iconst 4, 1) := by decide +kernel
theorem pk_d37 : decode method_2_code 37 = .ok (.if_icmp .ne 7, 3) := by decide +kernel
theorem pk_d40 : decode method_2_code 40 = .ok (.getstatic 22, 3) := by decide +kernel
theorem pk_d43 : decode method_2_code 43 = .ok (.areturn, 1) := by decide +kernel
theorem pk_d44 : decode method_2_code 44 = .ok (.iload_n 0, 1) := by decide +kernel
theorem pk_d45 : decode method_2_code 45 = .ok (.iconst 5, 1) := by decide +kernel
theorem pk_d46 : decode method_2_code 46 = .ok (.if_icmp .ne 7, 3) := by decide +kernel
theorem pk_d49 : decode method_2_code 49 = .ok (.getstatic 25, 3) := by decide +kernel
theorem pk_d52 : decode method_2_code 52 = .ok (.areturn, 1) := by decide +kernel
theorem pk_d53 : decode method_2_code 53 = .ok (.iload_n 0, 1) := by decide +kernel
theorem pk_d54 : decode method_2_code 54 = .ok (.bipush 6, 2) := by decide +kernel
theorem pk_d56 : decode method_2_code 56 = .ok (.if_icmp .ne 7, 3) := by decide +kernel
theorem pk_d59 : decode method_2_code 59 = .ok (.getstatic 28, 3) := by decide +kernel
theorem pk_d62 : decode method_2_code 62 = .ok (.areturn, 1) := by decide +kernel
theorem pk_d63 : decode method_2_code 63 = .ok (.iload_n 0, 1) := by decide +kernel
theorem pk_d64 : decode method_2_code 64 = .ok (.bipush 7, 2) := by decide +kernel
theorem pk_d66 : decode method_2_code 66 = .ok (.if_icmp .ne 7, 3) := by decide +kernel
theorem pk_d69 : decode method_2_code 69 = .ok (.getstatic 31, 3) := by decide +kernel
theorem pk_d72 : decode method_2_code 72 = .ok (.areturn, 1) := by decide +kernel
theorem pk_d73 : decode method_2_code 73 = .ok (.iload_n 0, 1) := by decide +kernel
theorem pk_d74 : decode method_2_code 74 = .ok (.bipush 8, 2) := by decide +kernel
theorem pk_d76 : decode method_2_code 76 = .ok (.if_icmp .ne 7, 3) := by decide +kernel
theorem pk_d79 : decode method_2_code 79 = .ok (.getstatic 34, 3) := by decide +kernel
theorem pk_d82 : decode method_2_code 82 = .ok (.areturn, 1) := by decide +kernel
theorem pk_d83 : decode method_2_code 83 = .ok (.getstatic 37, 3) := by decide +kernel
theorem pk_d86 : decode method_2_code 86 = .ok (.areturn, 1) := by decide +kernel
theorem own_pn_pk : plainFor (⟨"com/example/proteus/proteus/value/AttributeTypeIsKeyTypePinLaw", "pick", "(I)Lcom/example/proteus/proteus/value/AttributeType;"⟩ : MethodName) = true := plainFor_of_name (by first | (simp [plainName, overriddenIn]; done) | decide +kernel)
theorem own_ef_pk (m : MethodId) (i0 : Int32) : entryFrame m #[(.int i0)] 1 = (mkF m 0 #[.val (.int i0)] []) := by first | (simp [entryFrame, mkF, argsToLocals, Value.category]; done) | rfl
set_option maxRecDepth 65536 in
set_option maxHeartbeats 40000000 in
theorem pk_go {p : Program} {l : Launch} {e : Env} {s : State} {m : MethodId} {args : Array Value} {below : List Frame} {meth : Method} {c : Code} {T : State} {Z : State} {a0 : Array Value} {h : Heap} (X : Stand p l e (⟨0, 0, 0, 0⟩ : Room) s m args below meth c T [] 0 0) (B : Bdy p s m meth c Z a0 "com/example/proteus/proteus/value/AttributeTypeIsKeyTypePinLaw" "pick" method_2_code 1 (some (.object "com/example/proteus/proteus/value/AttributeType")) tables_1) (eT : T.heap = h) (i0 : Int32) (a_S : Addr) (a_N : Addr) (a_B : Addr) (a_BOOL : Addr) (a_NULL : Addr) (a_M : Addr) (a_L : Addr) (a_SS : Addr) (a_NS : Addr) (a_BS : Addr) (hi0 : 0 ≤ i0.toInt) (hi9 : i0.toInt ≤ 9) (S_S : Sta Z h "com/example/proteus/proteus/value/AttributeType" "S" "Lcom/example/proteus/proteus/value/AttributeType;" (.ref a_S)) (S_N : Sta Z h "com/example/proteus/proteus/value/AttributeType" "N" "Lcom/example/proteus/proteus/value/AttributeType;" (.ref a_N)) (S_B : Sta Z h "com/example/proteus/proteus/value/AttributeType" "B" "Lcom/example/proteus/proteus/value/AttributeType;" (.ref a_B)) (S_BOOL : Sta Z h "com/example/proteus/proteus/value/AttributeType" "BOOL" "Lcom/example/proteus/proteus/value/AttributeType;" (.ref a_BOOL)) (S_NULL : Sta Z h "com/example/proteus/proteus/value/AttributeType" "NULL" "Lcom/example/proteus/proteus/value/AttributeType;" (.ref a_NULL)) (S_M : Sta Z h "com/example/proteus/proteus/value/AttributeType" "M" "Lcom/example/proteus/proteus/value/AttributeType;" (.ref a_M)) (S_L : Sta Z h "com/example/proteus/proteus/value/AttributeType" "L" "Lcom/example/proteus/proteus/value/AttributeType;" (.ref a_L)) (S_SS : Sta Z h "com/example/proteus/proteus/value/AttributeType" "SS" "Lcom/example/proteus/proteus/value/AttributeType;" (.ref a_SS)) (S_NS : Sta Z h "com/example/proteus/proteus/value/AttributeType" "NS" "Lcom/example/proteus/proteus/value/AttributeType;" (.ref a_NS)) (S_BS : Sta Z h "com/example/proteus/proteus/value/AttributeType" "BS" "Lcom/example/proteus/proteus/value/AttributeType;" (.ref a_BS)) (E_S : Exa Z h a_S "com/example/proteus/proteus/value/AttributeType") (E_N : Exa Z h a_N "com/example/proteus/proteus/value/AttributeType") (E_B : Exa Z h a_B "com/example/proteus/proteus/value/AttributeType") (E_BOOL : Exa Z h a_BOOL "com/example/proteus/proteus/value/AttributeType") (E_NULL : Exa Z h a_NULL "com/example/proteus/proteus/value/AttributeType") (E_M : Exa Z h a_M "com/example/proteus/proteus/value/AttributeType") (E_L : Exa Z h a_L "com/example/proteus/proteus/value/AttributeType") (E_SS : Exa Z h a_SS "com/example/proteus/proteus/value/AttributeType") (E_NS : Exa Z h a_NS "com/example/proteus/proteus/value/AttributeType") (E_BS : Exa Z h a_BS "com/example/proteus/proteus/value/AttributeType") (F_S_ordinal : Fld Z h a_S "java/lang/Enum" "ordinal" "I" (.int (0 : Int32))) (F_N_ordinal : Fld Z h a_N "java/lang/Enum" "ordinal" "I" (.int (1 : Int32))) (F_B_ordinal : Fld Z h a_B "java/lang/Enum" "ordinal" "I" (.int (2 : Int32))) (F_BOOL_ordinal : Fld Z h a_BOOL "java/lang/Enum" "ordinal" "I" (.int (3 : Int32))) (F_NULL_ordinal : Fld Z h a_NULL "java/lang/Enum" "ordinal" "I" (.int (4 : Int32))) (F_M_ordinal : Fld Z h a_M "java/lang/Enum" "ordinal" "I" (.int (5 : Int32))) (F_L_ordinal : Fld Z h a_L "java/lang/Enum" "ordinal" "I" (.int (6 : Int32))) (F_SS_ordinal : Fld Z h a_SS "java/lang/Enum" "ordinal" "I" (.int (7 : Int32))) (F_NS_ordinal : Fld Z h a_NS "java/lang/Enum" "ordinal" "I" (.int (8 : Int32))) (F_BS_ordinal : Fld Z h a_BS "java/lang/Enum" "ordinal" "I" (.int (9 : Int32))) :
    Go p e below s 0 0 (fun v h2 L => ∃ a, v = some (.ref a) ∧ h2 = h ∧ L = [] ∧ Exa Z h a "com/example/proteus/proteus/value/AttributeType" ∧ Fld Z h a "java/lang/Enum" "ordinal" "I" (.int i0) ∧ (i0 = 0 → a = a_S) ∧ (i0 = 1 → a = a_N) ∧ (i0 = 2 → a = a_B)) (T.setTop (mkF m 0 #[.val (.int i0)] [])) := by
  refine g_iloadN X B pk_d0 (pc' := 1) rfl (v := i0) rfl ?_
  refine g_if_ne X B pk_d1 (pcT := 8) (pcF := 4) (by decide) rfl rfl (fun c1_0 => ?_) (fun c1_0 => ?_)
  · refine g_getS X B (B.w 5 rfl) Via.refl eT S_S pk_d4 (pc' := 7) rfl (fun T1 X1 e1 => ?_)
    exact g_retA X1 B rfl rfl rfl rfl pk_d7 (by decide) (by decide) ⟨_, rfl, e1, rfl, E_S, (by rw [c1_0]; exact F_S_ordinal), (fun q => rfl), (fun q => absurd (c1_0.symm.trans q) (by decide)), (fun q => absurd (c1_0.symm.trans q) (by decide))⟩
  · refine g_iloadN X B pk_d8 (pc' := 9) rfl (v := i0) rfl ?_
    refine g_iconst X B pk_d9 (pc' := 10) rfl (v := (1 : Int32)) (by decide) ?_
    refine g_icmp_ne X B pk_d10 (pcT := 17) (pcF := 13) (by decide) rfl rfl (fun c10_1 => ?_) (fun c10_1 => ?_)
    · refine g_getS X B (B.w 23 rfl) Via.refl eT S_N pk_d13 (pc' := 16) rfl (fun T2 X2 e2 => ?_)
      exact g_retA X2 B rfl rfl rfl rfl pk_d16 (by decide) (by decide) ⟨_, rfl, e2, rfl, E_N, (by rw [c10_1]; exact F_N_ordinal), (fun q => absurd (c10_1.symm.trans q) (by decide)), (fun q => rfl), (fun q => absurd (c10_1.symm.trans q) (by decide))⟩
    · refine g_iloadN X B pk_d17 (pc' := 18) rfl (v := i0) rfl ?_
      refine g_iconst X B pk_d18 (pc' := 19) rfl (v := (2 : Int32)) (by decide) ?_
      refine g_icmp_ne X B pk_d19 (pcT := 26) (pcF := 22) (by decide) rfl rfl (fun c19_2 => ?_) (fun c19_2 => ?_)
      · refine g_getS X B (B.w 28 rfl) Via.refl eT S_B pk_d22 (pc' := 25) rfl (fun T3 X3 e3 => ?_)
        exact g_retA X3 B rfl rfl rfl rfl pk_d25 (by decide) (by decide) ⟨_, rfl, e3, rfl, E_B, (by rw [c19_2]; exact F_B_ordinal), (fun q => absurd (c19_2.symm.trans q) (by decide)), (fun q => absurd (c19_2.symm.trans q) (by decide)), (fun q => rfl)⟩
      · refine g_iloadN X B pk_d26 (pc' := 27) rfl (v := i0) rfl ?_
        refine g_iconst X B pk_d27 (pc' := 28) rfl (v := (3 : Int32)) (by decide) ?_
        refine g_icmp_ne X B pk_d28 (pcT := 35) (pcF := 31) (by decide) rfl rfl (fun c28_3 => ?_) (fun c28_3 => ?_)
        · refine g_getS X B (B.w 17 rfl) Via.refl eT S_BOOL pk_d31 (pc' := 34) rfl (fun T4 X4 e4 => ?_)
          exact g_retA X4 B rfl rfl rfl rfl pk_d34 (by decide) (by decide) ⟨_, rfl, e4, rfl, E_BOOL, (by rw [c28_3]; exact F_BOOL_ordinal), (fun q => absurd (c28_3.symm.trans q) (by decide)), (fun q => absurd (c28_3.symm.trans q) (by decide)), (fun q => absurd (c28_3.symm.trans q) (by decide))⟩
        · refine g_iloadN X B pk_d35 (pc' := 36) rfl (v := i0) rfl ?_
          refine g_iconst X B pk_d36 (pc' := 37) rfl (v := (4 : Int32)) (by decide) ?_
          refine g_icmp_ne X B pk_d37 (pcT := 44) (pcF := 40) (by decide) rfl rfl (fun c37_4 => ?_) (fun c37_4 => ?_)
          · refine g_getS X B (B.w 24 rfl) Via.refl eT S_NULL pk_d40 (pc' := 43) rfl (fun T5 X5 e5 => ?_)
            exact g_retA X5 B rfl rfl rfl rfl pk_d43 (by decide) (by decide) ⟨_, rfl, e5, rfl, E_NULL, (by rw [c37_4]; exact F_NULL_ordinal), (fun q => absurd (c37_4.symm.trans q) (by decide)), (fun q => absurd (c37_4.symm.trans q) (by decide)), (fun q => absurd (c37_4.symm.trans q) (by decide))⟩
          · refine g_iloadN X B pk_d44 (pc' := 45) rfl (v := i0) rfl ?_
            refine g_iconst X B pk_d45 (pc' := 46) rfl (v := (5 : Int32)) (by decide) ?_
            refine g_icmp_ne X B pk_d46 (pcT := 53) (pcF := 49) (by decide) rfl rfl (fun c46_5 => ?_) (fun c46_5 => ?_)
            · refine g_getS X B (B.w 33 rfl) Via.refl eT S_M pk_d49 (pc' := 52) rfl (fun T6 X6 e6 => ?_)
              exact g_retA X6 B rfl rfl rfl rfl pk_d52 (by decide) (by decide) ⟨_, rfl, e6, rfl, E_M, (by rw [c46_5]; exact F_M_ordinal), (fun q => absurd (c46_5.symm.trans q) (by decide)), (fun q => absurd (c46_5.symm.trans q) (by decide)), (fun q => absurd (c46_5.symm.trans q) (by decide))⟩
            · refine g_iloadN X B pk_d53 (pc' := 54) rfl (v := i0) rfl ?_
              refine g_bipush X B pk_d54 (pc' := 56) rfl (v := (6 : Int32)) (by decide) ?_
              refine g_icmp_ne X B pk_d56 (pcT := 63) (pcF := 59) (by decide) rfl rfl (fun c56_6 => ?_) (fun c56_6 => ?_)
              · refine g_getS X B (B.w 35 rfl) Via.refl eT S_L pk_d59 (pc' := 62) rfl (fun T7 X7 e7 => ?_)
                exact g_retA X7 B rfl rfl rfl rfl pk_d62 (by decide) (by decide) ⟨_, rfl, e7, rfl, E_L, (by rw [c56_6]; exact F_L_ordinal), (fun q => absurd (c56_6.symm.trans q) (by decide)), (fun q => absurd (c56_6.symm.trans q) (by decide)), (fun q => absurd (c56_6.symm.trans q) (by decide))⟩
              · refine g_iloadN X B pk_d63 (pc' := 64) rfl (v := i0) rfl ?_
                refine g_bipush X B pk_d64 (pc' := 66) rfl (v := (7 : Int32)) (by decide) ?_
                refine g_icmp_ne X B pk_d66 (pcT := 73) (pcF := 69) (by decide) rfl rfl (fun c66_7 => ?_) (fun c66_7 => ?_)
                · refine g_getS X B (B.w 26 rfl) Via.refl eT S_SS pk_d69 (pc' := 72) rfl (fun T8 X8 e8 => ?_)
                  exact g_retA X8 B rfl rfl rfl rfl pk_d72 (by decide) (by decide) ⟨_, rfl, e8, rfl, E_SS, (by rw [c66_7]; exact F_SS_ordinal), (fun q => absurd (c66_7.symm.trans q) (by decide)), (fun q => absurd (c66_7.symm.trans q) (by decide)), (fun q => absurd (c66_7.symm.trans q) (by decide))⟩
                · refine g_iloadN X B pk_d73 (pc' := 74) rfl (v := i0) rfl ?_
                  refine g_bipush X B pk_d74 (pc' := 76) rfl (v := (8 : Int32)) (by decide) ?_
                  refine g_icmp_ne X B pk_d76 (pcT := 83) (pcF := 79) (by decide) rfl rfl (fun c76_8 => ?_) (fun c76_8 => ?_)
                  · refine g_getS X B (B.w 29 rfl) Via.refl eT S_NS pk_d79 (pc' := 82) rfl (fun T9 X9 e9 => ?_)
                    exact g_retA X9 B rfl rfl rfl rfl pk_d82 (by decide) (by decide) ⟨_, rfl, e9, rfl, E_NS, (by rw [c76_8]; exact F_NS_ordinal), (fun q => absurd (c76_8.symm.trans q) (by decide)), (fun q => absurd (c76_8.symm.trans q) (by decide)), (fun q => absurd (c76_8.symm.trans q) (by decide))⟩
                  · refine g_getS X B (B.w 31 rfl) Via.refl eT S_BS pk_d83 (pc' := 86) rfl (fun T10 X10 e10 => ?_)
                    exact g_retA X10 B rfl rfl rfl rfl pk_d86 (by decide) (by decide) ⟨_, rfl, e10, rfl, E_BS, (by rw [own_nine i0 hi0 hi9 c1_0 c10_1 c19_2 c28_3 c37_4 c46_5 c56_6 c66_7 c76_8]; exact F_BS_ordinal), (fun q => absurd q c1_0), (fun q => absurd q c10_1), (fun q => absurd q c19_2)⟩
theorem pk_met (l : Launch) (Z : State) (a0 : Array Value) (hw : ∀ d ∈ tables_1, d.before a0 Z = true) (ws : List Jvm.Cond) (h : Heap) (i0 : Int32) (a_S : Addr) (a_N : Addr) (a_B : Addr) (a_BOOL : Addr) (a_NULL : Addr) (a_M : Addr) (a_L : Addr) (a_SS : Addr) (a_NS : Addr) (a_BS : Addr) (hi0 : 0 ≤ i0.toInt) (hi9 : i0.toInt ≤ 9) (S_S : Sta Z h "com/example/proteus/proteus/value/AttributeType" "S" "Lcom/example/proteus/proteus/value/AttributeType;" (.ref a_S)) (S_N : Sta Z h "com/example/proteus/proteus/value/AttributeType" "N" "Lcom/example/proteus/proteus/value/AttributeType;" (.ref a_N)) (S_B : Sta Z h "com/example/proteus/proteus/value/AttributeType" "B" "Lcom/example/proteus/proteus/value/AttributeType;" (.ref a_B)) (S_BOOL : Sta Z h "com/example/proteus/proteus/value/AttributeType" "BOOL" "Lcom/example/proteus/proteus/value/AttributeType;" (.ref a_BOOL)) (S_NULL : Sta Z h "com/example/proteus/proteus/value/AttributeType" "NULL" "Lcom/example/proteus/proteus/value/AttributeType;" (.ref a_NULL)) (S_M : Sta Z h "com/example/proteus/proteus/value/AttributeType" "M" "Lcom/example/proteus/proteus/value/AttributeType;" (.ref a_M)) (S_L : Sta Z h "com/example/proteus/proteus/value/AttributeType" "L" "Lcom/example/proteus/proteus/value/AttributeType;" (.ref a_L)) (S_SS : Sta Z h "com/example/proteus/proteus/value/AttributeType" "SS" "Lcom/example/proteus/proteus/value/AttributeType;" (.ref a_SS)) (S_NS : Sta Z h "com/example/proteus/proteus/value/AttributeType" "NS" "Lcom/example/proteus/proteus/value/AttributeType;" (.ref a_NS)) (S_BS : Sta Z h "com/example/proteus/proteus/value/AttributeType" "BS" "Lcom/example/proteus/proteus/value/AttributeType;" (.ref a_BS)) (E_S : Exa Z h a_S "com/example/proteus/proteus/value/AttributeType") (E_N : Exa Z h a_N "com/example/proteus/proteus/value/AttributeType") (E_B : Exa Z h a_B "com/example/proteus/proteus/value/AttributeType") (E_BOOL : Exa Z h a_BOOL "com/example/proteus/proteus/value/AttributeType") (E_NULL : Exa Z h a_NULL "com/example/proteus/proteus/value/AttributeType") (E_M : Exa Z h a_M "com/example/proteus/proteus/value/AttributeType") (E_L : Exa Z h a_L "com/example/proteus/proteus/value/AttributeType") (E_SS : Exa Z h a_SS "com/example/proteus/proteus/value/AttributeType") (E_NS : Exa Z h a_NS "com/example/proteus/proteus/value/AttributeType") (E_BS : Exa Z h a_BS "com/example/proteus/proteus/value/AttributeType") (F_S_ordinal : Fld Z h a_S "java/lang/Enum" "ordinal" "I" (.int (0 : Int32))) (F_N_ordinal : Fld Z h a_N "java/lang/Enum" "ordinal" "I" (.int (1 : Int32))) (F_B_ordinal : Fld Z h a_B "java/lang/Enum" "ordinal" "I" (.int (2 : Int32))) (F_BOOL_ordinal : Fld Z h a_BOOL "java/lang/Enum" "ordinal" "I" (.int (3 : Int32))) (F_NULL_ordinal : Fld Z h a_NULL "java/lang/Enum" "ordinal" "I" (.int (4 : Int32))) (F_M_ordinal : Fld Z h a_M "java/lang/Enum" "ordinal" "I" (.int (5 : Int32))) (F_L_ordinal : Fld Z h a_L "java/lang/Enum" "ordinal" "I" (.int (6 : Int32))) (F_SS_ordinal : Fld Z h a_SS "java/lang/Enum" "ordinal" "I" (.int (7 : Int32))) (F_NS_ordinal : Fld Z h a_NS "java/lang/Enum" "ordinal" "I" (.int (8 : Int32))) (F_BS_ordinal : Fld Z h a_BS "java/lang/Enum" "ordinal" "I" (.int (9 : Int32))) :
    Met l Z (⟨"com/example/proteus/proteus/value/AttributeTypeIsKeyTypePinLaw", "pick", "(I)Lcom/example/proteus/proteus/value/AttributeType;"⟩ : MethodName) method_2_code 1 (some (.object "com/example/proteus/proteus/value/AttributeType")) ws (⟨0, 0, 0, 0⟩ : Room) #[(.int i0)] h (fun v h2 L => ∃ a, v = some (.ref a) ∧ h2 = h ∧ L = [] ∧ Exa Z h a "com/example/proteus/proteus/value/AttributeType" ∧ Fld Z h a "java/lang/Enum" "ordinal" "I" (.int i0) ∧ (i0 = 0 → a = a_S) ∧ (i0 = 1 → a = a_N) ∧ (i0 = 2 → a = a_B)) :=
  met_of own_pn_pk hw fun p e s m below meth c T X B eT => Go.top (own_ef_pk m i0) (pk_go X B eT i0 a_S a_N a_B a_BOOL a_NULL a_M a_L a_SS a_NS a_BS hi0 hi9 S_S S_N S_B S_BOOL S_NULL S_M S_L S_SS S_NS S_BS E_S E_N E_B E_BOOL E_NULL E_M E_L E_SS E_NS E_BS F_S_ordinal F_N_ordinal F_B_ordinal F_BOOL_ordinal F_NULL_ordinal F_M_ordinal F_L_ordinal F_SS_ordinal F_NS_ordinal F_BS_ordinal)
def own_key (r : Int32) : Int32 := if r = (0 : Int32) then 1 else if r = (1 : Int32) then 1 else if r = (2 : Int32) then 1 else 0
theorem ik_d0 : decode prog_21_method_4_code 0 = .ok (.aload_n 0, 1) := by decide +kernel
theorem ik_d1 : decode prog_21_method_4_code 1 = .ok (.getstatic 3, 3) := by decide +kernel
theorem ik_d4 : decode prog_21_method_4_code 4 = .ok (.if_acmp .eq 17, 3) := by decide +kernel
theorem ik_d7 : decode prog_21_method_4_code 7 = .ok (.aload_n 0, 1) := by decide +kernel
theorem ik_d8 : decode prog_21_method_4_code 8 = .ok (.getstatic 7, 3) := by decide +kernel
theorem ik_d11 : decode prog_21_method_4_code 11 = .ok (.if_acmp .eq 10, 3) := by decide +kernel
theorem ik_d14 : decode prog_21_method_4_code 14 = .ok (.aload_n 0, 1) := by decide +kernel
theorem ik_d15 : decode prog_21_method_4_code 15 = .ok (.getstatic 10, 3) := by decide +kernel
theorem ik_d18 : decode prog_21_method_4_code 18 = .ok (.if_acmp .ne 7, 3) := by decide +kernel
theorem ik_d21 : decode prog_21_method_4_code 21 = .ok (.iconst 1, 1) := by decide +kernel
theorem ik_d22 : decode prog_21_method_4_code 22 = .ok (.goto 4, 3) := by decide +kernel
theorem ik_d25 : decode prog_21_method_4_code 25 = .ok (.iconst 0, 1) := by decide +kernel
theorem ik_d26 : decode prog_21_method_4_code 26 = .ok (.ireturn, 1) := by decide +kernel
theorem own_pn_ik : plainFor (⟨"com/example/proteus/proteus/value/AttributeType", "isKeyType", "()Z"⟩ : MethodName) = true := plainFor_of_name (by first | (simp [plainName, overriddenIn]; done) | decide +kernel)
theorem own_ef_ik (m : MethodId) (o0 : Addr) : entryFrame m #[(.ref o0)] 1 = (mkF m 0 #[.val (.ref o0)] []) := by first | (simp [entryFrame, mkF, argsToLocals, Value.category]; done) | rfl
set_option maxRecDepth 65536 in
set_option maxHeartbeats 40000000 in
theorem ik_go {p : Program} {l : Launch} {e : Env} {s : State} {m : MethodId} {args : Array Value} {below : List Frame} {meth : Method} {c : Code} {T : State} {Z : State} {a0 : Array Value} {h : Heap} (X : Stand p l e (⟨0, 0, 0, 0⟩ : Room) s m args below meth c T [] 0 0) (B : Bdy p s m meth c Z a0 "com/example/proteus/proteus/value/AttributeType" "isKeyType" prog_21_method_4_code 1 (some .boolean) tables_1) (eT : T.heap = h) (o0 : Addr) (r : Int32) (a_S : Addr) (a_N : Addr) (a_B : Addr) (S_S : Sta Z h "com/example/proteus/proteus/value/AttributeType" "S" "Lcom/example/proteus/proteus/value/AttributeType;" (.ref a_S)) (S_N : Sta Z h "com/example/proteus/proteus/value/AttributeType" "N" "Lcom/example/proteus/proteus/value/AttributeType;" (.ref a_N)) (S_B : Sta Z h "com/example/proteus/proteus/value/AttributeType" "B" "Lcom/example/proteus/proteus/value/AttributeType;" (.ref a_B)) (h0 : o0 = a_S ↔ r = 0) (h1 : o0 = a_N ↔ r = 1) (h2 : o0 = a_B ↔ r = 2) :
    Go p e below s 0 0 (PQ (some (.int (own_key r))) h []) (T.setTop (mkF m 0 #[.val (.ref o0)] [])) := by
  refine g_aloadN X B ik_d0 (pc' := 1) rfl (v := (.ref o0)) rfl rfl ?_
  refine g_getS X B (B.w 13 rfl) Via.refl eT S_S ik_d1 (pc' := 4) rfl (fun T1 X1 e1 => ?_)
  refine g_acmp_eq X1 B ik_d4 (pcT := 21) (pcF := 7) (by decide) rfl rfl (fun c4_0 => ?_) (fun c4_0 => ?_)
  · refine g_iconst X1 B ik_d21 (pc' := 22) rfl (v := (1 : Int32)) (by decide) ?_
    refine g_goto X1 B ik_d22 (pc' := 26) (by decide) rfl ?_
    exact g_retN X1 B (t := .boolean) rfl (by simp) ik_d26 (by decide) (by decide) ⟨congrArg (fun z => some (Value.int z)) (show nar .boolean (1 : Int32) = own_key r by rw [own_key, if_pos (h0.mp c4_0)]; decide), e1, rfl⟩
  · refine g_aloadN X1 B ik_d7 (pc' := 8) rfl (v := (.ref o0)) rfl rfl ?_
    refine g_getS X1 B (B.w 19 rfl) Via.refl e1 S_N ik_d8 (pc' := 11) rfl (fun T2 X2 e2 => ?_)
    refine g_acmp_eq X2 B ik_d11 (pcT := 21) (pcF := 14) (by decide) rfl rfl (fun c11_1 => ?_) (fun c11_1 => ?_)
    · refine g_iconst X2 B ik_d21 (pc' := 22) rfl (v := (1 : Int32)) (by decide) ?_
      refine g_goto X2 B ik_d22 (pc' := 26) (by decide) rfl ?_
      exact g_retN X2 B (t := .boolean) rfl (by simp) ik_d26 (by decide) (by decide) ⟨congrArg (fun z => some (Value.int z)) (show nar .boolean (1 : Int32) = own_key r by rw [own_key, if_neg (fun q => c4_0 (h0.mpr q)), if_pos (h1.mp c11_1)]; decide), e2, rfl⟩
    · refine g_aloadN X2 B ik_d14 (pc' := 15) rfl (v := (.ref o0)) rfl rfl ?_
      refine g_getS X2 B (B.w 21 rfl) Via.refl e2 S_B ik_d15 (pc' := 18) rfl (fun T3 X3 e3 => ?_)
      refine g_acmp_ne X3 B ik_d18 (pcT := 25) (pcF := 21) (by decide) rfl rfl (fun c18_2 => ?_) (fun c18_2 => ?_)
      · refine g_iconst X3 B ik_d21 (pc' := 22) rfl (v := (1 : Int32)) (by decide) ?_
        refine g_goto X3 B ik_d22 (pc' := 26) (by decide) rfl ?_
        exact g_retN X3 B (t := .boolean) rfl (by simp) ik_d26 (by decide) (by decide) ⟨congrArg (fun z => some (Value.int z)) (show nar .boolean (1 : Int32) = own_key r by rw [own_key, if_neg (fun q => c4_0 (h0.mpr q)), if_neg (fun q => c11_1 (h1.mpr q)), if_pos (h2.mp c18_2)]; decide), e3, rfl⟩
      · refine g_iconst X3 B ik_d25 (pc' := 26) rfl (v := (0 : Int32)) (by decide) ?_
        exact g_retN X3 B (t := .boolean) rfl (by simp) ik_d26 (by decide) (by decide) ⟨congrArg (fun z => some (Value.int z)) (show nar .boolean (0 : Int32) = own_key r by rw [own_key, if_neg (fun q => c4_0 (h0.mpr q)), if_neg (fun q => c11_1 (h1.mpr q)), if_neg (fun q => c18_2 (h2.mpr q))]; decide), e3, rfl⟩
theorem ik_met (l : Launch) (Z : State) (a0 : Array Value) (hw : ∀ d ∈ tables_1, d.before a0 Z = true) (ws : List Jvm.Cond) (h : Heap) (o0 : Addr) (r : Int32) (a_S : Addr) (a_N : Addr) (a_B : Addr) (S_S : Sta Z h "com/example/proteus/proteus/value/AttributeType" "S" "Lcom/example/proteus/proteus/value/AttributeType;" (.ref a_S)) (S_N : Sta Z h "com/example/proteus/proteus/value/AttributeType" "N" "Lcom/example/proteus/proteus/value/AttributeType;" (.ref a_N)) (S_B : Sta Z h "com/example/proteus/proteus/value/AttributeType" "B" "Lcom/example/proteus/proteus/value/AttributeType;" (.ref a_B)) (h0 : o0 = a_S ↔ r = 0) (h1 : o0 = a_N ↔ r = 1) (h2 : o0 = a_B ↔ r = 2) :
    Met l Z (⟨"com/example/proteus/proteus/value/AttributeType", "isKeyType", "()Z"⟩ : MethodName) prog_21_method_4_code 1 (some .boolean) ws (⟨0, 0, 0, 0⟩ : Room) #[(.ref o0)] h (PQ (some (.int (own_key r))) h []) :=
  met_of own_pn_ik hw fun p e s m below meth c T X B eT => Go.top (own_ef_ik m o0) (ik_go X B eT o0 r a_S a_N a_B S_S S_N S_B h0 h1 h2)
theorem own_ex (i : Int32) : own_key i = ex_f0 i := by
  have n1 : nar .boolean (1 : Int32) = 1 := by decide
  have n0 : nar .boolean (0 : Int32) = 0 := by decide
  rfl
theorem own_k10 (x : Int32) : 0 ≤ ((x &&& (2147483647 : Int32)) % (10 : Int32)).toInt ∧ ((x &&& (2147483647 : Int32)) % (10 : Int32)).toInt ≤ 9 := by
  have e1 := c_mask x 2147483647 31 (by decide) (by decide)
  have e2 := (c_irem (x &&& 2147483647) 10 10 (by decide)).1 (by omega)
  omega
set_option maxRecDepth 65536 in
set_option maxHeartbeats 40000000 in
theorem law_go {p : Program} {l : Launch} {e : Env} {s : State} {m : MethodId} {args : Array Value} {below : List Frame} {meth : Method} {c : Code} {T : State} {Z : State} {a0 : Array Value} {h : Heap} (X : Stand p l e room_1 s m args below meth c T [] 0 0) (B : Bdy p s m meth c Z a0 "com/example/proteus/proteus/value/AttributeTypeIsKeyTypePinLaw" "law" code 3 (some .boolean) tables_1) (eT : T.heap = h) (n0 : Nat) (Zs : n0 ≤ h.size) (i0 : Int32) (a_S : Addr) (a_N : Addr) (a_B : Addr) (a_BOOL : Addr) (a_NULL : Addr) (a_M : Addr) (a_L : Addr) (a_SS : Addr) (a_NS : Addr) (a_BS : Addr) (S_S : Sta Z h "com/example/proteus/proteus/value/AttributeType" "S" "Lcom/example/proteus/proteus/value/AttributeType;" (.ref a_S)) (S_N : Sta Z h "com/example/proteus/proteus/value/AttributeType" "N" "Lcom/example/proteus/proteus/value/AttributeType;" (.ref a_N)) (S_B : Sta Z h "com/example/proteus/proteus/value/AttributeType" "B" "Lcom/example/proteus/proteus/value/AttributeType;" (.ref a_B)) (S_BOOL : Sta Z h "com/example/proteus/proteus/value/AttributeType" "BOOL" "Lcom/example/proteus/proteus/value/AttributeType;" (.ref a_BOOL)) (S_NULL : Sta Z h "com/example/proteus/proteus/value/AttributeType" "NULL" "Lcom/example/proteus/proteus/value/AttributeType;" (.ref a_NULL)) (S_M : Sta Z h "com/example/proteus/proteus/value/AttributeType" "M" "Lcom/example/proteus/proteus/value/AttributeType;" (.ref a_M)) (S_L : Sta Z h "com/example/proteus/proteus/value/AttributeType" "L" "Lcom/example/proteus/proteus/value/AttributeType;" (.ref a_L)) (S_SS : Sta Z h "com/example/proteus/proteus/value/AttributeType" "SS" "Lcom/example/proteus/proteus/value/AttributeType;" (.ref a_SS)) (S_NS : Sta Z h "com/example/proteus/proteus/value/AttributeType" "NS" "Lcom/example/proteus/proteus/value/AttributeType;" (.ref a_NS)) (S_BS : Sta Z h "com/example/proteus/proteus/value/AttributeType" "BS" "Lcom/example/proteus/proteus/value/AttributeType;" (.ref a_BS)) (E_S : Exa Z h a_S "com/example/proteus/proteus/value/AttributeType") (E_N : Exa Z h a_N "com/example/proteus/proteus/value/AttributeType") (E_B : Exa Z h a_B "com/example/proteus/proteus/value/AttributeType") (E_BOOL : Exa Z h a_BOOL "com/example/proteus/proteus/value/AttributeType") (E_NULL : Exa Z h a_NULL "com/example/proteus/proteus/value/AttributeType") (E_M : Exa Z h a_M "com/example/proteus/proteus/value/AttributeType") (E_L : Exa Z h a_L "com/example/proteus/proteus/value/AttributeType") (E_SS : Exa Z h a_SS "com/example/proteus/proteus/value/AttributeType") (E_NS : Exa Z h a_NS "com/example/proteus/proteus/value/AttributeType") (E_BS : Exa Z h a_BS "com/example/proteus/proteus/value/AttributeType") (F_S_ordinal : Fld Z h a_S "java/lang/Enum" "ordinal" "I" (.int (0 : Int32))) (F_N_ordinal : Fld Z h a_N "java/lang/Enum" "ordinal" "I" (.int (1 : Int32))) (F_B_ordinal : Fld Z h a_B "java/lang/Enum" "ordinal" "I" (.int (2 : Int32))) (F_BOOL_ordinal : Fld Z h a_BOOL "java/lang/Enum" "ordinal" "I" (.int (3 : Int32))) (F_NULL_ordinal : Fld Z h a_NULL "java/lang/Enum" "ordinal" "I" (.int (4 : Int32))) (F_M_ordinal : Fld Z h a_M "java/lang/Enum" "ordinal" "I" (.int (5 : Int32))) (F_L_ordinal : Fld Z h a_L "java/lang/Enum" "ordinal" "I" (.int (6 : Int32))) (F_SS_ordinal : Fld Z h a_SS "java/lang/Enum" "ordinal" "I" (.int (7 : Int32))) (F_NS_ordinal : Fld Z h a_NS "java/lang/Enum" "ordinal" "I" (.int (8 : Int32))) (F_BS_ordinal : Fld Z h a_BS "java/lang/Enum" "ordinal" "I" (.int (9 : Int32))) :
    Go p e below s room_1.cells room_1.slots (fun v _ L => v = some (.int 1) ∧ Fr n0 L) (T.setTop (mkF m 0 #[.val (.int i0), .unset, .unset] [])) := by
  have N := Fr.nil n0
  refine g_iloadN X B at_0 (pc' := 1) rfl (v := i0) rfl ?_
  refine g_ldc X B (B.w 0 rfl) at_1 (pc' := 3) rfl ?_
  refine g_iand X B at_3 (pc' := 4) rfl ?_
  refine g_bipush X B at_4 (pc' := 6) rfl (v := (10 : Int32)) (by decide) ?_
  refine g_irem X B (by decide) at_6 (pc' := 7) rfl ?_
  refine g_istoreN X B at_7 (pc' := 8) rfl (Ls' := #[.val (.int i0), .val (.int ((i0 &&& (2147483647 : Int32)) % (10 : Int32))), .unset]) rfl ?_
  obtain ⟨i1, g_i1⟩ : ∃ z, z = ((i0 &&& (2147483647 : Int32)) % (10 : Int32)) := ⟨_, rfl⟩
  rw [← g_i1]
  have hk0 : 0 ≤ i1.toInt := by rw [g_i1]; exact (own_k10 i0).1
  have hk9 : i1.toInt ≤ 9 := by rw [g_i1]; exact (own_k10 i0).2
  refine g_iloadN X B at_8 (pc' := 9) rfl (v := i1) rfl ?_
  refine g_callS X B eT 0 (y := (⟨"com/example/proteus/proteus/value/AttributeTypeIsKeyTypePinLaw", "pick", "(I)Lcom/example/proteus/proteus/value/AttributeType;"⟩ : MethodName)) (argsL := [(.int i1)]) (rest := []) (B.w 1 rfl) (B.w 2 rfl) (B.w 3 rfl) (B.w 4 rfl) (by decide) (pk_met l Z a0 B.2.2.1 [] h i1 a_S a_N a_B a_BOOL a_NULL a_M a_L a_SS a_NS a_BS hk0 hk9 S_S S_N S_B S_BOOL S_NULL S_M S_L S_SS S_NS S_BS E_S E_N E_B E_BOOL E_NULL E_M E_L E_SS E_NS E_BS F_S_ordinal F_N_ordinal F_B_ordinal F_BOOL_ordinal F_NULL_ordinal F_M_ordinal F_L_ordinal F_SS_ordinal F_NS_ordinal F_BS_ordinal) (by decide) (by decide) (by decide) (by decide) rfl (lenOf own_pd0 rfl) rfl (Nat.le_of_eq rfl) at_9 (pc' := 12) rfl (fun T1 v1 L1 X1 Q1 => ?_)
  obtain ⟨pa, rfl, hh1, rfl, pE, pF, p0, p1, p2⟩ := Q1
  rw [List.append_nil] at X1
  show Go p e below s _ _ _ (T1.setTop (mkF m 12 #[.val (.int i0), .val (.int i1), .unset] [(.ref pa)]))
  refine g_astoreN X1 B at_12 (pc' := 13) rfl rfl (Ls' := #[.val (.int i0), .val (.int i1), .val (.ref pa)]) rfl ?_
  refine g_aloadN X1 B at_13 (pc' := 14) rfl (v := (.ref pa)) rfl rfl ?_
  refine g_virtual X1 B hh1 0 pE (y := (⟨"com/example/proteus/proteus/value/AttributeType", "isKeyType", "()Z"⟩ : MethodName)) (argsL := []) (rest := []) (a := pa) (B.w 8 rfl) (B.w 9 rfl) (B.w 11 rfl) (B.w 10 rfl) (B.w 6 rfl) (B.w 12 rfl) (by decide) (ik_met l Z a0 B.2.2.1 [] h pa i1 a_S a_N a_B S_S S_N S_B ⟨fun q => by subst q; exact Value.int.inj (own_fuq pF F_S_ordinal), p0⟩ ⟨fun q => by subst q; exact Value.int.inj (own_fuq pF F_N_ordinal), p1⟩ ⟨fun q => by subst q; exact Value.int.inj (own_fuq pF F_B_ordinal), p2⟩) (by decide) (by decide) (by decide) (by decide) rfl (lenOf own_pd1 rfl) rfl (Nat.le_of_eq rfl) at_14 (pc' := 17) rfl (fun T2 v2 L2 X2 Q2 => ?_)
  obtain ⟨rfl, hh2, rfl⟩ := Q2
  rw [List.append_nil] at X2
  show Go p e below s _ _ _ (T2.setTop (mkF m 17 #[.val (.int i0), .val (.int i1), .val (.ref pa)] [(.int (own_key i1))]))
  refine g_iloadN X2 B at_17 (pc' := 18) rfl (v := i1) rfl ?_
  refine g_callP X2 B hh2 1 (y := (⟨"com/example/proteus/proteus/value/AttributeTypeIsKeyTypePinLaw", "expected", "(I)Z"⟩ : MethodName)) (argsL := [(.int i1)]) (rest := [(.int (own_key i1))]) (w := (.int (ex_f0 i1))) (B.w 14 rfl) (B.w 15 rfl) (B.w 3 rfl) (B.w 16 rfl) (by decide) (ex_met l Z a0 B.2.2.1 [] h i1) (by decide) (by decide) (by decide) (by decide) rfl (lenOf own_pd2 rfl) rfl (Nat.le_of_eq rfl) at_18 (pc' := 21) rfl (fun T3 X3 e3 => ?_)
  refine g_icmp_ne X3 B at_21 (pcT := 28) (pcF := 24) (by decide) rfl rfl (fun c21_0 => ?_) (fun c21_0 => ?_)
  · refine g_iconst X3 B at_24 (pc' := 25) rfl (v := (1 : Int32)) (by decide) ?_
    refine g_goto X3 B at_25 (pc' := 29) (by decide) rfl ?_
    exact g_retN X3 B (t := .boolean) rfl (by simp) at_29 (by decide) (by decide) ⟨congrArg (fun z => some (Value.int z)) (by decide : nar .boolean (1 : Int32) = 1), N⟩
  · exact absurd (own_ex _) c21_0
theorem own_pn_law : plainFor (⟨"com/example/proteus/proteus/value/AttributeTypeIsKeyTypePinLaw", "law", "(I)Z"⟩ : MethodName) = true := plainFor_of_name (by first | (simp [plainName, overriddenIn]; done) | decide +kernel)
theorem own_ef_law (m : MethodId) (i0 : Int32) : entryFrame m #[(.int i0)] 3 = (mkF m 0 #[.val (.int i0), .unset, .unset] []) := by first | (simp [entryFrame, mkF, argsToLocals, Value.category]; done) | rfl
theorem own_rm (l : Launch) (Z : State) (a0 : Array Value) (hw : ∀ d ∈ tables_1, d.before a0 Z = true) (ws : List Jvm.Cond) (h : Heap) (n0 : Nat) (Zs : n0 ≤ h.size) (i0 : Int32) (a_S : Addr) (a_N : Addr) (a_B : Addr) (a_BOOL : Addr) (a_NULL : Addr) (a_M : Addr) (a_L : Addr) (a_SS : Addr) (a_NS : Addr) (a_BS : Addr) (S_S : Sta Z h "com/example/proteus/proteus/value/AttributeType" "S" "Lcom/example/proteus/proteus/value/AttributeType;" (.ref a_S)) (S_N : Sta Z h "com/example/proteus/proteus/value/AttributeType" "N" "Lcom/example/proteus/proteus/value/AttributeType;" (.ref a_N)) (S_B : Sta Z h "com/example/proteus/proteus/value/AttributeType" "B" "Lcom/example/proteus/proteus/value/AttributeType;" (.ref a_B)) (S_BOOL : Sta Z h "com/example/proteus/proteus/value/AttributeType" "BOOL" "Lcom/example/proteus/proteus/value/AttributeType;" (.ref a_BOOL)) (S_NULL : Sta Z h "com/example/proteus/proteus/value/AttributeType" "NULL" "Lcom/example/proteus/proteus/value/AttributeType;" (.ref a_NULL)) (S_M : Sta Z h "com/example/proteus/proteus/value/AttributeType" "M" "Lcom/example/proteus/proteus/value/AttributeType;" (.ref a_M)) (S_L : Sta Z h "com/example/proteus/proteus/value/AttributeType" "L" "Lcom/example/proteus/proteus/value/AttributeType;" (.ref a_L)) (S_SS : Sta Z h "com/example/proteus/proteus/value/AttributeType" "SS" "Lcom/example/proteus/proteus/value/AttributeType;" (.ref a_SS)) (S_NS : Sta Z h "com/example/proteus/proteus/value/AttributeType" "NS" "Lcom/example/proteus/proteus/value/AttributeType;" (.ref a_NS)) (S_BS : Sta Z h "com/example/proteus/proteus/value/AttributeType" "BS" "Lcom/example/proteus/proteus/value/AttributeType;" (.ref a_BS)) (E_S : Exa Z h a_S "com/example/proteus/proteus/value/AttributeType") (E_N : Exa Z h a_N "com/example/proteus/proteus/value/AttributeType") (E_B : Exa Z h a_B "com/example/proteus/proteus/value/AttributeType") (E_BOOL : Exa Z h a_BOOL "com/example/proteus/proteus/value/AttributeType") (E_NULL : Exa Z h a_NULL "com/example/proteus/proteus/value/AttributeType") (E_M : Exa Z h a_M "com/example/proteus/proteus/value/AttributeType") (E_L : Exa Z h a_L "com/example/proteus/proteus/value/AttributeType") (E_SS : Exa Z h a_SS "com/example/proteus/proteus/value/AttributeType") (E_NS : Exa Z h a_NS "com/example/proteus/proteus/value/AttributeType") (E_BS : Exa Z h a_BS "com/example/proteus/proteus/value/AttributeType") (F_S_ordinal : Fld Z h a_S "java/lang/Enum" "ordinal" "I" (.int (0 : Int32))) (F_N_ordinal : Fld Z h a_N "java/lang/Enum" "ordinal" "I" (.int (1 : Int32))) (F_B_ordinal : Fld Z h a_B "java/lang/Enum" "ordinal" "I" (.int (2 : Int32))) (F_BOOL_ordinal : Fld Z h a_BOOL "java/lang/Enum" "ordinal" "I" (.int (3 : Int32))) (F_NULL_ordinal : Fld Z h a_NULL "java/lang/Enum" "ordinal" "I" (.int (4 : Int32))) (F_M_ordinal : Fld Z h a_M "java/lang/Enum" "ordinal" "I" (.int (5 : Int32))) (F_L_ordinal : Fld Z h a_L "java/lang/Enum" "ordinal" "I" (.int (6 : Int32))) (F_SS_ordinal : Fld Z h a_SS "java/lang/Enum" "ordinal" "I" (.int (7 : Int32))) (F_NS_ordinal : Fld Z h a_NS "java/lang/Enum" "ordinal" "I" (.int (8 : Int32))) (F_BS_ordinal : Fld Z h a_BS "java/lang/Enum" "ordinal" "I" (.int (9 : Int32))) :
    Met l Z x code maxLocals ret ws room_1 #[(.int i0)] h (fun v _ L => v = some (.int 1) ∧ Fr n0 L) :=
  met_of own_pn_law hw fun p e s m below meth c T X B eT => Go.top (own_ef_law m i0) (law_go X B eT n0 Zs i0 a_S a_N a_B a_BOOL a_NULL a_M a_L a_SS a_NS a_BS S_S S_N S_B S_BOOL S_NULL S_M S_L S_SS S_NS S_BS E_S E_N E_B E_BOOL E_NULL E_M E_L E_SS E_NS E_BS F_S_ordinal F_N_ordinal F_B_ordinal F_BOOL_ordinal F_NULL_ordinal F_M_ordinal F_L_ordinal F_SS_ordinal F_NS_ordinal F_BS_ordinal)
set_option maxRecDepth 65536 in
set_option maxHeartbeats 40000000 in
theorem comes_1 {Post : Tables → Env → Array Value → State → Outcome → State → Prop} (hpost : ∀ tb e args s v u, (limb_1_1.after args s (.returned v) u = true ∧ limb_1_2.after args s (.returned v) u = true ∧ True) → FrameEnd s (.returned v) u (Jvm.fieldLocs frame_1_writes args s ++ Jvm.arrayLocs frame_1_arrays args s ++ Jvm.staticLocs frame_1_statics s) 0 0 → Post tb e args s (.returned v) u) :
    ArmFor flags0 classFile x code maxLocals ret World_1 tables_1 room_1 Calls_1 rest_1 Pre_1 Post := by
  intro l hfl _ _ p e ha hc hk s m args below hf hA hF happ hP
  obtain ⟨hcalls, hrest, hpre⟩ := hP
  obtain ⟨-, -, -, hnamed, -, -, -, hat⟩ := (Spec.applies_iff hf).mp happ
  obtain ⟨hg, hn⟩ := and_e (Cond.before_iff.mp (show (Jvm.Cond.and given_1 narrow_1).before args s = true from hpre))
  obtain ⟨h1, g1⟩ := and_e hg
  obtain ⟨w0, rfl⟩ : ∃ w0 : Value, args = #[w0] := by
    have hs : args.size = 1 := by simpa [Cond.value, given_1] using h1
    obtain ⟨L⟩ := args
    match L, hs with
    | [w0], _ => exact ⟨w0, rfl⟩
  have hw := fun d (hd : d ∈ tables_1) => atoms_spec (ws := Jvm.Cond.code x code maxLocals ret :: tables_1) hat d (List.mem_cons_of_mem _ hd)
  obtain ⟨z0, q0⟩ := is_v g1
  obtain rfl : w0 = (.int z0) := Option.some.inj q0
  obtain ⟨n0, m0⟩ := and_e hn
  obtain ⟨a_S, e_S⟩ := exa_v n0
  have E_S : Exa s s.heap a_S "com/example/proteus/proteus/value/AttributeType" := Exa.start e_S n0
  have S_S : Sta s s.heap "com/example/proteus/proteus/value/AttributeType" "S" "Lcom/example/proteus/proteus/value/AttributeType;" (.ref a_S) := Sta.start e_S (Or.inr ⟨(hw _ (List.mem_of_getElem? (i := 6) rfl)), (hw _ (List.mem_of_getElem? (i := 7) rfl))⟩)
  obtain ⟨n1, m1⟩ := and_e m0
  obtain ⟨a_BOOL, e_BOOL⟩ := exa_v n1
  have E_BOOL : Exa s s.heap a_BOOL "com/example/proteus/proteus/value/AttributeType" := Exa.start e_BOOL n1
  have S_BOOL : Sta s s.heap "com/example/proteus/proteus/value/AttributeType" "BOOL" "Lcom/example/proteus/proteus/value/AttributeType;" (.ref a_BOOL) := Sta.start e_BOOL (Or.inr ⟨(hw _ (List.mem_of_getElem? (i := 6) rfl)), (hw _ (List.mem_of_getElem? (i := 18) rfl))⟩)
  obtain ⟨n2, m2⟩ := and_e m1
  have F_BOOL_ordinal : Fld s s.heap a_BOOL "java/lang/Enum" "ordinal" "I" (.int (3 : Int32)) := Fld.start (own_fl e_BOOL n2)
  obtain ⟨n3, m3⟩ := and_e m2
  have F_S_ordinal : Fld s s.heap a_S "java/lang/Enum" "ordinal" "I" (.int (0 : Int32)) := Fld.start (own_fl e_S n3)
  obtain ⟨n4, m4⟩ := and_e m3
  obtain ⟨a_N, e_N⟩ := exa_v n4
  have E_N : Exa s s.heap a_N "com/example/proteus/proteus/value/AttributeType" := Exa.start e_N n4
  have S_N : Sta s s.heap "com/example/proteus/proteus/value/AttributeType" "N" "Lcom/example/proteus/proteus/value/AttributeType;" (.ref a_N) := Sta.start e_N (Or.inr ⟨(hw _ (List.mem_of_getElem? (i := 6) rfl)), (hw _ (List.mem_of_getElem? (i := 20) rfl))⟩)
  obtain ⟨n5, m5⟩ := and_e m4
  have F_N_ordinal : Fld s s.heap a_N "java/lang/Enum" "ordinal" "I" (.int (1 : Int32)) := Fld.start (own_fl e_N n5)
  obtain ⟨n6, m6⟩ := and_e m5
  obtain ⟨a_B, e_B⟩ := exa_v n6
  have E_B : Exa s s.heap a_B "com/example/proteus/proteus/value/AttributeType" := Exa.start e_B n6
  have S_B : Sta s s.heap "com/example/proteus/proteus/value/AttributeType" "B" "Lcom/example/proteus/proteus/value/AttributeType;" (.ref a_B) := Sta.start e_B (Or.inr ⟨(hw _ (List.mem_of_getElem? (i := 6) rfl)), (hw _ (List.mem_of_getElem? (i := 22) rfl))⟩)
  obtain ⟨n7, m7⟩ := and_e m6
  have F_B_ordinal : Fld s s.heap a_B "java/lang/Enum" "ordinal" "I" (.int (2 : Int32)) := Fld.start (own_fl e_B n7)
  obtain ⟨n8, m8⟩ := and_e m7
  obtain ⟨a_NULL, e_NULL⟩ := exa_v n8
  have E_NULL : Exa s s.heap a_NULL "com/example/proteus/proteus/value/AttributeType" := Exa.start e_NULL n8
  have S_NULL : Sta s s.heap "com/example/proteus/proteus/value/AttributeType" "NULL" "Lcom/example/proteus/proteus/value/AttributeType;" (.ref a_NULL) := Sta.start e_NULL (Or.inr ⟨(hw _ (List.mem_of_getElem? (i := 6) rfl)), (hw _ (List.mem_of_getElem? (i := 25) rfl))⟩)
  obtain ⟨n9, m9⟩ := and_e m8
  have F_NULL_ordinal : Fld s s.heap a_NULL "java/lang/Enum" "ordinal" "I" (.int (4 : Int32)) := Fld.start (own_fl e_NULL n9)
  obtain ⟨n10, m10⟩ := and_e m9
  obtain ⟨a_SS, e_SS⟩ := exa_v n10
  have E_SS : Exa s s.heap a_SS "com/example/proteus/proteus/value/AttributeType" := Exa.start e_SS n10
  have S_SS : Sta s s.heap "com/example/proteus/proteus/value/AttributeType" "SS" "Lcom/example/proteus/proteus/value/AttributeType;" (.ref a_SS) := Sta.start e_SS (Or.inr ⟨(hw _ (List.mem_of_getElem? (i := 6) rfl)), (hw _ (List.mem_of_getElem? (i := 27) rfl))⟩)
  obtain ⟨n11, m11⟩ := and_e m10
  have F_SS_ordinal : Fld s s.heap a_SS "java/lang/Enum" "ordinal" "I" (.int (7 : Int32)) := Fld.start (own_fl e_SS n11)
  obtain ⟨n12, m12⟩ := and_e m11
  obtain ⟨a_NS, e_NS⟩ := exa_v n12
  have E_NS : Exa s s.heap a_NS "com/example/proteus/proteus/value/AttributeType" := Exa.start e_NS n12
  have S_NS : Sta s s.heap "com/example/proteus/proteus/value/AttributeType" "NS" "Lcom/example/proteus/proteus/value/AttributeType;" (.ref a_NS) := Sta.start e_NS (Or.inr ⟨(hw _ (List.mem_of_getElem? (i := 6) rfl)), (hw _ (List.mem_of_getElem? (i := 30) rfl))⟩)
  obtain ⟨n13, m13⟩ := and_e m12
  have F_NS_ordinal : Fld s s.heap a_NS "java/lang/Enum" "ordinal" "I" (.int (8 : Int32)) := Fld.start (own_fl e_NS n13)
  obtain ⟨n14, m14⟩ := and_e m13
  obtain ⟨a_BS, e_BS⟩ := exa_v n14
  have E_BS : Exa s s.heap a_BS "com/example/proteus/proteus/value/AttributeType" := Exa.start e_BS n14
  have S_BS : Sta s s.heap "com/example/proteus/proteus/value/AttributeType" "BS" "Lcom/example/proteus/proteus/value/AttributeType;" (.ref a_BS) := Sta.start e_BS (Or.inr ⟨(hw _ (List.mem_of_getElem? (i := 6) rfl)), (hw _ (List.mem_of_getElem? (i := 32) rfl))⟩)
  obtain ⟨n15, m15⟩ := and_e m14
  have F_BS_ordinal : Fld s s.heap a_BS "java/lang/Enum" "ordinal" "I" (.int (9 : Int32)) := Fld.start (own_fl e_BS n15)
  obtain ⟨n16, m16⟩ := and_e m15
  obtain ⟨a_M, e_M⟩ := exa_v n16
  have E_M : Exa s s.heap a_M "com/example/proteus/proteus/value/AttributeType" := Exa.start e_M n16
  have S_M : Sta s s.heap "com/example/proteus/proteus/value/AttributeType" "M" "Lcom/example/proteus/proteus/value/AttributeType;" (.ref a_M) := Sta.start e_M (Or.inr ⟨(hw _ (List.mem_of_getElem? (i := 6) rfl)), (hw _ (List.mem_of_getElem? (i := 34) rfl))⟩)
  obtain ⟨n17, m17⟩ := and_e m16
  have F_M_ordinal : Fld s s.heap a_M "java/lang/Enum" "ordinal" "I" (.int (5 : Int32)) := Fld.start (own_fl e_M n17)
  obtain ⟨n18, m18⟩ := and_e m17
  obtain ⟨a_L, e_L⟩ := exa_v n18
  have E_L : Exa s s.heap a_L "com/example/proteus/proteus/value/AttributeType" := Exa.start e_L n18
  have S_L : Sta s s.heap "com/example/proteus/proteus/value/AttributeType" "L" "Lcom/example/proteus/proteus/value/AttributeType;" (.ref a_L) := Sta.start e_L (Or.inr ⟨(hw _ (List.mem_of_getElem? (i := 6) rfl)), (hw _ (List.mem_of_getElem? (i := 36) rfl))⟩)
  have F_L_ordinal : Fld s s.heap a_L "java/lang/Enum" "ordinal" "I" (.int (6 : Int32)) := Fld.start (own_fl e_L m18)
  obtain ⟨n, o, h1, h2, h3, _, L, rfl, ⟨rfl, N⟩, hq⟩ := own_rm l s _ hw tables_1 s.heap s.heap.size (Nat.le_refl _) z0 a_S a_N a_B a_BOOL a_NULL a_M a_L a_SS a_NS a_BS S_S S_N S_B S_BOOL S_NULL S_M S_L S_SS S_NS S_BS E_S E_N E_B E_BOOL E_NULL E_M E_L E_SS E_NS E_BS F_S_ordinal F_N_ordinal F_B_ordinal F_BOOL_ordinal F_NULL_ordinal F_M_ordinal F_L_ordinal F_SS_ordinal F_NS_ordinal F_BS_ordinal p e ha hc hk s m _ below hf ((Spec.applies_iff_loose hf).mp happ).1 ⟨rfl, State.Warmed39.refl s, rfl⟩ trivial
  refine ⟨n, _, h1, h2, h3, hpost _ _ _ _ _ _ ⟨Cond.after_iff.mpr rfl, Cond.after_iff.mpr (eq_i res_at (Term.int_eval (1)) rfl), trivial⟩ ⟨hq.1, hq.2.1, (hq.2.2.sift fun y hy => Or.inr (N y hy)).mono (by decide) (by decide)⟩⟩
theorem main_1_1 : Claimed_1_1 := comes_1 fun _ _ _ _ _ _ h hF => ⟨h.1, hF⟩
theorem main_1_2 : Claimed_1_2 := comes_1 fun _ _ _ _ _ _ h hF => ⟨h.2.1, hF⟩
end Jvm.Pilot.@@N@@
namespace Jvm.Pilot.@@N@@
open Jvm Jvm.ClassFile Sem Op Lib Jvm.Free Jvm.Stand Jvm.Pilot.@@N@@.Jvm.D
/-! MADE BY PROGRAM (witnessworld.py) out of the Statement's table words and the real class files: 12 classes; the members and pool entries that the words name. The judged class is class 1, her method 3. -/
namespace start1
open Jvm.ClassFile
def u (s : String) : CpInfo := .utf8 (stringToUtf16 s)
/-- a pool by its gaps: so many unusable entries, then the entry; so many at the end -/
def gap : Nat → List CpInfo → List CpInfo
  | 0, r => r
  | n + 1, r => .unusable :: gap n r
def poolList (es : List (Nat × CpInfo)) (last : Nat) : List CpInfo := es.foldr (fun e r => gap e.1 (e.2 :: r)) (gap last [])
def pool (es : List (Nat × CpInfo)) (last : Nat) : Array CpInfo := ⟨poolList es last⟩
def fileOf (pool : Array CpInfo) (this : Nat) (attrs : Array Attribute := #[]) (ms : Array MethodInfo := #[]) (fl : Nat := 33) (sup : Nat := 0) (ifs : Array Nat := #[]) (fds : Array FieldInfo := #[]) : ClassFile where
  minorVersion := 0
  majorVersion := 65
  constantPool := pool
  accessFlags := fl
  thisClass := this
  superClass := sup
  interfaces := ifs
  fields := fds
  methods := ms
  attributes := attrs
def plain (name : String) (sup : Option ClassId) : Class where
  name := name
  kind := .ordinary
  loader := none
  accessFlags := 33
  super := sup
  interfaces := #[]
  cf := none
  fields := #[]
  methods := #[]
  instanceTypes := #[]
  staticTypes := #[]
  resolved := #[]
  callSites := []
  init := .initialized
  statics := none
  mirror := none

def pool0 : Array CpInfo := pool [(5, u "<init>"), (0, u "()V"), (1, .class_ 10), (1, u "java/lang/Object")] 113

def k0m0 : Method := { name := "<init>", desc := "()V", sig := { parameters := [], returnType := none }, accessFlags := 1, code := none }
/-- java/lang/Object -/
def k0 : Class := { plain "java/lang/Object" none with
  accessFlags := 33
  interfaces := #[]
  cf := some (fileOf pool0 8 #[] #[{ accessFlags := 1, nameIndex := 5, descriptorIndex := 6, attributes := #[] }] 33 0 #[] #[])
  fields := #[]
  methods := #[k0m0]
  instanceTypes := #[]
  staticTypes := #[]
  resolved := Array.replicate 124 none
  statics := none }

def pool1 : Array CpInfo := pool [(2, .class_ 4), (1, u "java/lang/Object"), (0, u "<init>"), (0, u "()V"), (0, .fieldref 8 9), (0, .class_ 10), (0, .nameAndType 11 12), (0, u "com/example/proteus/proteus/value/AttributeType"), (0, u "S"), (0, u "Lcom/example/proteus/proteus/value/AttributeType;"), (0, .fieldref 8 14), (0, .nameAndType 15 12), (0, u "N"), (0, .fieldref 8 17), (0, .nameAndType 18 12), (0, u "B"), (0, .fieldref 8 20), (0, .nameAndType 21 12), (0, u "BOOL"), (0, .fieldref 8 23), (0, .nameAndType 24 12), (0, u "NULL"), (0, .fieldref 8 26), (0, .nameAndType 27 12), (0, u "M"), (0, .fieldref 8 29), (0, .nameAndType 30 12), (0, u "L"), (0, .fieldref 8 32), (0, .nameAndType 33 12), (0, u "SS"), (0, .fieldref 8 35), (0, .nameAndType 36 12), (0, u "NS"), (0, .fieldref 8 38), (0, .nameAndType 39 12), (0, u "BS"), (0, .integer 2147483647), (0, .methodref 42 43), (0, .class_ 44), (0, .nameAndType 45 46), (0, u "com/example/proteus/proteus/value/AttributeTypeIsKeyTypePinLaw"), (0, u "pick"), (0, u "(I)Lcom/example/proteus/proteus/value/AttributeType;"), (0, .methodref 8 48), (0, .nameAndType 49 50), (0, u "isKeyType"), (0, u "()Z"), (0, .methodref 42 52), (0, .nameAndType 53 54), (0, u "expected"), (0, u "(I)Z"), (3, u "law")] 2

def k1m0 : Method := { name := "<init>", desc := "()V", sig := { parameters := [], returnType := none }, accessFlags := 1, code := none }
def k1c1 : Code := { maxStack := 2, maxLocals := 1, code := method_2_code, exceptionTable := #[], attributes := #[] }
def k1m1 : Method := { name := "pick", desc := "(I)Lcom/example/proteus/proteus/value/AttributeType;", sig := { parameters := [.int], returnType := some (.object "com/example/proteus/proteus/value/AttributeType") }, accessFlags := 10, code := some k1c1 }
def k1c2 : Code := { maxStack := 2, maxLocals := 1, code := method_3_code, exceptionTable := #[], attributes := #[] }
def k1m2 : Method := { name := "expected", desc := "(I)Z", sig := { parameters := [.int], returnType := some .boolean }, accessFlags := 10, code := some k1c2 }
def k1c3 : Code := { maxStack := 2, maxLocals := 3, code := code, exceptionTable := #[], attributes := #[] }
def k1m3 : Method := { name := "law", desc := "(I)Z", sig := { parameters := [.int], returnType := some .boolean }, accessFlags := 9, code := some k1c3 }
/-- com/example/proteus/proteus/value/AttributeTypeIsKeyTypePinLaw -/
def k1 : Class := { plain "com/example/proteus/proteus/value/AttributeTypeIsKeyTypePinLaw" (some 0) with
  accessFlags := 49
  interfaces := #[]
  cf := some (fileOf pool1 42 #[] #[{ accessFlags := 1, nameIndex := 5, descriptorIndex := 6, attributes := #[] }, { accessFlags := 10, nameIndex := 45, descriptorIndex := 46, attributes := #[] }, { accessFlags := 10, nameIndex := 53, descriptorIndex := 54, attributes := #[] }, { accessFlags := 9, nameIndex := 58, descriptorIndex := 54, attributes := #[] }] 49 2 #[] #[])
  fields := #[]
  methods := #[k1m0, k1m1, k1m2, k1m3]
  instanceTypes := #[]
  staticTypes := #[]
  resolved := Array.replicate 61 none
  statics := none }

def pool2 : Array CpInfo := pool [(1, .class_ 2), (0, u "java/lang/constant/Constable"), (0, .class_ 4), (0, u "java/lang/Object")] 6

/-- java/lang/constant/Constable -/
def k2 : Class := { plain "java/lang/constant/Constable" (some 0) with
  accessFlags := 1537
  interfaces := #[]
  cf := some (fileOf pool2 1 #[] #[] 1537 3 #[] #[])
  fields := #[]
  methods := #[]
  instanceTypes := #[]
  staticTypes := #[]
  resolved := Array.replicate 11 none
  statics := none }

def pool3 : Array CpInfo := pool [(1, .class_ 2), (0, u "java/lang/Comparable"), (0, .class_ 4), (0, u "java/lang/Object")] 7

/-- java/lang/Comparable -/
def k3 : Class := { plain "java/lang/Comparable" (some 0) with
  accessFlags := 1537
  interfaces := #[]
  cf := some (fileOf pool3 1 #[] #[] 1537 3 #[] #[])
  fields := #[]
  methods := #[]
  instanceTypes := #[]
  staticTypes := #[]
  resolved := Array.replicate 12 none
  statics := none }

def pool4 : Array CpInfo := pool [(1, .class_ 2), (0, u "java/io/Serializable"), (0, .class_ 4), (0, u "java/lang/Object")] 2

/-- java/io/Serializable -/
def k4 : Class := { plain "java/io/Serializable" (some 0) with
  accessFlags := 1537
  interfaces := #[]
  cf := some (fileOf pool4 1 #[] #[] 1537 3 #[] #[])
  fields := #[]
  methods := #[]
  instanceTypes := #[]
  staticTypes := #[]
  resolved := Array.replicate 7 none
  statics := none }

def pool5 : Array CpInfo := pool [(2, .class_ 4), (1, u "java/lang/Enum"), (0, u "name"), (0, u "Ljava/lang/String;"), (2, u "ordinal"), (0, u "I"), (1, .class_ 14), (1, u "java/lang/Object"), (4, u "hash"), (86, .class_ 108), (1, u "java/lang/Enum$EnumDesc"), (2, .class_ 112), (0, u "java/lang/constant/Constable"), (0, .class_ 114), (0, u "java/lang/Comparable"), (0, .class_ 116), (0, u "java/io/Serializable")] 87

/-- java/lang/Enum -/
def k5 : Class := { plain "java/lang/Enum" (some 0) with
  accessFlags := 1057
  interfaces := #[2, 3, 4]
  cf := some (fileOf pool5 2 #[.nestMembers #[106]] #[] 1057 12 #[111, 113, 115] #[{ accessFlags := 18, nameIndex := 5, descriptorIndex := 6, attributes := #[] }, { accessFlags := 18, nameIndex := 9, descriptorIndex := 10, attributes := #[] }, { accessFlags := 2, nameIndex := 19, descriptorIndex := 10, attributes := #[] }])
  fields := #[{ name := "name", type := (.object "java/lang/String"), accessFlags := 18, slot := 0, constantValue := 0 }, { name := "ordinal", type := .int, accessFlags := 18, slot := 1, constantValue := 0 }, { name := "hash", type := .int, accessFlags := 2, slot := 2, constantValue := 0 }]
  methods := #[]
  instanceTypes := #[(.object "java/lang/String"), .int, .int]
  staticTypes := #[]
  resolved := Array.replicate 204 none
  statics := none }

def pool6 : Array CpInfo := pool [(1, .class_ 2), (0, u "com/example/proteus/proteus/value/AttributeType"), (0, .fieldref 1 4), (0, .nameAndType 5 6), (0, u "S"), (0, u "Lcom/example/proteus/proteus/value/AttributeType;"), (0, .fieldref 1 8), (0, .nameAndType 9 6), (0, u "N"), (0, .fieldref 1 11), (0, .nameAndType 12 6), (0, u "B"), (2, u "BOOL"), (2, u "NULL"), (2, u "M"), (2, u "L"), (2, u "SS"), (2, u "NS"), (2, u "BS"), (2, u "$VALUES"), (0, u "[Lcom/example/proteus/proteus/value/AttributeType;"), (6, .class_ 46), (1, u "java/lang/Enum"), (28, u "isKeyType"), (0, u "()Z")] 5

def k6c0 : Code := { maxStack := 2, maxLocals := 1, code := prog_21_method_4_code, exceptionTable := #[], attributes := #[] }
def k6m0 : Method := { name := "isKeyType", desc := "()Z", sig := { parameters := [], returnType := some .boolean }, accessFlags := 1, code := some k6c0 }
/-- com/example/proteus/proteus/value/AttributeType -/
def k6 : Class := { plain "com/example/proteus/proteus/value/AttributeType" (some 5) with
  accessFlags := 16433
  interfaces := #[]
  cf := some (fileOf pool6 1 #[] #[{ accessFlags := 1, nameIndex := 75, descriptorIndex := 76, attributes := #[] }] 16433 44 #[] #[{ accessFlags := 16409, nameIndex := 5, descriptorIndex := 6, attributes := #[] }, { accessFlags := 16409, nameIndex := 9, descriptorIndex := 6, attributes := #[] }, { accessFlags := 16409, nameIndex := 12, descriptorIndex := 6, attributes := #[] }, { accessFlags := 16409, nameIndex := 15, descriptorIndex := 6, attributes := #[] }, { accessFlags := 16409, nameIndex := 18, descriptorIndex := 6, attributes := #[] }, { accessFlags := 16409, nameIndex := 21, descriptorIndex := 6, attributes := #[] }, { accessFlags := 16409, nameIndex := 24, descriptorIndex := 6, attributes := #[] }, { accessFlags := 16409, nameIndex := 27, descriptorIndex := 6, attributes := #[] }, { accessFlags := 16409, nameIndex := 30, descriptorIndex := 6, attributes := #[] }, { accessFlags := 16409, nameIndex := 33, descriptorIndex := 6, attributes := #[] }, { accessFlags := 4122, nameIndex := 36, descriptorIndex := 37, attributes := #[] }])
  fields := #[{ name := "S", type := (.object "com/example/proteus/proteus/value/AttributeType"), accessFlags := 16409, slot := 0, constantValue := 0 }, { name := "N", type := (.object "com/example/proteus/proteus/value/AttributeType"), accessFlags := 16409, slot := 1, constantValue := 0 }, { name := "B", type := (.object "com/example/proteus/proteus/value/AttributeType"), accessFlags := 16409, slot := 2, constantValue := 0 }, { name := "BOOL", type := (.object "com/example/proteus/proteus/value/AttributeType"), accessFlags := 16409, slot := 3, constantValue := 0 }, { name := "NULL", type := (.object "com/example/proteus/proteus/value/AttributeType"), accessFlags := 16409, slot := 4, constantValue := 0 }, { name := "M", type := (.object "com/example/proteus/proteus/value/AttributeType"), accessFlags := 16409, slot := 5, constantValue := 0 }, { name := "L", type := (.object "com/example/proteus/proteus/value/AttributeType"), accessFlags := 16409, slot := 6, constantValue := 0 }, { name := "SS", type := (.object "com/example/proteus/proteus/value/AttributeType"), accessFlags := 16409, slot := 7, constantValue := 0 }, { name := "NS", type := (.object "com/example/proteus/proteus/value/AttributeType"), accessFlags := 16409, slot := 8, constantValue := 0 }, { name := "BS", type := (.object "com/example/proteus/proteus/value/AttributeType"), accessFlags := 16409, slot := 9, constantValue := 0 }, { name := "$VALUES", type := (.array (.object "com/example/proteus/proteus/value/AttributeType")), accessFlags := 4122, slot := 10, constantValue := 0 }]
  methods := #[k6m0]
  instanceTypes := #[(.object "java/lang/String"), .int, .int]
  staticTypes := #[(.object "com/example/proteus/proteus/value/AttributeType"), (.object "com/example/proteus/proteus/value/AttributeType"), (.object "com/example/proteus/proteus/value/AttributeType"), (.object "com/example/proteus/proteus/value/AttributeType"), (.object "com/example/proteus/proteus/value/AttributeType"), (.object "com/example/proteus/proteus/value/AttributeType"), (.object "com/example/proteus/proteus/value/AttributeType"), (.object "com/example/proteus/proteus/value/AttributeType"), (.object "com/example/proteus/proteus/value/AttributeType"), (.object "com/example/proteus/proteus/value/AttributeType"), (.array (.object "com/example/proteus/proteus/value/AttributeType"))]
  resolved := Array.replicate 82 none
  statics := some 0 }

def pool7 : Array CpInfo := pool [(1, u "java/lang/Cloneable"), (0, .class_ 1), (0, u "java/lang/Object"), (0, .class_ 3)] 3

/-- java/lang/Cloneable -/
def k7 : Class := { plain "java/lang/Cloneable" (some 0) with
  accessFlags := 1537
  interfaces := #[]
  cf := some (fileOf pool7 2 #[] #[] 1537 4 #[] #[])
  fields := #[]
  methods := #[]
  instanceTypes := #[]
  staticTypes := #[]
  resolved := Array.replicate 8 none
  statics := none }

/-- the primitive byte -/
def k8 : Class := { plain "byte" none with kind := .primitive 'B', accessFlags := 0x411 }
/-- [B -/
def k9 : Class := { plain "[B" (some 0) with kind := .array 8 .byte, interfaces := #[7, 4], accessFlags := 1041 }

/-- the primitive int -/
def k10 : Class := { plain "int" none with kind := .primitive 'I', accessFlags := 0x411 }
/-- [I -/
def k11 : Class := { plain "[I" (some 0) with kind := .array 10 .int, interfaces := #[7, 4], accessFlags := 1041 }

def heap : Heap := #[{ cls := 6, slots := #[.ref 1, .ref 2, .ref 3, .ref 4, .ref 5, .ref 6, .ref 7, .ref 8, .ref 9, .ref 10, .null], vm := .statics 6 },
  { cls := 6, slots := #[.null, .int 0, .int 0], vm := .none },
  { cls := 6, slots := #[.null, .int 1, .int 0], vm := .none },
  { cls := 6, slots := #[.null, .int 2, .int 0], vm := .none },
  { cls := 6, slots := #[.null, .int 3, .int 0], vm := .none },
  { cls := 6, slots := #[.null, .int 4, .int 0], vm := .none },
  { cls := 6, slots := #[.null, .int 5, .int 0], vm := .none },
  { cls := 6, slots := #[.null, .int 6, .int 0], vm := .none },
  { cls := 6, slots := #[.null, .int 7, .int 0], vm := .none },
  { cls := 6, slots := #[.null, .int 8, .int 0], vm := .none },
  { cls := 6, slots := #[.null, .int 9, .int 0], vm := .none }]
def classes : Array Class := #[k0, k1, k2, k3, k4, k5, k6, k7, k8, k9, k10, k11]
def interned : List (Array UInt16 × Addr) := []
def slotsUsed : Nat := 41
def theMethod : MethodId := ⟨1, 3⟩
def args0 : Array Value := #[.int 5]
def aboutOver (below : List Frame) : State where
  vm := { classes := classes, interned := interned.toArray }
  heap := heap
  slotsUsed := slotsUsed
  threads := #[{ frames := .invoking theMethod args0 :: below }]
def below0 : List Frame := [.native { method := ⟨0, 0⟩, args := #[] }]
def about1 : State := aboutOver below0
def p0 : Program := .bare "" "" ""
def e0 : Env := launch0.env 0 0 0
theorem w_frames : about1.frames = Frame.invoking theMethod args0 :: below0 := rfl
set_option maxRecDepth 65536 in
theorem w_args : argsFit about1.vm theMethod args0 = true := by decide +kernel
set_option maxRecDepth 65536 in
theorem w_heap : heapFits about1 = true := by decide +kernel
set_option maxRecDepth 65536 in
theorem w_runnable : about1.curStatus? = some .runnable := by decide +kernel
set_option maxRecDepth 65536 in
theorem w_alone : about1.alone = true := by decide +kernel
set_option maxRecDepth 65536 in
theorem w_named : about1.methodNamed? x = some theMethod := by decide +kernel
set_option maxRecDepth 65536 in
theorem w_hears : about1.hears theMethod below0 = true := by decide +kernel
set_option maxRecDepth 65536 in
theorem w_ripe : about1.ripe theMethod args0 below0 = true := by decide +kernel
theorem w_running : about1.status = .running := rfl
set_option maxRecDepth 65536 in
theorem w_room : about1.hasRoom e0.platform room_1 = true :=
  launch0.hasRoom_least _ room_1 (by decide +kernel) (by decide +kernel) (by decide +kernel) (by decide +kernel) (by decide +kernel) (by decide +kernel)
theorem allAtoms_all (ts : List Jvm.Cond) (a : Array Jvm.Value) (st : Jvm.State) : (allAtoms ts).before a st = ts.all (fun c => c.before a st) := by
  induction ts with
  | nil => rfl
  | cons c t ih =>
    show (Jvm.Cond.and c (allAtoms t)).before a st = _
    rw [Jvm.Cond.before_and, ih, List.all_cons]
def words1 : List Jvm.Cond := Jvm.Cond.code x code maxLocals ret :: tables_1
/-- a 'code' word, met by the world's own term for the bytes: nothing is compared byte by byte -/
theorem code_word {y : MethodName} {bytes : ByteArray} {mx : Nat} {rt : Option FieldType} {a : Array Value} {s : State} {m : MethodId} {meth : Method} {c : Code} (h1 : s.methodNamed? y = some m) (h2 : s.vm.method? m = some meth) (h3 : meth.code = some c) (h4 : c.code = bytes)
    (h5 : (c.maxLocals == mx && c.exceptionTable.isEmpty && decide (c.maxStack ≤ mostOperands) && decide (meth.sig.returnType = rt) && !meth.locks && decide (parseMethodDescriptor y.desc = some meth.sig)) = true) : (Jvm.Cond.code y bytes mx rt).before a s = true := by
  simp only [Bool.and_eq_true, beq_iff_eq, Bool.not_eq_true', decide_eq_true_eq] at h5
  obtain ⟨⟨⟨⟨⟨g1, g2⟩, g3⟩, g4⟩, g5⟩, g6⟩ := h5
  simp [Cond.before, Cond.holds, Cond.value, h1, h2, h3, h4, g1, g2, g3, g4, g5, g6]
def isCode : Jvm.Cond → Bool
  | .code _ _ _ _ => true
  | _ => false
theorem all_split {L : List Jvm.Cond} {P : Jvm.Cond → Bool} (h1 : L.all (fun c => isCode c || P c) = true) (h2 : ∀ c ∈ L.filter isCode, P c = true) : L.all P = true := by
  refine List.all_eq_true.mpr fun c hc => ?_
  have h := List.all_eq_true.mp h1 c hc
  rcases Bool.eq_false_or_eq_true (isCode c) with hi | hi
  · exact h2 c (List.mem_filter.mpr ⟨hc, hi⟩)
  · simpa [hi] using h
set_option maxRecDepth 65536 in
theorem w_c0 : (Jvm.Cond.code x code maxLocals ret).before args0 about1 = true := code_word (m := ⟨1, 3⟩) (meth := k1m3) (c := k1c3) (by decide +kernel) rfl rfl rfl (by decide +kernel)
set_option maxRecDepth 65536 in
theorem w_c1 : (Jvm.Cond.code ({ cls := "com/example/proteus/proteus/value/AttributeTypeIsKeyTypePinLaw", name := "pick", desc := "(I)Lcom/example/proteus/proteus/value/AttributeType;" } : Jvm.MethodName) method_2_code (1 : Nat) (Option.some (Jvm.ClassFile.FieldType.object "com/example/proteus/proteus/value/AttributeType"))).before args0 about1 = true := code_word (m := ⟨1, 1⟩) (meth := k1m1) (c := k1c1) (by decide +kernel) rfl rfl rfl (by decide +kernel)
set_option maxRecDepth 65536 in
theorem w_c2 : (Jvm.Cond.code ({ cls := "com/example/proteus/proteus/value/AttributeType", name := "isKeyType", desc := "()Z" } : Jvm.MethodName) prog_21_method_4_code (1 : Nat) (Option.some Jvm.ClassFile.FieldType.boolean)).before args0 about1 = true := code_word (m := ⟨6, 0⟩) (meth := k6m0) (c := k6c0) (by decide +kernel) rfl rfl rfl (by decide +kernel)
set_option maxRecDepth 65536 in
theorem w_c3 : (Jvm.Cond.code ({ cls := "com/example/proteus/proteus/value/AttributeTypeIsKeyTypePinLaw", name := "expected", desc := "(I)Z" } : Jvm.MethodName) method_3_code (1 : Nat) (Option.some Jvm.ClassFile.FieldType.boolean)).before args0 about1 = true := code_word (m := ⟨1, 2⟩) (meth := k1m2) (c := k1c2) (by decide +kernel) rfl rfl rfl (by decide +kernel)
def codes1 : List Jvm.Cond := [Jvm.Cond.code x code maxLocals ret, Jvm.Cond.code ({ cls := "com/example/proteus/proteus/value/AttributeTypeIsKeyTypePinLaw", name := "pick", desc := "(I)Lcom/example/proteus/proteus/value/AttributeType;" } : Jvm.MethodName) method_2_code (1 : Nat) (Option.some (Jvm.ClassFile.FieldType.object "com/example/proteus/proteus/value/AttributeType")), Jvm.Cond.code ({ cls := "com/example/proteus/proteus/value/AttributeType", name := "isKeyType", desc := "()Z" } : Jvm.MethodName) prog_21_method_4_code (1 : Nat) (Option.some Jvm.ClassFile.FieldType.boolean), Jvm.Cond.code ({ cls := "com/example/proteus/proteus/value/AttributeTypeIsKeyTypePinLaw", name := "expected", desc := "(I)Z" } : Jvm.MethodName) method_3_code (1 : Nat) (Option.some Jvm.ClassFile.FieldType.boolean)]
set_option maxRecDepth 65536 in
theorem codes_eq : words1.filter isCode = codes1 := rfl
theorem w_codes : ∀ c ∈ words1.filter isCode, c.before args0 about1 = true := by
  rw [codes_eq]
  intro c hc
  simp only [codes1, List.mem_cons, List.not_mem_nil, or_false] at hc
  rcases hc with rfl | rfl | rfl | rfl
  · exact w_c0
  · exact w_c1
  · exact w_c2
  · exact w_c3
set_option maxRecDepth 65536 in
theorem w_t1 : (words1.take 24).all (fun c => isCode c || c.before args0 about1) = true := by decide +kernel
set_option maxRecDepth 65536 in
theorem w_t2 : (words1.drop 24).all (fun c => isCode c || c.before args0 about1) = true := by decide +kernel
theorem w_tables : (allAtoms (Jvm.Cond.code x code maxLocals ret :: tables_1)).before args0 about1 = true := by
  rw [allAtoms_all]
  show words1.all (fun c => c.before args0 about1) = true
  refine all_split ?_ w_codes
  rw [← List.take_append_drop 24 words1, List.all_append, w_t1, w_t2]
  rfl
set_option maxRecDepth 65536 in
theorem w_case : (Jvm.Cond.and given_1 narrow_1).before args0 about1 = true := by decide +kernel
theorem w_applies : (headSpec (Jvm.Cond.code x code maxLocals ret :: tables_1) room_1).applies x e0.platform about1 = true :=
  (Spec.applies_iff w_frames).mpr ⟨w_running, w_runnable, w_alone, w_named, w_hears, w_ripe, w_room, w_tables⟩
theorem atStart : AtStart classFile x code maxLocals ret World_1 tables_1 room_1 Calls_1 rest_1 Pre_1 launch0 p0 e0 about1 theMethod args0 below0 :=
  ⟨lists_1, trivial, launch0.admits_env _ _ _, launch0.least_env, fairChoices_fair.cas, fairChoices_fair.clock, w_frames, w_args, w_heap, w_applies, trivial, trivial, w_case⟩
end start1
theorem witness_1 : WitnessClaimed_1 := ⟨start1.p0, start1.e0, start1.about1, start1.theMethod, start1.args0, start1.below0, start1.atStart⟩
end Jvm.Pilot.@@N@@

import JvmDerived
import JvmDerived.Pilot.@@N@@Statement
import JvmDerived.Pilot.@@N@@Code
set_option linter.unusedVariables false
set_option linter.unusedSimpArgs false
namespace Jvm.Pilot.@@N@@
open Jvm Jvm.ClassFile Sem Op Lib Jvm.Free Jvm.Stand Jvm.LawKit Jvm.RoadKit Bundle Jvm.Pilot.@@N@@.Jvm.D
/-! own frame: 'Go': from here the run ends as Q says -/
def Go (p : Program) (e : Env) (below : List Frame) (s : State) (nc ns : Nat) (Q : Option Value → Heap → List Loc → Prop) (u : State) : Prop :=
  ∃ s₂ o, Steps p.tables e below u s₂ ∧ s₂.status = .running ∧ Ended s₂ below o ∧ ∃ v L, o = .returned v ∧ Q v s₂.heap L ∧ FrameEnd s o s₂ L nc ns
/-- what a body's walk stands on -/
def Bdy (p : Program) (s : State) (m : MethodId) (meth : Method) (c : Code) (Z : State) (a0 : Array Value) (own nm : String) (bytes : ByteArray) (maxL : Nat) (rt : Option FieldType) (tabs : List Jvm.Cond) : Prop :=
  p.tables.exec = Jvm.exec ∧ Z.Warmed39 s.vm ∧ (∀ d ∈ tabs, d.before a0 Z = true) ∧ c.code = bytes ∧ c.maxLocals = maxL ∧ s.vm.findClass own = some m.cls ∧ meth.sig.returnType = rt ∧ meth.locks = false ∧ meth.name = nm
def PQ (w : Option Value) (h : Heap) (locs : List Loc) : Option Value → Heap → List Loc → Prop := fun v h' L => v = w ∧ h' = h ∧ L = locs
section GoKit
variable {p : Program} {l : Launch} {e : Env} {R : Room} {s : State} {m : MethodId} {args : Array Value} {below : List Frame} {meth : Method} {c : Code} {T : State} {locs : List Loc} {cells slots : Nat} {Z : State} {a0 : Array Value} {h : Heap} {nc ns : Nat} {Q Q' : Option Value → Heap → List Loc → Prop} {pc pc' : Nat} {Ls Ls' : Array Slot} {St : List Value} {own nm : String} {bytes : ByteArray} {maxL : Nat} {rt : Option FieldType} {tabs : List Jvm.Cond}
theorem Go.step {u u' : State} (st : ∀ t, Steps p.tables e below u' t → Steps p.tables e below u t) (k : Go p e below s nc ns Q u') : Go p e below s nc ns Q u := by
  obtain ⟨s₂, o, h1, h2⟩ := k
  exact ⟨s₂, o, st _ h1, h2⟩
theorem Go.mono {u : State} (q : ∀ v h L, Q v h L → Q' v h L) (k : Go p e below s nc ns Q u) : Go p e below s nc ns Q' u := by
  obtain ⟨s₂, o, h1, h2, h3, v, L, h4, h5, h6⟩ := k
  exact ⟨s₂, o, h1, h2, h3, v, L, h4, q _ _ _ h5, h6⟩
theorem Go.wid {u : State} {nc' ns' : Nat} (q1 : nc ≤ nc') (q2 : ns ≤ ns') (k : Go p e below s nc ns Q u) : Go p e below s nc' ns' Q u := by
  obtain ⟨s₂, o, h1, h2, h3, v, L, h4, h5, h6, h7, h8⟩ := k
  exact ⟨s₂, o, h1, h2, h3, v, L, h4, h5, h6, h7, h8.mono q1 q2⟩
theorem Go.cw {u : State} {w w' : Option Value} (q : w = w') (k : Go p e below s nc ns (PQ w h locs) u) : Go p e below s nc ns (PQ w' h locs) u := q ▸ k
theorem Go.top {g g' : JFrame} (q : g = g') (k : Go p e below s nc ns Q (T.setTop g')) : Go p e below s nc ns Q (T.setTop g) := q ▸ k
theorem Bdy.w (B : Bdy p s m meth c Z a0 own nm bytes maxL rt tabs) {d : Jvm.Cond} (i : Nat) (q : tabs[i]? = some d) : d.before a0 Z = true := B.2.2.1 _ (List.mem_of_getElem? q)
theorem Bdy.d (B : Bdy p s m meth c Z a0 own nm bytes maxL rt tabs) {r : Except ClassFile.DecodeError (ClassFile.Instr × Nat)} (q : decode bytes pc = r) : decode c.code pc = r := hb B.2.2.2.1 q
theorem Bdy.x (B : Bdy p s m meth c Z a0 own nm bytes maxL rt tabs) : p.tables.exec = Jvm.exec := B.1
theorem Bdy.z (B : Bdy p s m meth c Z a0 own nm bytes maxL rt tabs) : Z.Warmed39 s.vm := B.2.1
theorem Bdy.ml (B : Bdy p s m meth c Z a0 own nm bytes maxL rt tabs) : c.maxLocals = maxL := B.2.2.2.2.1
theorem Bdy.o (B : Bdy p s m meth c Z a0 own nm bytes maxL rt tabs) : s.vm.findClass own = some m.cls := B.2.2.2.2.2.1
theorem Bdy.r (B : Bdy p s m meth c Z a0 own nm bytes maxL rt tabs) : meth.sig.returnType = rt := B.2.2.2.2.2.2.1
theorem Bdy.lk (B : Bdy p s m meth c Z a0 own nm bytes maxL rt tabs) : meth.locks = false := B.2.2.2.2.2.2.2.1
theorem Bdy.n (B : Bdy p s m meth c Z a0 own nm bytes maxL rt tabs) : meth.name = nm := B.2.2.2.2.2.2.2.2
theorem g_iloadN (X : Stand p l e R s m args below meth c T locs cells slots) (B : Bdy p s m meth c Z a0 own nm bytes maxL rt tabs) {k : Fin 4} {v : Int32} (hd : decode bytes pc = .ok (.iload_n k, 1)) (hp : pc + 1 = pc') (hl : Ls[k.val]? = some (.val (.int v))) (K : Go p e below s nc ns Q (T.setTop (mkF m pc' Ls (.int v :: St)))) : Go p e below s nc ns Q (T.setTop (mkF m pc Ls St)) := by
  subst hp; exact Go.step (fun t q => XS.iloadN X.here B.x (g := mkF m pc Ls St) rfl (B.d hd) hl q) K
theorem g_iload (X : Stand p l e R s m args below meth c T locs cells slots) (B : Bdy p s m meth c Z a0 own nm bytes maxL rt tabs) {k : Nat} {v : Int32} (hd : decode bytes pc = .ok (.iload k, 2)) (hp : pc + 2 = pc') (hl : Ls[k]? = some (.val (.int v))) (K : Go p e below s nc ns Q (T.setTop (mkF m pc' Ls (.int v :: St)))) : Go p e below s nc ns Q (T.setTop (mkF m pc Ls St)) := by
  subst hp; exact Go.step (fun t q => XS.iload X.here B.x (g := mkF m pc Ls St) rfl (B.d hd) hl q) K
theorem g_lloadN (X : Stand p l e R s m args below meth c T locs cells slots) (B : Bdy p s m meth c Z a0 own nm bytes maxL rt tabs) {k : Fin 4} {v : Int64} (hd : decode bytes pc = .ok (.lload_n k, 1)) (hp : pc + 1 = pc') (hl : Ls[k.val]? = some (.val (.long v))) (K : Go p e below s nc ns Q (T.setTop (mkF m pc' Ls (.long v :: St)))) : Go p e below s nc ns Q (T.setTop (mkF m pc Ls St)) := by
  subst hp; exact Go.step (fun t q => XS.lloadN X.here B.x (g := mkF m pc Ls St) rfl (B.d hd) hl q) K
theorem g_lload (X : Stand p l e R s m args below meth c T locs cells slots) (B : Bdy p s m meth c Z a0 own nm bytes maxL rt tabs) {k : Nat} {v : Int64} (hd : decode bytes pc = .ok (.lload k, 2)) (hp : pc + 2 = pc') (hl : Ls[k]? = some (.val (.long v))) (K : Go p e below s nc ns Q (T.setTop (mkF m pc' Ls (.long v :: St)))) : Go p e below s nc ns Q (T.setTop (mkF m pc Ls St)) := by
  subst hp; exact Go.step (fun t q => XS.lload X.here B.x (g := mkF m pc Ls St) rfl (B.d hd) hl q) K
theorem g_aloadN (X : Stand p l e R s m args below meth c T locs cells slots) (B : Bdy p s m meth c Z a0 own nm bytes maxL rt tabs) {k : Fin 4} {v : Value} (hd : decode bytes pc = .ok (.aload_n k, 1)) (hp : pc + 1 = pc') (hl : Ls[k.val]? = some (.val v)) (hv : v.isRef = true) (K : Go p e below s nc ns Q (T.setTop (mkF m pc' Ls (v :: St)))) : Go p e below s nc ns Q (T.setTop (mkF m pc Ls St)) := by
  subst hp; exact Go.step (fun t q => XS.aloadN X.here B.x (g := mkF m pc Ls St) rfl (B.d hd) hl hv q) K
theorem g_aload (X : Stand p l e R s m args below meth c T locs cells slots) (B : Bdy p s m meth c Z a0 own nm bytes maxL rt tabs) {k : Nat} {v : Value} (hd : decode bytes pc = .ok (.aload k, 2)) (hp : pc + 2 = pc') (hl : Ls[k]? = some (.val v)) (hv : v.isRef = true) (K : Go p e below s nc ns Q (T.setTop (mkF m pc' Ls (v :: St)))) : Go p e below s nc ns Q (T.setTop (mkF m pc Ls St)) := by
  subst hp; exact Go.step (fun t q => XS.aload X.here B.x (g := mkF m pc Ls St) rfl (B.d hd) hl hv q) K
theorem g_istoreN (X : Stand p l e R s m args below meth c T locs cells slots) (B : Bdy p s m meth c Z a0 own nm bytes maxL rt tabs) {k : Fin 4} {v : Int32} (hd : decode bytes pc = .ok (.istore_n k, 1)) (hp : pc + 1 = pc') (hl : storeLocals Ls k.val (.int v) = some Ls') (K : Go p e below s nc ns Q (T.setTop (mkF m pc' Ls' St))) : Go p e below s nc ns Q (T.setTop (mkF m pc Ls (.int v :: St))) := by
  subst hp; exact Go.step (fun t q => XS.istoreN X.here B.x (g := mkF m pc Ls (.int v :: St)) rfl (B.d hd) rfl hl q) K
theorem g_istore (X : Stand p l e R s m args below meth c T locs cells slots) (B : Bdy p s m meth c Z a0 own nm bytes maxL rt tabs) {k : Nat} {v : Int32} (hd : decode bytes pc = .ok (.istore k, 2)) (hp : pc + 2 = pc') (hl : storeLocals Ls k (.int v) = some Ls') (K : Go p e below s nc ns Q (T.setTop (mkF m pc' Ls' St))) : Go p e below s nc ns Q (T.setTop (mkF m pc Ls (.int v :: St))) := by
  subst hp; exact Go.step (fun t q => XS.istore X.here B.x (g := mkF m pc Ls (.int v :: St)) rfl (B.d hd) rfl hl q) K
theorem g_lstoreN (X : Stand p l e R s m args below meth c T locs cells slots) (B : Bdy p s m meth c Z a0 own nm bytes maxL rt tabs) {k : Fin 4} {v : Int64} (hd : decode bytes pc = .ok (.lstore_n k, 1)) (hp : pc + 1 = pc') (hl : storeLocals Ls k.val (.long v) = some Ls') (K : Go p e below s nc ns Q (T.setTop (mkF m pc' Ls' St))) : Go p e below s nc ns Q (T.setTop (mkF m pc Ls (.long v :: St))) := by
  subst hp; exact Go.step (fun t q => XS.lstoreN X.here B.x (g := mkF m pc Ls (.long v :: St)) rfl (B.d hd) rfl hl q) K
theorem g_lstore (X : Stand p l e R s m args below meth c T locs cells slots) (B : Bdy p s m meth c Z a0 own nm bytes maxL rt tabs) {k : Nat} {v : Int64} (hd : decode bytes pc = .ok (.lstore k, 2)) (hp : pc + 2 = pc') (hl : storeLocals Ls k (.long v) = some Ls') (K : Go p e below s nc ns Q (T.setTop (mkF m pc' Ls' St))) : Go p e below s nc ns Q (T.setTop (mkF m pc Ls (.long v :: St))) := by
  subst hp; exact Go.step (fun t q => XS.lstore X.here B.x (g := mkF m pc Ls (.long v :: St)) rfl (B.d hd) rfl hl q) K
theorem g_astoreN (X : Stand p l e R s m args below meth c T locs cells slots) (B : Bdy p s m meth c Z a0 own nm bytes maxL rt tabs) {k : Fin 4} {v : Value} (hd : decode bytes pc = .ok (.astore_n k, 1)) (hp : pc + 1 = pc') (hv : v.isRef = true) (hl : storeLocals Ls k.val v = some Ls') (K : Go p e below s nc ns Q (T.setTop (mkF m pc' Ls' St))) : Go p e below s nc ns Q (T.setTop (mkF m pc Ls (v :: St))) := by
  subst hp; exact Go.step (fun t q => XS.astoreN X.here B.x (g := mkF m pc Ls (v :: St)) rfl (B.d hd) rfl hv hl q) K
theorem g_astore (X : Stand p l e R s m args below meth c T locs cells slots) (B : Bdy p s m meth c Z a0 own nm bytes maxL rt tabs) {k : Nat} {v : Value} (hd : decode bytes pc = .ok (.astore k, 2)) (hp : pc + 2 = pc') (hv : v.isRef = true) (hl : storeLocals Ls k v = some Ls') (K : Go p e below s nc ns Q (T.setTop (mkF m pc' Ls' St))) : Go p e below s nc ns Q (T.setTop (mkF m pc Ls (v :: St))) := by
  subst hp; exact Go.step (fun t q => XS.astore X.here B.x (g := mkF m pc Ls (v :: St)) rfl (B.d hd) rfl hv hl q) K
theorem g_iinc (X : Stand p l e R s m args below meth c T locs cells slots) (B : Bdy p s m meth c Z a0 own nm bytes maxL rt tabs) {k : Nat} {i : Int} {v : Int32} (hd : decode bytes pc = .ok (.iinc k i, 3)) (hp : pc + 3 = pc') (hl : Ls[k]? = some (.val (.int v))) (hs : storeLocals Ls k (.int (v + Int32.ofInt i)) = some Ls') (K : Go p e below s nc ns Q (T.setTop (mkF m pc' Ls' St))) : Go p e below s nc ns Q (T.setTop (mkF m pc Ls St)) := by
  subst hp; exact Go.step (fun t q => XS.iinc X.here B.x (g := mkF m pc Ls St) rfl (B.d hd) hl hs q) K
theorem g_iconst (X : Stand p l e R s m args below meth c T locs cells slots) (B : Bdy p s m meth c Z a0 own nm bytes maxL rt tabs) {i : Int} {v : Int32} (hd : decode bytes pc = .ok (.iconst i, 1)) (hp : pc + 1 = pc') (hv : Int32.ofInt i = v) (K : Go p e below s nc ns Q (T.setTop (mkF m pc' Ls (.int v :: St)))) : Go p e below s nc ns Q (T.setTop (mkF m pc Ls St)) := by
  subst hp hv; exact Go.step (fun t q => XS.iconst X.here B.x (g := mkF m pc Ls St) rfl (B.d hd) q) K
theorem g_bipush (X : Stand p l e R s m args below meth c T locs cells slots) (B : Bdy p s m meth c Z a0 own nm bytes maxL rt tabs) {i : Int} {v : Int32} (hd : decode bytes pc = .ok (.bipush i, 2)) (hp : pc + 2 = pc') (hv : (Int8.ofInt i).toInt32 = v) (K : Go p e below s nc ns Q (T.setTop (mkF m pc' Ls (.int v :: St)))) : Go p e below s nc ns Q (T.setTop (mkF m pc Ls St)) := by
  subst hp hv; exact Go.step (fun t q => XS.bipush X.here B.x (g := mkF m pc Ls St) rfl (B.d hd) q) K
theorem g_sipush (X : Stand p l e R s m args below meth c T locs cells slots) (B : Bdy p s m meth c Z a0 own nm bytes maxL rt tabs) {i : Int} {v : Int32} (hd : decode bytes pc = .ok (.sipush i, 3)) (hp : pc + 3 = pc') (hv : (Int16.ofInt i).toInt32 = v) (K : Go p e below s nc ns Q (T.setTop (mkF m pc' Ls (.int v :: St)))) : Go p e below s nc ns Q (T.setTop (mkF m pc Ls St)) := by
  subst hp hv; exact Go.step (fun t q => XS.sipush X.here B.x (g := mkF m pc Ls St) rfl (B.d hd) q) K
theorem g_lconst (X : Stand p l e R s m args below meth c T locs cells slots) (B : Bdy p s m meth c Z a0 own nm bytes maxL rt tabs) {k : Fin 2} {v : Int64} (hd : decode bytes pc = .ok (.lconst k, 1)) (hp : pc + 1 = pc') (hv : Int64.ofNat k = v) (K : Go p e below s nc ns Q (T.setTop (mkF m pc' Ls (.long v :: St)))) : Go p e below s nc ns Q (T.setTop (mkF m pc Ls St)) := by
  subst hp hv; exact Go.step (fun t q => XS.lconst X.here B.x (g := mkF m pc Ls St) rfl (B.d hd) q) K
theorem g_null (X : Stand p l e R s m args below meth c T locs cells slots) (B : Bdy p s m meth c Z a0 own nm bytes maxL rt tabs) (hd : decode bytes pc = .ok (.aconst_null, 1)) (hp : pc + 1 = pc') (K : Go p e below s nc ns Q (T.setTop (mkF m pc' Ls (.null :: St)))) : Go p e below s nc ns Q (T.setTop (mkF m pc Ls St)) := by
  subst hp; exact Go.step (fun t q => XS.aconstNull X.here B.x (g := mkF m pc Ls St) rfl (B.d hd) q) K
theorem g_ldc (X : Stand p l e R s m args below meth c T locs cells slots) (B : Bdy p s m meth c Z a0 own nm bytes maxL rt tabs) {i : Nat} {v : Int32} (w : (Jvm.Cond.constant own i v).before a0 Z = true) (hd : decode bytes pc = .ok (.ldc i, 2)) (hp : pc + 2 = pc') (K : Go p e below s nc ns Q (T.setTop (mkF m pc' Ls (.int v :: St)))) : Go p e below s nc ns Q (T.setTop (mkF m pc Ls St)) := by
  subst hp; exact Go.step (fun t q => X.ldcInt B.x B.o (mvT B.z w) (g := mkF m pc Ls St) rfl (B.d hd) t q) K
theorem g_ldcw (X : Stand p l e R s m args below meth c T locs cells slots) (B : Bdy p s m meth c Z a0 own nm bytes maxL rt tabs) {i : Nat} {v : Int32} (w : (Jvm.Cond.constant own i v).before a0 Z = true) (hd : decode bytes pc = .ok (.ldc_w i, 3)) (hp : pc + 3 = pc') (K : Go p e below s nc ns Q (T.setTop (mkF m pc' Ls (.int v :: St)))) : Go p e below s nc ns Q (T.setTop (mkF m pc Ls St)) := by
  subst hp; exact Go.step (fun t q => X.ldcwInt B.x B.o (mvT B.z w) (g := mkF m pc Ls St) rfl (B.d hd) t q) K
theorem g_ldc2 (X : Stand p l e R s m args below meth c T locs cells slots) (B : Bdy p s m meth c Z a0 own nm bytes maxL rt tabs) {i : Nat} {v : Int64} (w : (Jvm.Cond.constantLong own i v).before a0 Z = true) (hd : decode bytes pc = .ok (.ldc2_w i, 3)) (hp : pc + 3 = pc') (K : Go p e below s nc ns Q (T.setTop (mkF m pc' Ls (.long v :: St)))) : Go p e below s nc ns Q (T.setTop (mkF m pc Ls St)) := by
  subst hp; exact Go.step (fun t q => X.ldc2Long B.x B.o (mvT B.z w) (g := mkF m pc Ls St) rfl (B.d hd) t q) K
theorem g_iadd (X : Stand p l e R s m args below meth c T locs cells slots) (B : Bdy p s m meth c Z a0 own nm bytes maxL rt tabs) {x y : Int32} (hd : decode bytes pc = .ok (.iadd, 1)) (hp : pc + 1 = pc') (K : Go p e below s nc ns Q (T.setTop (mkF m pc' Ls (.int (x + y) :: St)))) : Go p e below s nc ns Q (T.setTop (mkF m pc Ls (.int y :: .int x :: St))) := by
  subst hp; exact Go.step (fun t q => XS.iadd X.here B.x (g := mkF m pc Ls (.int y :: .int x :: St)) rfl (B.d hd) rfl q) K
theorem g_isub (X : Stand p l e R s m args below meth c T locs cells slots) (B : Bdy p s m meth c Z a0 own nm bytes maxL rt tabs) {x y : Int32} (hd : decode bytes pc = .ok (.isub, 1)) (hp : pc + 1 = pc') (K : Go p e below s nc ns Q (T.setTop (mkF m pc' Ls (.int (x - y) :: St)))) : Go p e below s nc ns Q (T.setTop (mkF m pc Ls (.int y :: .int x :: St))) := by
  subst hp; exact Go.step (fun t q => XS.isub X.here B.x (g := mkF m pc Ls (.int y :: .int x :: St)) rfl (B.d hd) rfl q) K
theorem g_imul (X : Stand p l e R s m args below meth c T locs cells slots) (B : Bdy p s m meth c Z a0 own nm bytes maxL rt tabs) {x y : Int32} (hd : decode bytes pc = .ok (.imul, 1)) (hp : pc + 1 = pc') (K : Go p e below s nc ns Q (T.setTop (mkF m pc' Ls (.int (x * y) :: St)))) : Go p e below s nc ns Q (T.setTop (mkF m pc Ls (.int y :: .int x :: St))) := by
  subst hp; exact Go.step (fun t q => XS.imul X.here B.x (g := mkF m pc Ls (.int y :: .int x :: St)) rfl (B.d hd) rfl q) K
theorem g_iand (X : Stand p l e R s m args below meth c T locs cells slots) (B : Bdy p s m meth c Z a0 own nm bytes maxL rt tabs) {x y : Int32} (hd : decode bytes pc = .ok (.iand, 1)) (hp : pc + 1 = pc') (K : Go p e below s nc ns Q (T.setTop (mkF m pc' Ls (.int (x &&& y) :: St)))) : Go p e below s nc ns Q (T.setTop (mkF m pc Ls (.int y :: .int x :: St))) := by
  subst hp; exact Go.step (fun t q => XS.iand X.here B.x (g := mkF m pc Ls (.int y :: .int x :: St)) rfl (B.d hd) rfl q) K
theorem g_ior (X : Stand p l e R s m args below meth c T locs cells slots) (B : Bdy p s m meth c Z a0 own nm bytes maxL rt tabs) {x y : Int32} (hd : decode bytes pc = .ok (.ior, 1)) (hp : pc + 1 = pc') (K : Go p e below s nc ns Q (T.setTop (mkF m pc' Ls (.int (x ||| y) :: St)))) : Go p e below s nc ns Q (T.setTop (mkF m pc Ls (.int y :: .int x :: St))) := by
  subst hp; exact Go.step (fun t q => XS.ior X.here B.x (g := mkF m pc Ls (.int y :: .int x :: St)) rfl (B.d hd) rfl q) K
theorem g_ixor (X : Stand p l e R s m args below meth c T locs cells slots) (B : Bdy p s m meth c Z a0 own nm bytes maxL rt tabs) {x y : Int32} (hd : decode bytes pc = .ok (.ixor, 1)) (hp : pc + 1 = pc') (K : Go p e below s nc ns Q (T.setTop (mkF m pc' Ls (.int (x ^^^ y) :: St)))) : Go p e below s nc ns Q (T.setTop (mkF m pc Ls (.int y :: .int x :: St))) := by
  subst hp; exact Go.step (fun t q => XS.ixor X.here B.x (g := mkF m pc Ls (.int y :: .int x :: St)) rfl (B.d hd) rfl q) K
theorem g_ishl (X : Stand p l e R s m args below meth c T locs cells slots) (B : Bdy p s m meth c Z a0 own nm bytes maxL rt tabs) {x z : Int32} {y : Int32} (hd : decode bytes pc = .ok (.ishl, 1)) (hp : pc + 1 = pc') (hz : x <<< (y &&& 31) = z) (K : Go p e below s nc ns Q (T.setTop (mkF m pc' Ls (.int z :: St)))) : Go p e below s nc ns Q (T.setTop (mkF m pc Ls (.int y :: .int x :: St))) := by
  subst hp hz; exact Go.step (fun t q => XS.ishl X.here B.x (g := mkF m pc Ls (.int y :: .int x :: St)) rfl (B.d hd) rfl q) K
theorem g_ishr (X : Stand p l e R s m args below meth c T locs cells slots) (B : Bdy p s m meth c Z a0 own nm bytes maxL rt tabs) {x z : Int32} {y : Int32} (hd : decode bytes pc = .ok (.ishr, 1)) (hp : pc + 1 = pc') (hz : x >>> (y &&& 31) = z) (K : Go p e below s nc ns Q (T.setTop (mkF m pc' Ls (.int z :: St)))) : Go p e below s nc ns Q (T.setTop (mkF m pc Ls (.int y :: .int x :: St))) := by
  subst hp hz; exact Go.step (fun t q => XS.ishr X.here B.x (g := mkF m pc Ls (.int y :: .int x :: St)) rfl (B.d hd) rfl q) K
theorem g_iushr (X : Stand p l e R s m args below meth c T locs cells slots) (B : Bdy p s m meth c Z a0 own nm bytes maxL rt tabs) {x z : Int32} {y : Int32} (hd : decode bytes pc = .ok (.iushr, 1)) (hp : pc + 1 = pc') (hz : (x.toUInt32 >>> (y &&& 31).toUInt32).toInt32 = z) (K : Go p e below s nc ns Q (T.setTop (mkF m pc' Ls (.int z :: St)))) : Go p e below s nc ns Q (T.setTop (mkF m pc Ls (.int y :: .int x :: St))) := by
  subst hp hz; exact Go.step (fun t q => XS.iushr X.here B.x (g := mkF m pc Ls (.int y :: .int x :: St)) rfl (B.d hd) rfl q) K
theorem g_ladd (X : Stand p l e R s m args below meth c T locs cells slots) (B : Bdy p s m meth c Z a0 own nm bytes maxL rt tabs) {x y : Int64} (hd : decode bytes pc = .ok (.ladd, 1)) (hp : pc + 1 = pc') (K : Go p e below s nc ns Q (T.setTop (mkF m pc' Ls (.long (x + y) :: St)))) : Go p e below s nc ns Q (T.setTop (mkF m pc Ls (.long y :: .long x :: St))) := by
  subst hp; exact Go.step (fun t q => XS.ladd X.here B.x (g := mkF m pc Ls (.long y :: .long x :: St)) rfl (B.d hd) rfl q) K
theorem g_lsub (X : Stand p l e R s m args below meth c T locs cells slots) (B : Bdy p s m meth c Z a0 own nm bytes maxL rt tabs) {x y : Int64} (hd : decode bytes pc = .ok (.lsub, 1)) (hp : pc + 1 = pc') (K : Go p e below s nc ns Q (T.setTop (mkF m pc' Ls (.long (x - y) :: St)))) : Go p e below s nc ns Q (T.setTop (mkF m pc Ls (.long y :: .long x :: St))) := by
  subst hp; exact Go.step (fun t q => XS.lsub X.here B.x (g := mkF m pc Ls (.long y :: .long x :: St)) rfl (B.d hd) rfl q) K
theorem g_lmul (X : Stand p l e R s m args below meth c T locs cells slots) (B : Bdy p s m meth c Z a0 own nm bytes maxL rt tabs) {x y : Int64} (hd : decode bytes pc = .ok (.lmul, 1)) (hp : pc + 1 = pc') (K : Go p e below s nc ns Q (T.setTop (mkF m pc' Ls (.long (x * y) :: St)))) : Go p e below s nc ns Q (T.setTop (mkF m pc Ls (.long y :: .long x :: St))) := by
  subst hp; exact Go.step (fun t q => XS.lmul X.here B.x (g := mkF m pc Ls (.long y :: .long x :: St)) rfl (B.d hd) rfl q) K
theorem g_land (X : Stand p l e R s m args below meth c T locs cells slots) (B : Bdy p s m meth c Z a0 own nm bytes maxL rt tabs) {x y : Int64} (hd : decode bytes pc = .ok (.land, 1)) (hp : pc + 1 = pc') (K : Go p e below s nc ns Q (T.setTop (mkF m pc' Ls (.long (x &&& y) :: St)))) : Go p e below s nc ns Q (T.setTop (mkF m pc Ls (.long y :: .long x :: St))) := by
  subst hp; exact Go.step (fun t q => XS.land X.here B.x (g := mkF m pc Ls (.long y :: .long x :: St)) rfl (B.d hd) rfl q) K
theorem g_lor (X : Stand p l e R s m args below meth c T locs cells slots) (B : Bdy p s m meth c Z a0 own nm bytes maxL rt tabs) {x y : Int64} (hd : decode bytes pc = .ok (.lor, 1)) (hp : pc + 1 = pc') (K : Go p e below s nc ns Q (T.setTop (mkF m pc' Ls (.long (x ||| y) :: St)))) : Go p e below s nc ns Q (T.setTop (mkF m pc Ls (.long y :: .long x :: St))) := by
  subst hp; exact Go.step (fun t q => XS.lor X.here B.x (g := mkF m pc Ls (.long y :: .long x :: St)) rfl (B.d hd) rfl q) K
theorem g_lxor (X : Stand p l e R s m args below meth c T locs cells slots) (B : Bdy p s m meth c Z a0 own nm bytes maxL rt tabs) {x y : Int64} (hd : decode bytes pc = .ok (.lxor, 1)) (hp : pc + 1 = pc') (K : Go p e below s nc ns Q (T.setTop (mkF m pc' Ls (.long (x ^^^ y) :: St)))) : Go p e below s nc ns Q (T.setTop (mkF m pc Ls (.long y :: .long x :: St))) := by
  subst hp; exact Go.step (fun t q => XS.lxor X.here B.x (g := mkF m pc Ls (.long y :: .long x :: St)) rfl (B.d hd) rfl q) K
theorem g_lshl (X : Stand p l e R s m args below meth c T locs cells slots) (B : Bdy p s m meth c Z a0 own nm bytes maxL rt tabs) {x z : Int64} {y : Int32} (hd : decode bytes pc = .ok (.lshl, 1)) (hp : pc + 1 = pc') (hz : x <<< (y &&& 63).toInt64 = z) (K : Go p e below s nc ns Q (T.setTop (mkF m pc' Ls (.long z :: St)))) : Go p e below s nc ns Q (T.setTop (mkF m pc Ls (.int y :: .long x :: St))) := by
  subst hp hz; exact Go.step (fun t q => XS.lshl X.here B.x (g := mkF m pc Ls (.int y :: .long x :: St)) rfl (B.d hd) rfl q) K
theorem g_lshr (X : Stand p l e R s m args below meth c T locs cells slots) (B : Bdy p s m meth c Z a0 own nm bytes maxL rt tabs) {x z : Int64} {y : Int32} (hd : decode bytes pc = .ok (.lshr, 1)) (hp : pc + 1 = pc') (hz : x >>> (y &&& 63).toInt64 = z) (K : Go p e below s nc ns Q (T.setTop (mkF m pc' Ls (.long z :: St)))) : Go p e below s nc ns Q (T.setTop (mkF m pc Ls (.int y :: .long x :: St))) := by
  subst hp hz; exact Go.step (fun t q => XS.lshr X.here B.x (g := mkF m pc Ls (.int y :: .long x :: St)) rfl (B.d hd) rfl q) K
theorem g_lushr (X : Stand p l e R s m args below meth c T locs cells slots) (B : Bdy p s m meth c Z a0 own nm bytes maxL rt tabs) {x z : Int64} {y : Int32} (hd : decode bytes pc = .ok (.lushr, 1)) (hp : pc + 1 = pc') (hz : (x.toUInt64 >>> (y &&& 63).toInt64.toUInt64).toInt64 = z) (K : Go p e below s nc ns Q (T.setTop (mkF m pc' Ls (.long z :: St)))) : Go p e below s nc ns Q (T.setTop (mkF m pc Ls (.int y :: .long x :: St))) := by
  subst hp hz; exact Go.step (fun t q => XS.lushr X.here B.x (g := mkF m pc Ls (.int y :: .long x :: St)) rfl (B.d hd) rfl q) K
theorem g_ineg (X : Stand p l e R s m args below meth c T locs cells slots) (B : Bdy p s m meth c Z a0 own nm bytes maxL rt tabs) {x : Int32} (hd : decode bytes pc = .ok (.ineg, 1)) (hp : pc + 1 = pc') (K : Go p e below s nc ns Q (T.setTop (mkF m pc' Ls (.int ((-x)) :: St)))) : Go p e below s nc ns Q (T.setTop (mkF m pc Ls (.int x :: St))) := by
  subst hp; exact Go.step (fun t q => XS.ineg X.here B.x (g := mkF m pc Ls (.int x :: St)) rfl (B.d hd) rfl q) K
theorem g_lneg (X : Stand p l e R s m args below meth c T locs cells slots) (B : Bdy p s m meth c Z a0 own nm bytes maxL rt tabs) {x : Int64} (hd : decode bytes pc = .ok (.lneg, 1)) (hp : pc + 1 = pc') (K : Go p e below s nc ns Q (T.setTop (mkF m pc' Ls (.long ((-x)) :: St)))) : Go p e below s nc ns Q (T.setTop (mkF m pc Ls (.long x :: St))) := by
  subst hp; exact Go.step (fun t q => XS.lneg X.here B.x (g := mkF m pc Ls (.long x :: St)) rfl (B.d hd) rfl q) K
theorem g_i2l (X : Stand p l e R s m args below meth c T locs cells slots) (B : Bdy p s m meth c Z a0 own nm bytes maxL rt tabs) {x : Int32} (hd : decode bytes pc = .ok (.i2l, 1)) (hp : pc + 1 = pc') (K : Go p e below s nc ns Q (T.setTop (mkF m pc' Ls (.long (x.toInt64) :: St)))) : Go p e below s nc ns Q (T.setTop (mkF m pc Ls (.int x :: St))) := by
  subst hp; exact Go.step (fun t q => XS.i2l X.here B.x (g := mkF m pc Ls (.int x :: St)) rfl (B.d hd) rfl q) K
theorem g_l2i (X : Stand p l e R s m args below meth c T locs cells slots) (B : Bdy p s m meth c Z a0 own nm bytes maxL rt tabs) {x : Int64} (hd : decode bytes pc = .ok (.l2i, 1)) (hp : pc + 1 = pc') (K : Go p e below s nc ns Q (T.setTop (mkF m pc' Ls (.int (x.toInt32) :: St)))) : Go p e below s nc ns Q (T.setTop (mkF m pc Ls (.long x :: St))) := by
  subst hp; exact Go.step (fun t q => XS.l2i X.here B.x (g := mkF m pc Ls (.long x :: St)) rfl (B.d hd) rfl q) K
theorem g_i2b (X : Stand p l e R s m args below meth c T locs cells slots) (B : Bdy p s m meth c Z a0 own nm bytes maxL rt tabs) {x : Int32} (hd : decode bytes pc = .ok (.i2b, 1)) (hp : pc + 1 = pc') (K : Go p e below s nc ns Q (T.setTop (mkF m pc' Ls (.int (x.toInt8.toInt32) :: St)))) : Go p e below s nc ns Q (T.setTop (mkF m pc Ls (.int x :: St))) := by
  subst hp; exact Go.step (fun t q => XS.i2b X.here B.x (g := mkF m pc Ls (.int x :: St)) rfl (B.d hd) rfl q) K
theorem g_i2s (X : Stand p l e R s m args below meth c T locs cells slots) (B : Bdy p s m meth c Z a0 own nm bytes maxL rt tabs) {x : Int32} (hd : decode bytes pc = .ok (.i2s, 1)) (hp : pc + 1 = pc') (K : Go p e below s nc ns Q (T.setTop (mkF m pc' Ls (.int (x.toInt16.toInt32) :: St)))) : Go p e below s nc ns Q (T.setTop (mkF m pc Ls (.int x :: St))) := by
  subst hp; exact Go.step (fun t q => XS.i2s X.here B.x (g := mkF m pc Ls (.int x :: St)) rfl (B.d hd) rfl q) K
theorem g_i2c (X : Stand p l e R s m args below meth c T locs cells slots) (B : Bdy p s m meth c Z a0 own nm bytes maxL rt tabs) {x : Int32} (hd : decode bytes pc = .ok (.i2c, 1)) (hp : pc + 1 = pc') (K : Go p e below s nc ns Q (T.setTop (mkF m pc' Ls (.int (x.toUInt32.toUInt16.toUInt32.toInt32) :: St)))) : Go p e below s nc ns Q (T.setTop (mkF m pc Ls (.int x :: St))) := by
  subst hp; exact Go.step (fun t q => XS.i2c X.here B.x (g := mkF m pc Ls (.int x :: St)) rfl (B.d hd) rfl q) K
theorem g_irem (X : Stand p l e R s m args below meth c T locs cells slots) (B : Bdy p s m meth c Z a0 own nm bytes maxL rt tabs) {x y : Int32} (hy : y ≠ 0) (hd : decode bytes pc = .ok (.irem, 1)) (hp : pc + 1 = pc') (K : Go p e below s nc ns Q (T.setTop (mkF m pc' Ls (.int (x % y) :: St)))) : Go p e below s nc ns Q (T.setTop (mkF m pc Ls (.int y :: .int x :: St))) := by
  subst hp; exact Go.step (fun t q => Jvm.RoadKit.iremM X B.x (g := mkF m pc Ls (.int y :: .int x :: St)) rfl (B.d hd) rfl hy q) K
theorem g_idiv (X : Stand p l e R s m args below meth c T locs cells slots) (B : Bdy p s m meth c Z a0 own nm bytes maxL rt tabs) {x y : Int32} (hy : y ≠ 0) (hd : decode bytes pc = .ok (.idiv, 1)) (hp : pc + 1 = pc') (K : Go p e below s nc ns Q (T.setTop (mkF m pc' Ls (.int (x / y) :: St)))) : Go p e below s nc ns Q (T.setTop (mkF m pc Ls (.int y :: .int x :: St))) := by
  subst hp; exact Go.step (fun t q => XS.idiv X.here B.x (g := mkF m pc Ls (.int y :: .int x :: St)) rfl (B.d hd) rfl hy q) K
theorem g_ldiv (X : Stand p l e R s m args below meth c T locs cells slots) (B : Bdy p s m meth c Z a0 own nm bytes maxL rt tabs) {x y : Int64} (hy : y ≠ 0) (hd : decode bytes pc = .ok (.ldiv, 1)) (hp : pc + 1 = pc') (K : Go p e below s nc ns Q (T.setTop (mkF m pc' Ls (.long (x / y) :: St)))) : Go p e below s nc ns Q (T.setTop (mkF m pc Ls (.long y :: .long x :: St))) := by
  subst hp; exact Go.step (fun t q => XS.ldiv X.here B.x (g := mkF m pc Ls (.long y :: .long x :: St)) rfl (B.d hd) rfl hy q) K
theorem g_lrem (X : Stand p l e R s m args below meth c T locs cells slots) (B : Bdy p s m meth c Z a0 own nm bytes maxL rt tabs) {x y : Int64} (hy : y ≠ 0) (hd : decode bytes pc = .ok (.lrem, 1)) (hp : pc + 1 = pc') (K : Go p e below s nc ns Q (T.setTop (mkF m pc' Ls (.long (x % y) :: St)))) : Go p e below s nc ns Q (T.setTop (mkF m pc Ls (.long y :: .long x :: St))) := by
  subst hp; rw [← lrem_mod] at K; exact Go.step (fun t q => XS.lrem X.here B.x (g := mkF m pc Ls (.long y :: .long x :: St)) rfl (B.d hd) rfl hy q) K
theorem g_dup (X : Stand p l e R s m args below meth c T locs cells slots) (B : Bdy p s m meth c Z a0 own nm bytes maxL rt tabs) {v : Value} (hd : decode bytes pc = .ok (.dup, 1)) (hp : pc + 1 = pc') (hv : v.category = 1) (K : Go p e below s nc ns Q (T.setTop (mkF m pc' Ls (v :: v :: St)))) : Go p e below s nc ns Q (T.setTop (mkF m pc Ls (v :: St))) := by
  subst hp; exact Go.step (fun t q => XS.dup X.here B.x (g := mkF m pc Ls (v :: St)) rfl (B.d hd) rfl hv q) K
theorem g_dupX1 (X : Stand p l e R s m args below meth c T locs cells slots) (B : Bdy p s m meth c Z a0 own nm bytes maxL rt tabs) {v w : Value} (hd : decode bytes pc = .ok (.dup_x1, 1)) (hp : pc + 1 = pc') (hv : v.category = 1) (hw : w.category = 1) (K : Go p e below s nc ns Q (T.setTop (mkF m pc' Ls (v :: w :: v :: St)))) : Go p e below s nc ns Q (T.setTop (mkF m pc Ls (v :: w :: St))) := by
  subst hp; exact Go.step (fun t q => XS.dupX1 X.here B.x (g := mkF m pc Ls (v :: w :: St)) rfl (B.d hd) rfl hv hw q) K
theorem g_dup2 (X : Stand p l e R s m args below meth c T locs cells slots) (B : Bdy p s m meth c Z a0 own nm bytes maxL rt tabs) {v w : Value} (hd : decode bytes pc = .ok (.dup2, 1)) (hp : pc + 1 = pc') (hv : v.category = 1) (hw : w.category = 1) (K : Go p e below s nc ns Q (T.setTop (mkF m pc' Ls (v :: w :: v :: w :: St)))) : Go p e below s nc ns Q (T.setTop (mkF m pc Ls (v :: w :: St))) := by
  subst hp; have hd' := B.d hd; have hx := B.x
  refine Go.step (fun t q => ?_) K
  jvm_step X.here [X.here.top, hx, hd', hv, hw]
  exact q
theorem g_dup2L (X : Stand p l e R s m args below meth c T locs cells slots) (B : Bdy p s m meth c Z a0 own nm bytes maxL rt tabs) {v : Int64} (hd : decode bytes pc = .ok (.dup2, 1)) (hp : pc + 1 = pc') (K : Go p e below s nc ns Q (T.setTop (mkF m pc' Ls (.long v :: .long v :: St)))) : Go p e below s nc ns Q (T.setTop (mkF m pc Ls (.long v :: St))) := by
  subst hp; have hd' := B.d hd; have hx := B.x
  refine Go.step (fun t q => ?_) K
  jvm_step X.here [X.here.top, hx, hd', Value.category]
  exact q
theorem g_pop (X : Stand p l e R s m args below meth c T locs cells slots) (B : Bdy p s m meth c Z a0 own nm bytes maxL rt tabs) {v : Value} (hd : decode bytes pc = .ok (.pop, 1)) (hp : pc + 1 = pc') (hv : v.category = 1) (K : Go p e below s nc ns Q (T.setTop (mkF m pc' Ls St))) : Go p e below s nc ns Q (T.setTop (mkF m pc Ls (v :: St))) := by
  subst hp; exact Go.step (fun t q => XS.pop X.here B.x (g := mkF m pc Ls (v :: St)) rfl (B.d hd) rfl hv q) K
theorem g_goto (X : Stand p l e R s m args below meth c T locs cells slots) (B : Bdy p s m meth c Z a0 own nm bytes maxL rt tabs) {o : Int} (hd : decode bytes pc = .ok (.goto o, 3)) (ho : 0 ≤ (pc : Int) + o) (hp : ((pc : Int) + o).toNat = pc') (K : Go p e below s nc ns Q (T.setTop (mkF m pc' Ls St))) : Go p e below s nc ns Q (T.setTop (mkF m pc Ls St)) :=
  Go.step (fun t q => XS.goto X.here B.x (g := mkF m pc Ls St) rfl rfl (B.d hd) ho hp q) K
/-! branches: K1 where the comparison holds, K2 where it doesn't -/
theorem g_icmp_lt (X : Stand p l e R s m args below meth c T locs cells slots) (B : Bdy p s m meth c Z a0 own nm bytes maxL rt tabs) {x y : Int32} {o : Int} {pcT pcF : Nat} (hd : decode bytes pc = .ok (.if_icmp .lt o, 3)) (ho : 0 ≤ (pc : Int) + o) (hT : ((pc : Int) + o).toNat = pcT) (hF : pc + 3 = pcF) (K1 : x < y → Go p e below s nc ns Q (T.setTop (mkF m pcT Ls St))) (K2 : ¬ x < y → Go p e below s nc ns Q (T.setTop (mkF m pcF Ls St))) : Go p e below s nc ns Q (T.setTop (mkF m pc Ls (.int y :: .int x :: St))) := by
  by_cases q : x < y
  · exact Go.step (fun t k => XS.icmpYes X.here B.x (g := mkF m pc Ls (.int y :: .int x :: St)) rfl rfl (B.d hd) rfl (tlt q).1 ho hT k) (K1 q)
  · subst hF; exact Go.step (fun t k => XS.icmpNo X.here B.x (g := mkF m pc Ls (.int y :: .int x :: St)) rfl (B.d hd) rfl (flt q).1 k) (K2 q)
theorem g_if_lt (X : Stand p l e R s m args below meth c T locs cells slots) (B : Bdy p s m meth c Z a0 own nm bytes maxL rt tabs) {x : Int32} {o : Int} {pcT pcF : Nat} (hd : decode bytes pc = .ok (.ifCond .lt o, 3)) (ho : 0 ≤ (pc : Int) + o) (hT : ((pc : Int) + o).toNat = pcT) (hF : pc + 3 = pcF) (K1 : x < (0 : Int32) → Go p e below s nc ns Q (T.setTop (mkF m pcT Ls St))) (K2 : ¬ x < (0 : Int32) → Go p e below s nc ns Q (T.setTop (mkF m pcF Ls St))) : Go p e below s nc ns Q (T.setTop (mkF m pc Ls (.int x :: St))) := by
  by_cases q : x < (0 : Int32)
  · exact Go.step (fun t k => XS.ifYes X.here B.x (g := mkF m pc Ls (.int x :: St)) rfl rfl (B.d hd) rfl ((if0 _ _).trans (tlt q).1) ho hT k) (K1 q)
  · subst hF; exact Go.step (fun t k => XS.ifNo X.here B.x (g := mkF m pc Ls (.int x :: St)) rfl (B.d hd) rfl ((if0 _ _).trans (flt q).1) k) (K2 q)
theorem g_lcmp_lt (X : Stand p l e R s m args below meth c T locs cells slots) (B : Bdy p s m meth c Z a0 own nm bytes maxL rt tabs) {x y : Int64} {o : Int} {pcT pcF : Nat} (hd1 : decode bytes pc = .ok (.lcmp, 1)) (hd : decode bytes (pc + 1) = .ok (.ifCond .lt o, 3)) (ho : 0 ≤ ((pc + 1 : Nat) : Int) + o) (hT : (((pc + 1 : Nat) : Int) + o).toNat = pcT) (hF : pc + 4 = pcF) (K1 : x < y → Go p e below s nc ns Q (T.setTop (mkF m pcT Ls St))) (K2 : ¬ x < y → Go p e below s nc ns Q (T.setTop (mkF m pcF Ls St))) : Go p e below s nc ns Q (T.setTop (mkF m pc Ls (.long y :: .long x :: St))) :=
  Go.step (fun t q => XS.lcmp X.here B.x (g := mkF m pc Ls (.long y :: .long x :: St)) rfl (B.d hd1) rfl q) (g_if_lt X B hd ho hT hF (fun q => K1 ((lw_lt x y).mp q)) (fun q => K2 fun z => q ((lw_lt x y).mpr z)))
theorem g_icmp_ge (X : Stand p l e R s m args below meth c T locs cells slots) (B : Bdy p s m meth c Z a0 own nm bytes maxL rt tabs) {x y : Int32} {o : Int} {pcT pcF : Nat} (hd : decode bytes pc = .ok (.if_icmp .ge o, 3)) (ho : 0 ≤ (pc : Int) + o) (hT : ((pc : Int) + o).toNat = pcT) (hF : pc + 3 = pcF) (K1 : x < y → Go p e below s nc ns Q (T.setTop (mkF m pcF Ls St))) (K2 : ¬ x < y → Go p e below s nc ns Q (T.setTop (mkF m pcT Ls St))) : Go p e below s nc ns Q (T.setTop (mkF m pc Ls (.int y :: .int x :: St))) := by
  by_cases q : x < y
  · subst hF; exact Go.step (fun t k => XS.icmpNo X.here B.x (g := mkF m pc Ls (.int y :: .int x :: St)) rfl (B.d hd) rfl (tlt q).2.1 k) (K1 q)
  · exact Go.step (fun t k => XS.icmpYes X.here B.x (g := mkF m pc Ls (.int y :: .int x :: St)) rfl rfl (B.d hd) rfl (flt q).2.1 ho hT k) (K2 q)
theorem g_if_ge (X : Stand p l e R s m args below meth c T locs cells slots) (B : Bdy p s m meth c Z a0 own nm bytes maxL rt tabs) {x : Int32} {o : Int} {pcT pcF : Nat} (hd : decode bytes pc = .ok (.ifCond .ge o, 3)) (ho : 0 ≤ (pc : Int) + o) (hT : ((pc : Int) + o).toNat = pcT) (hF : pc + 3 = pcF) (K1 : x < (0 : Int32) → Go p e below s nc ns Q (T.setTop (mkF m pcF Ls St))) (K2 : ¬ x < (0 : Int32) → Go p e below s nc ns Q (T.setTop (mkF m pcT Ls St))) : Go p e below s nc ns Q (T.setTop (mkF m pc Ls (.int x :: St))) := by
  by_cases q : x < (0 : Int32)
  · subst hF; exact Go.step (fun t k => XS.ifNo X.here B.x (g := mkF m pc Ls (.int x :: St)) rfl (B.d hd) rfl ((if0 _ _).trans (tlt q).2.1) k) (K1 q)
  · exact Go.step (fun t k => XS.ifYes X.here B.x (g := mkF m pc Ls (.int x :: St)) rfl rfl (B.d hd) rfl ((if0 _ _).trans (flt q).2.1) ho hT k) (K2 q)
theorem g_lcmp_ge (X : Stand p l e R s m args below meth c T locs cells slots) (B : Bdy p s m meth c Z a0 own nm bytes maxL rt tabs) {x y : Int64} {o : Int} {pcT pcF : Nat} (hd1 : decode bytes pc = .ok (.lcmp, 1)) (hd : decode bytes (pc + 1) = .ok (.ifCond .ge o, 3)) (ho : 0 ≤ ((pc + 1 : Nat) : Int) + o) (hT : (((pc + 1 : Nat) : Int) + o).toNat = pcT) (hF : pc + 4 = pcF) (K1 : x < y → Go p e below s nc ns Q (T.setTop (mkF m pcF Ls St))) (K2 : ¬ x < y → Go p e below s nc ns Q (T.setTop (mkF m pcT Ls St))) : Go p e below s nc ns Q (T.setTop (mkF m pc Ls (.long y :: .long x :: St))) :=
  Go.step (fun t q => XS.lcmp X.here B.x (g := mkF m pc Ls (.long y :: .long x :: St)) rfl (B.d hd1) rfl q) (g_if_ge X B hd ho hT hF (fun q => K1 ((lw_lt x y).mp q)) (fun q => K2 fun z => q ((lw_lt x y).mpr z)))
theorem g_icmp_gt (X : Stand p l e R s m args below meth c T locs cells slots) (B : Bdy p s m meth c Z a0 own nm bytes maxL rt tabs) {x y : Int32} {o : Int} {pcT pcF : Nat} (hd : decode bytes pc = .ok (.if_icmp .gt o, 3)) (ho : 0 ≤ (pc : Int) + o) (hT : ((pc : Int) + o).toNat = pcT) (hF : pc + 3 = pcF) (K1 : y < x → Go p e below s nc ns Q (T.setTop (mkF m pcT Ls St))) (K2 : ¬ y < x → Go p e below s nc ns Q (T.setTop (mkF m pcF Ls St))) : Go p e below s nc ns Q (T.setTop (mkF m pc Ls (.int y :: .int x :: St))) := by
  by_cases q : y < x
  · exact Go.step (fun t k => XS.icmpYes X.here B.x (g := mkF m pc Ls (.int y :: .int x :: St)) rfl rfl (B.d hd) rfl (tlt q).2.2.1 ho hT k) (K1 q)
  · subst hF; exact Go.step (fun t k => XS.icmpNo X.here B.x (g := mkF m pc Ls (.int y :: .int x :: St)) rfl (B.d hd) rfl (flt q).2.2.1 k) (K2 q)
theorem g_if_gt (X : Stand p l e R s m args below meth c T locs cells slots) (B : Bdy p s m meth c Z a0 own nm bytes maxL rt tabs) {x : Int32} {o : Int} {pcT pcF : Nat} (hd : decode bytes pc = .ok (.ifCond .gt o, 3)) (ho : 0 ≤ (pc : Int) + o) (hT : ((pc : Int) + o).toNat = pcT) (hF : pc + 3 = pcF) (K1 : (0 : Int32) < x → Go p e below s nc ns Q (T.setTop (mkF m pcT Ls St))) (K2 : ¬ (0 : Int32) < x → Go p e below s nc ns Q (T.setTop (mkF m pcF Ls St))) : Go p e below s nc ns Q (T.setTop (mkF m pc Ls (.int x :: St))) := by
  by_cases q : (0 : Int32) < x
  · exact Go.step (fun t k => XS.ifYes X.here B.x (g := mkF m pc Ls (.int x :: St)) rfl rfl (B.d hd) rfl ((if0 _ _).trans (tlt q).2.2.1) ho hT k) (K1 q)
  · subst hF; exact Go.step (fun t k => XS.ifNo X.here B.x (g := mkF m pc Ls (.int x :: St)) rfl (B.d hd) rfl ((if0 _ _).trans (flt q).2.2.1) k) (K2 q)
theorem g_lcmp_gt (X : Stand p l e R s m args below meth c T locs cells slots) (B : Bdy p s m meth c Z a0 own nm bytes maxL rt tabs) {x y : Int64} {o : Int} {pcT pcF : Nat} (hd1 : decode bytes pc = .ok (.lcmp, 1)) (hd : decode bytes (pc + 1) = .ok (.ifCond .gt o, 3)) (ho : 0 ≤ ((pc + 1 : Nat) : Int) + o) (hT : (((pc + 1 : Nat) : Int) + o).toNat = pcT) (hF : pc + 4 = pcF) (K1 : y < x → Go p e below s nc ns Q (T.setTop (mkF m pcT Ls St))) (K2 : ¬ y < x → Go p e below s nc ns Q (T.setTop (mkF m pcF Ls St))) : Go p e below s nc ns Q (T.setTop (mkF m pc Ls (.long y :: .long x :: St))) :=
  Go.step (fun t q => XS.lcmp X.here B.x (g := mkF m pc Ls (.long y :: .long x :: St)) rfl (B.d hd1) rfl q) (g_if_gt X B hd ho hT hF (fun q => K1 ((lw_gt x y).mp q)) (fun q => K2 fun z => q ((lw_gt x y).mpr z)))
theorem g_icmp_le (X : Stand p l e R s m args below meth c T locs cells slots) (B : Bdy p s m meth c Z a0 own nm bytes maxL rt tabs) {x y : Int32} {o : Int} {pcT pcF : Nat} (hd : decode bytes pc = .ok (.if_icmp .le o, 3)) (ho : 0 ≤ (pc : Int) + o) (hT : ((pc : Int) + o).toNat = pcT) (hF : pc + 3 = pcF) (K1 : y < x → Go p e below s nc ns Q (T.setTop (mkF m pcF Ls St))) (K2 : ¬ y < x → Go p e below s nc ns Q (T.setTop (mkF m pcT Ls St))) : Go p e below s nc ns Q (T.setTop (mkF m pc Ls (.int y :: .int x :: St))) := by
  by_cases q : y < x
  · subst hF; exact Go.step (fun t k => XS.icmpNo X.here B.x (g := mkF m pc Ls (.int y :: .int x :: St)) rfl (B.d hd) rfl (tlt q).2.2.2 k) (K1 q)
  · exact Go.step (fun t k => XS.icmpYes X.here B.x (g := mkF m pc Ls (.int y :: .int x :: St)) rfl rfl (B.d hd) rfl (flt q).2.2.2 ho hT k) (K2 q)
theorem g_if_le (X : Stand p l e R s m args below meth c T locs cells slots) (B : Bdy p s m meth c Z a0 own nm bytes maxL rt tabs) {x : Int32} {o : Int} {pcT pcF : Nat} (hd : decode bytes pc = .ok (.ifCond .le o, 3)) (ho : 0 ≤ (pc : Int) + o) (hT : ((pc : Int) + o).toNat = pcT) (hF : pc + 3 = pcF) (K1 : (0 : Int32) < x → Go p e below s nc ns Q (T.setTop (mkF m pcF Ls St))) (K2 : ¬ (0 : Int32) < x → Go p e below s nc ns Q (T.setTop (mkF m pcT Ls St))) : Go p e below s nc ns Q (T.setTop (mkF m pc Ls (.int x :: St))) := by
  by_cases q : (0 : Int32) < x
  · subst hF; exact Go.step (fun t k => XS.ifNo X.here B.x (g := mkF m pc Ls (.int x :: St)) rfl (B.d hd) rfl ((if0 _ _).trans (tlt q).2.2.2) k) (K1 q)
  · exact Go.step (fun t k => XS.ifYes X.here B.x (g := mkF m pc Ls (.int x :: St)) rfl rfl (B.d hd) rfl ((if0 _ _).trans (flt q).2.2.2) ho hT k) (K2 q)
theorem g_lcmp_le (X : Stand p l e R s m args below meth c T locs cells slots) (B : Bdy p s m meth c Z a0 own nm bytes maxL rt tabs) {x y : Int64} {o : Int} {pcT pcF : Nat} (hd1 : decode bytes pc = .ok (.lcmp, 1)) (hd : decode bytes (pc + 1) = .ok (.ifCond .le o, 3)) (ho : 0 ≤ ((pc + 1 : Nat) : Int) + o) (hT : (((pc + 1 : Nat) : Int) + o).toNat = pcT) (hF : pc + 4 = pcF) (K1 : y < x → Go p e below s nc ns Q (T.setTop (mkF m pcF Ls St))) (K2 : ¬ y < x → Go p e below s nc ns Q (T.setTop (mkF m pcT Ls St))) : Go p e below s nc ns Q (T.setTop (mkF m pc Ls (.long y :: .long x :: St))) :=
  Go.step (fun t q => XS.lcmp X.here B.x (g := mkF m pc Ls (.long y :: .long x :: St)) rfl (B.d hd1) rfl q) (g_if_le X B hd ho hT hF (fun q => K1 ((lw_gt x y).mp q)) (fun q => K2 fun z => q ((lw_gt x y).mpr z)))
theorem g_icmp_eq (X : Stand p l e R s m args below meth c T locs cells slots) (B : Bdy p s m meth c Z a0 own nm bytes maxL rt tabs) {x y : Int32} {o : Int} {pcT pcF : Nat} (hd : decode bytes pc = .ok (.if_icmp .eq o, 3)) (ho : 0 ≤ (pc : Int) + o) (hT : ((pc : Int) + o).toNat = pcT) (hF : pc + 3 = pcF) (K1 : x = y → Go p e below s nc ns Q (T.setTop (mkF m pcT Ls St))) (K2 : ¬ x = y → Go p e below s nc ns Q (T.setTop (mkF m pcF Ls St))) : Go p e below s nc ns Q (T.setTop (mkF m pc Ls (.int y :: .int x :: St))) := by
  by_cases q : x = y
  · exact Go.step (fun t k => XS.icmpYes X.here B.x (g := mkF m pc Ls (.int y :: .int x :: St)) rfl rfl (B.d hd) rfl (teq q).1 ho hT k) (K1 q)
  · subst hF; exact Go.step (fun t k => XS.icmpNo X.here B.x (g := mkF m pc Ls (.int y :: .int x :: St)) rfl (B.d hd) rfl (feq q).1 k) (K2 q)
theorem g_if_eq (X : Stand p l e R s m args below meth c T locs cells slots) (B : Bdy p s m meth c Z a0 own nm bytes maxL rt tabs) {x : Int32} {o : Int} {pcT pcF : Nat} (hd : decode bytes pc = .ok (.ifCond .eq o, 3)) (ho : 0 ≤ (pc : Int) + o) (hT : ((pc : Int) + o).toNat = pcT) (hF : pc + 3 = pcF) (K1 : x = (0 : Int32) → Go p e below s nc ns Q (T.setTop (mkF m pcT Ls St))) (K2 : ¬ x = (0 : Int32) → Go p e below s nc ns Q (T.setTop (mkF m pcF Ls St))) : Go p e below s nc ns Q (T.setTop (mkF m pc Ls (.int x :: St))) := by
  by_cases q : x = (0 : Int32)
  · exact Go.step (fun t k => XS.ifYes X.here B.x (g := mkF m pc Ls (.int x :: St)) rfl rfl (B.d hd) rfl ((if0 _ _).trans (teq q).1) ho hT k) (K1 q)
  · subst hF; exact Go.step (fun t k => XS.ifNo X.here B.x (g := mkF m pc Ls (.int x :: St)) rfl (B.d hd) rfl ((if0 _ _).trans (feq q).1) k) (K2 q)
theorem g_lcmp_eq (X : Stand p l e R s m args below meth c T locs cells slots) (B : Bdy p s m meth c Z a0 own nm bytes maxL rt tabs) {x y : Int64} {o : Int} {pcT pcF : Nat} (hd1 : decode bytes pc = .ok (.lcmp, 1)) (hd : decode bytes (pc + 1) = .ok (.ifCond .eq o, 3)) (ho : 0 ≤ ((pc + 1 : Nat) : Int) + o) (hT : (((pc + 1 : Nat) : Int) + o).toNat = pcT) (hF : pc + 4 = pcF) (K1 : x = y → Go p e below s nc ns Q (T.setTop (mkF m pcT Ls St))) (K2 : ¬ x = y → Go p e below s nc ns Q (T.setTop (mkF m pcF Ls St))) : Go p e below s nc ns Q (T.setTop (mkF m pc Ls (.long y :: .long x :: St))) :=
  Go.step (fun t q => XS.lcmp X.here B.x (g := mkF m pc Ls (.long y :: .long x :: St)) rfl (B.d hd1) rfl q) (g_if_eq X B hd ho hT hF (fun q => K1 ((lw_eq x y).mp q)) (fun q => K2 fun z => q ((lw_eq x y).mpr z)))
theorem g_icmp_ne (X : Stand p l e R s m args below meth c T locs cells slots) (B : Bdy p s m meth c Z a0 own nm bytes maxL rt tabs) {x y : Int32} {o : Int} {pcT pcF : Nat} (hd : decode bytes pc = .ok (.if_icmp .ne o, 3)) (ho : 0 ≤ (pc : Int) + o) (hT : ((pc : Int) + o).toNat = pcT) (hF : pc + 3 = pcF) (K1 : x = y → Go p e below s nc ns Q (T.setTop (mkF m pcF Ls St))) (K2 : ¬ x = y → Go p e below s nc ns Q (T.setTop (mkF m pcT Ls St))) : Go p e below s nc ns Q (T.setTop (mkF m pc Ls (.int y :: .int x :: St))) := by
  by_cases q : x = y
  · subst hF; exact Go.step (fun t k => XS.icmpNo X.here B.x (g := mkF m pc Ls (.int y :: .int x :: St)) rfl (B.d hd) rfl (teq q).2 k) (K1 q)
  · exact Go.step (fun t k => XS.icmpYes X.here B.x (g := mkF m pc Ls (.int y :: .int x :: St)) rfl rfl (B.d hd) rfl (feq q).2 ho hT k) (K2 q)
theorem g_if_ne (X : Stand p l e R s m args below meth c T locs cells slots) (B : Bdy p s m meth c Z a0 own nm bytes maxL rt tabs) {x : Int32} {o : Int} {pcT pcF : Nat} (hd : decode bytes pc = .ok (.ifCond .ne o, 3)) (ho : 0 ≤ (pc : Int) + o) (hT : ((pc : Int) + o).toNat = pcT) (hF : pc + 3 = pcF) (K1 : x = (0 : Int32) → Go p e below s nc ns Q (T.setTop (mkF m pcF Ls St))) (K2 : ¬ x = (0 : Int32) → Go p e below s nc ns Q (T.setTop (mkF m pcT Ls St))) : Go p e below s nc ns Q (T.setTop (mkF m pc Ls (.int x :: St))) := by
  by_cases q : x = (0 : Int32)
  · subst hF; exact Go.step (fun t k => XS.ifNo X.here B.x (g := mkF m pc Ls (.int x :: St)) rfl (B.d hd) rfl ((if0 _ _).trans (teq q).2) k) (K1 q)
  · exact Go.step (fun t k => XS.ifYes X.here B.x (g := mkF m pc Ls (.int x :: St)) rfl rfl (B.d hd) rfl ((if0 _ _).trans (feq q).2) ho hT k) (K2 q)
theorem g_lcmp_ne (X : Stand p l e R s m args below meth c T locs cells slots) (B : Bdy p s m meth c Z a0 own nm bytes maxL rt tabs) {x y : Int64} {o : Int} {pcT pcF : Nat} (hd1 : decode bytes pc = .ok (.lcmp, 1)) (hd : decode bytes (pc + 1) = .ok (.ifCond .ne o, 3)) (ho : 0 ≤ ((pc + 1 : Nat) : Int) + o) (hT : (((pc + 1 : Nat) : Int) + o).toNat = pcT) (hF : pc + 4 = pcF) (K1 : x = y → Go p e below s nc ns Q (T.setTop (mkF m pcF Ls St))) (K2 : ¬ x = y → Go p e below s nc ns Q (T.setTop (mkF m pcT Ls St))) : Go p e below s nc ns Q (T.setTop (mkF m pc Ls (.long y :: .long x :: St))) :=
  Go.step (fun t q => XS.lcmp X.here B.x (g := mkF m pc Ls (.long y :: .long x :: St)) rfl (B.d hd1) rfl q) (g_if_ne X B hd ho hT hF (fun q => K1 ((lw_eq x y).mp q)) (fun q => K2 fun z => q ((lw_eq x y).mpr z)))
/-! ends -/
theorem g_ret0 (X : Stand p l e R s m args below meth c T locs cells slots) (B : Bdy p s m meth c Z a0 own nm bytes maxL rt tabs) (hr : rt = none) (hd : decode bytes pc = .ok (.return_, 1)) (hc : cells ≤ nc) (hs : slots ≤ ns) (q : Q none T.heap locs) : Go p e below s nc ns Q (T.setTop (mkF m pc Ls [])) := by
  subst hr
  obtain ⟨fs, hr, hrun, hended, hW, hsame⟩ := X.leave (v := none) (fun _ => rfl) B.lk
  exact ⟨_, _, X.returnOut B.x B.r (B.d hd) hr, hrun, hended, _, _, rfl, q, ⟨_, rfl⟩, hW, hsame.mono hc hs⟩
theorem g_retV (X : Stand p l e R s m args below meth c T locs cells slots) (B : Bdy p s m meth c Z a0 own nm bytes maxL rt tabs) {w : Value} {t : FieldType} {i : Instr} (hr : rt = some t) (hn : narrow t w = w)
    (hi : (i = .ireturn ∧ (t = .int ∨ t = .boolean ∨ t = .byte ∨ t = .char ∨ t = .short) ∧ ∃ z, w = .int z) ∨ (i = .lreturn ∧ t = .long ∧ ∃ z, w = .long z) ∨ (i = .dreturn ∧ t = .double ∧ ∃ z, w = .double z) ∨ (i = .freturn ∧ t = .float ∧ ∃ z, w = .float z) ∨ (i = .areturn ∧ t.isReference = true ∧ w.isRef = true))
    (hd : decode bytes pc = .ok (i, 1)) (hc : cells ≤ nc) (hs : slots ≤ ns) (q : Q (some w) T.heap locs) : Go p e below s nc ns Q (T.setTop (mkF m pc Ls (w :: St))) := by
  subst hr
  obtain ⟨fs, hr, hrun, hended, hW, hsame⟩ := X.leave (v := some w) (fun h => by rw [B.r] at h; cases h) B.lk
  exact ⟨_, _, retOut X B.x B.r hn hi (B.d hd) hr, hrun, hended, _, _, rfl, q, ⟨_, rfl⟩, hW, hsame.mono hc hs⟩
theorem g_retI (X : Stand p l e R s m args below meth c T locs cells slots) (B : Bdy p s m meth c Z a0 own nm bytes maxL rt tabs) {z : Int32} (hr : rt = some .int) (hd : decode bytes pc = .ok (.ireturn, 1)) (hc : cells ≤ nc) (hs : slots ≤ ns) (q : Q (some (.int z)) T.heap locs) : Go p e below s nc ns Q (T.setTop (mkF m pc Ls (.int z :: St))) :=
  g_retV X B hr rfl (Or.inl ⟨rfl, Or.inl rfl, z, rfl⟩) hd hc hs q
theorem g_retL (X : Stand p l e R s m args below meth c T locs cells slots) (B : Bdy p s m meth c Z a0 own nm bytes maxL rt tabs) {z : Int64} (hr : rt = some .long) (hd : decode bytes pc = .ok (.lreturn, 1)) (hc : cells ≤ nc) (hs : slots ≤ ns) (q : Q (some (.long z)) T.heap locs) : Go p e below s nc ns Q (T.setTop (mkF m pc Ls (.long z :: St))) :=
  g_retV X B hr rfl (Or.inr (Or.inl ⟨rfl, rfl, z, rfl⟩)) hd hc hs q
theorem g_retA (X : Stand p l e R s m args below meth c T locs cells slots) (B : Bdy p s m meth c Z a0 own nm bytes maxL rt tabs) {w : Value} {t : FieldType} (hr : rt = some t) (ht : t.isReference = true) (hw : w.isRef = true) (hn : narrow t w = w) (hd : decode bytes pc = .ok (.areturn, 1)) (hc : cells ≤ nc) (hs : slots ≤ ns) (q : Q (some w) T.heap locs) : Go p e below s nc ns Q (T.setTop (mkF m pc Ls (w :: St))) :=
  g_retV X B hr hn (Or.inr (Or.inr (Or.inr (Or.inr ⟨rfl, ht, hw⟩)))) hd hc hs q
theorem g_retN (X : Stand p l e R s m args below meth c T locs cells slots) (B : Bdy p s m meth c Z a0 own nm bytes maxL rt tabs) {z : Int32} {t : FieldType} (hr : rt = some t) (ht : t = .boolean ∨ t = .byte ∨ t = .char ∨ t = .short) (hd : decode bytes pc = .ok (.ireturn, 1)) (hc : cells ≤ nc) (hs : slots ≤ ns) (q : Q (some (.int (nar t z))) T.heap locs) : Go p e below s nc ns Q (T.setTop (mkF m pc Ls (.int z :: St))) := by
  subst hr
  obtain ⟨fs, hr, hrun, hended, hW, hsame⟩ := X.leave (v := some (.int (nar t z))) (fun h => by rw [B.r] at h; cases h) B.lk
  exact ⟨_, _, retN X B.x B.r ht (B.d hd) hr, hrun, hended, _, _, rfl, q, ⟨_, rfl⟩, hW, hsame.mono hc hs⟩
/-! calls -/
abbrev Met (l : Launch) (Z : State) (y : MethodName) (yb : ByteArray) (ym : Nat) (yr : Option FieldType) (ws : List Jvm.Cond) (rm : Room) (as : Array Value) (h : Heap) (Qc : Option Value → Heap → List Loc → Prop) : Prop :=
  MetFree l y (head1 (Jvm.Cond.code y yb ym yr :: ws) rm) (fun a U => a = as ∧ Z.Warmed39 U.vm ∧ U.heap = h) (fun _ _ _ _ _ => True) (fun _ U o U' => ∃ v L, o = .returned v ∧ Qc v U'.heap L ∧ FrameEnd U o U' L rm.cells rm.slots)
theorem met_of {y : MethodName} {rm : Room} {as : Array Value} {ws : List Jvm.Cond} (hpl : plainFor y = true) (hw : ∀ d ∈ tabs, d.before a0 Z = true)
    (body : ∀ (p : Program) (e : Env) (s : State) (m : MethodId) (below : List Frame) (meth : Method) (c : Code) (T : State), Stand p l e rm s m as below meth c T [] 0 0 → Bdy p s m meth c Z a0 y.cls y.name bytes maxL rt tabs → T.heap = h → Go p e below s rm.cells rm.slots Q (T.setTop (entryFrame m as maxL))) :
    Met l Z y bytes maxL rt ws rm as h Q := by
  refine MetFree.of_bodySF hpl hisR ?_
  intro p e s m args below meth c s₁ Bd hml0 hP hK
  obtain ⟨rfl, hZ, hh⟩ := hP
  exact body p e s m below meth c s₁ (Stand.of_body Bd) ⟨Bd.exec, hZ, hw, Bd.bytes, hml0, findClass_of_methodNamed Bd.named, Bd.returns, BodyLoose.notSynchronized Bd, (name_of_methodNamed Bd.named Bd.method).1⟩ (by rw [← hh, Bd.state]; rfl)
theorem g_callS (X : Stand p l e R s m args below meth c T locs cells slots) (B : Bdy p s m meth c Z a0 own nm bytes maxL rt tabs) {y : MethodName} {i : Nat} {yb : ByteArray} {ym : Nat} {yr : Option FieldType} {rm : Room} {argsL rest : List Value} {Qc : Option Value → Heap → List Loc → Prop} (eT : T.heap = h) (W : Nat)
    (w1 : (Jvm.Cond.methodLink own i y).before a0 Z = true) (w2 : (Jvm.Cond.static y).before a0 Z = true) (w3 : (Jvm.Cond.initialized y.cls).before a0 Z = true) (w4 : (Jvm.Cond.code y yb ym yr).before a0 Z = true) (hy : y.cls ≠ "java/lang/invoke/MethodHandle" ∧ y.cls ≠ "java/lang/invoke/VarHandle")
    (M : Met l Z y yb ym yr [] rm argsL.toArray h Qc) (hf : rm.frames + 1 ≤ R.frames) (hl : W + (ym + 11) + rm.locals ≤ R.locals) (hc : cells + rm.cells ≤ R.cells) (hs : slots + rm.slots ≤ R.slots)
    (hsz : Ls.size = maxL) (hlen : ∀ sig, parseMethodDescriptor y.desc = some sig → argsL.length = sig.parameters.length) (hst : St = argsL.reverse ++ rest) (hW : (rest.map fun v => v.category).sum ≤ W) (hd : decode bytes pc = .ok (.invokestatic i, 3)) (hp : pc + 3 = pc')
    (K : ∀ (T' : State) (v : Option Value) (L : List Loc), Stand p l e R s m args below meth c T' (locs ++ L) (cells + rm.cells) (slots + rm.slots) → Qc v T'.heap L → Go p e below s nc ns Q (T'.setTop (mkF m pc' Ls (v.toList ++ rest)))) : Go p e below s nc ns Q (T.setTop (mkF m pc Ls St)) := by
  subst hp
  obtain ⟨v, _, ⟨T', L', k', n'⟩, -, X', ⟨Lc, hQ, l', y', z'⟩, st⟩ := Jvm.LawKit.callS X B.x (y := y) B.o (mvT B.z w1) (mvT B.z w2) (mvT B.z w3) (mvT B.z w4) hy (backOf (W := W) M B.z w4 w3 hf hl) (g := mkF m pc Ls St) rfl (by rw [B.ml]; exact hsz) (argsL := argsL) (rest := rest) hlen hst (by show 2 * 0 + _ ≤ _; omega) (B.d hd) (fun _ _ => ⟨rfl, eT, hc, hs⟩)
  dsimp only [Pt.U, Pt.locs, Pt.cells, Pt.slots] at X' l' y' z' st hQ
  subst l' y' z'
  exact Go.step st (K T' v Lc X' hQ)
theorem g_callP (X : Stand p l e R s m args below meth c T locs cells slots) (B : Bdy p s m meth c Z a0 own nm bytes maxL rt tabs) {y : MethodName} {i : Nat} {yb : ByteArray} {ym : Nat} {yr : Option FieldType} {fr lo : Nat} {argsL rest : List Value} {w : Value} (eT : T.heap = h) (W : Nat)
    (w1 : (Jvm.Cond.methodLink own i y).before a0 Z = true) (w2 : (Jvm.Cond.static y).before a0 Z = true) (w3 : (Jvm.Cond.initialized y.cls).before a0 Z = true) (w4 : (Jvm.Cond.code y yb ym yr).before a0 Z = true) (hy : y.cls ≠ "java/lang/invoke/MethodHandle" ∧ y.cls ≠ "java/lang/invoke/VarHandle")
    (M : Met l Z y yb ym yr [] ⟨fr, 0, 0, lo⟩ argsL.toArray h (PQ (some w) h [])) (hf : fr + 1 ≤ R.frames) (hl : W + (ym + 11) + lo ≤ R.locals) (hc : cells ≤ R.cells) (hs : slots ≤ R.slots)
    (hsz : Ls.size = maxL) (hlen : ∀ sig, parseMethodDescriptor y.desc = some sig → argsL.length = sig.parameters.length) (hst : St = argsL.reverse ++ rest) (hW : (rest.map fun v => v.category).sum ≤ W) (hd : decode bytes pc = .ok (.invokestatic i, 3)) (hp : pc + 3 = pc')
    (K : ∀ (T' : State), Stand p l e R s m args below meth c T' locs cells slots → T'.heap = h → Go p e below s nc ns Q (T'.setTop (mkF m pc' Ls (w :: rest)))) : Go p e below s nc ns Q (T.setTop (mkF m pc Ls St)) := by
  refine g_callS X B eT W w1 w2 w3 w4 hy M hf hl hc hs hsz hlen hst hW hd hp fun T' v L X' q => ?_
  obtain ⟨rfl, q2, rfl⟩ := q
  rw [List.append_nil] at X'
  exact K T' X' q2
end GoKit
/-! own frame, the heap's steps -/
def Ax (Z : State) (h : Heap) (a : Addr) (ty : FieldType) (n : Nat) (w : Nat → Value) : Prop := n < 2147483648 ∧ ∃ c : Cell, Arr Z h a c ty ∧ c.slots.size = n ∧ ∀ j, j < n → c.slots[j]? = some (w j)
section HeapKit
variable {p : Program} {l : Launch} {e : Env} {R : Room} {s : State} {m : MethodId} {args : Array Value} {below : List Frame} {meth : Method} {c : Code} {T : State} {locs : List Loc} {cells slots : Nat} {Z : State} {a0 : Array Value} {h h' : Heap} {nc ns : Nat} {Q Q' : Option Value → Heap → List Loc → Prop} {pc pc' : Nat} {Ls Ls' : Array Slot} {St : List Value} {own nm : String} {bytes : ByteArray} {maxL : Nat} {rt : Option FieldType} {tabs : List Jvm.Cond}
theorem Ax.lt {a : Addr} {ty : FieldType} {n : Nat} {w : Nat → Value} (F : Ax Z h a ty n w) : a < h.size := by obtain ⟨-, c, A, -⟩ := F; exact A.lt
theorem Ax.ext {a : Addr} {ty : FieldType} {n : Nat} {w : Nat → Value} (F : Ax Z h a ty n w) (E : Ext h h') : Ax Z h' a ty n w := by obtain ⟨h0, c, A, r⟩ := F; exact ⟨h0, c, A.ext E, r⟩
theorem Ax.other {a b : Addr} {ty : FieldType} {n sl : Nat} {v : Value} {w : Nat → Value} (F : Ax Z h b ty n w) (W : Wr h h' a sl v) (q : b ≠ a) : Ax Z h' b ty n w := by obtain ⟨h0, c, A, r⟩ := F; exact ⟨h0, c, A.other W q, r⟩
theorem Ax.keep {a : Addr} {ty : FieldType} {n : Nat} {w : Nat → Value} {ws : List Addr} (F : Ax Z h a ty n w) (K : Keep h h' ws) (q : a ∉ ws) : Ax Z h' a ty n w := by obtain ⟨h0, c, A, r⟩ := F; exact ⟨h0, c, ⟨K.2.1 a c A.1 q, A.2⟩, r⟩
theorem Ax.set {a : Addr} {ty : FieldType} {n k : Nat} {v : Value} {w : Nat → Value} (F : Ax Z h a ty n w) (W : Wr h h' a k v) : Ax Z h' a ty n (fun j => if j = k then v else w j) := by
  obtain ⟨h0, c, A, r1, r2⟩ := F
  refine ⟨h0, _, A.same W, by rw [sz_set]; exact r1, fun j hj => ?_⟩
  by_cases q : j = k
  · subst q; simp [Cell.setSlot, r1, hj]
  · simp only [Cell.setSlot, if_neg q]; rw [Array.getElem?_setIfInBounds_ne (Ne.symm q)]; exact r2 j hj
theorem Ax.eqw {a : Addr} {ty : FieldType} {n : Nat} {w w' : Nat → Value} (F : Ax Z h a ty n w) (q : ∀ j, j < n → w j = w' j) : Ax Z h a ty n w' := by
  obtain ⟨h0, c, A, r1, r2⟩ := F
  exact ⟨h0, c, A, r1, fun j hj => by rw [← q j hj]; exact r2 j hj⟩
theorem own_idx {j : Int32} {k n : Nat} (hk : j.toInt = (k : Int)) (hn : k < n) : ¬ (j < 0 ∨ n ≤ j.toNatClampNeg) ∧ j.toNatClampNeg = k := by
  have e0 : (0 : Int32).toInt = 0 := rfl
  have e1 : j.toNatClampNeg = j.toInt.toNat := rfl
  rw [Int32.lt_iff_toInt_lt, e0, e1, hk]; omega
theorem g_getF (X : Stand p l e R s m args below meth c T locs cells slots) (B : Bdy p s m meth c Z a0 own nm bytes maxL rt tabs) {i : Nat} {R0 O n d : String} {a : Addr} {v : Value} (w : (Jvm.Cond.fieldLink own i R0 n d).before a0 Z = true) (via : Via Z R0 O n d) (eT : T.heap = h) (F : Fld Z h a O n d v) (hd : decode bytes pc = .ok (.getfield i, 3)) (hp : pc + 3 = pc')
    (K : ∀ T' : State, Stand p l e R s m args below meth c T' locs cells slots → T'.heap = h → Go p e below s nc ns Q (T'.setTop (mkF m pc' Ls (v :: St)))) : Go p e below s nc ns Q (T.setTop (mkF m pc Ls (.ref a :: St))) := by
  subst hp
  obtain ⟨T', X', e', st⟩ := getF X B.x B.z B.o (host := "") (Or.inl w) via eT F (g := mkF m pc Ls (.ref a :: St)) rfl rfl (B.d hd)
  exact Go.step st (K T' X' e')
theorem g_putF (X : Stand p l e R s m args below meth c T locs cells slots) (B : Bdy p s m meth c Z a0 own nm bytes maxL rt tabs) {i kk : Nat} {R0 O n d C : String} {a : Addr} {v old : Value} {ty : FieldType} (w : (Jvm.Cond.fieldLink own i R0 n d).before a0 Z = true) (via : Via Z R0 O n d) (eT : T.heap = h) (F : Fld Z h a O n d old) (E : Exa Z h a C)
    (L : (Jvm.Cond.lays C O n d).before a0 Z = true ∨ ((Jvm.Cond.laysFinal C O n d).before a0 Z = true ∧ own = O ∧ nm = "<init>")) (wi : (Jvm.Cond.instantiable C kk).before a0 Z = true) (hty : parseFieldDescriptor d = some ty) (hn : narrow ty v = v) (hf : fits ty v = true)
    (hd : decode bytes pc = .ok (.putfield i, 3)) (hp : pc + 3 = pc')
    (K : ∀ (T' : State) (h' : Heap), Stand p l e R s m args below meth c T' (locs ++ [⟨a, Jvm.RoadKit.slotOf Z O n d⟩]) cells slots → T'.heap = h' → Wr h h' a (Jvm.RoadKit.slotOf Z O n d) v → Go p e below s nc ns Q (T'.setTop (mkF m pc' Ls St))) : Go p e below s nc ns Q (T.setTop (mkF m pc Ls (v :: .ref a :: St))) := by
  subst hp
  obtain ⟨T', h', X', e', W, st⟩ := putF X B.x B.z B.o (host := "") (Or.inl w) via eT F E (L.imp id fun q => ⟨q.1, q.2.1, B.n.trans q.2.2⟩) wi hty hn hf (g := mkF m pc Ls (v :: .ref a :: St)) rfl rfl (B.d hd)
  exact Go.step st (K T' h' X' e' W)
theorem g_getS (X : Stand p l e R s m args below meth c T locs cells slots) (B : Bdy p s m meth c Z a0 own nm bytes maxL rt tabs) {i : Nat} {R0 O n d : String} {v : Value} (w : (Jvm.Cond.fieldLink own i R0 n d).before a0 Z = true) (via : Via Z R0 O n d) (eT : T.heap = h) (F : Sta Z h O n d v) (hd : decode bytes pc = .ok (.getstatic i, 3)) (hp : pc + 3 = pc')
    (K : ∀ T' : State, Stand p l e R s m args below meth c T' locs cells slots → T'.heap = h → Go p e below s nc ns Q (T'.setTop (mkF m pc' Ls (v :: St)))) : Go p e below s nc ns Q (T.setTop (mkF m pc Ls St)) := by
  subst hp
  obtain ⟨T', X', e', st⟩ := getS X B.x B.z B.o (host := "") w via eT F (g := mkF m pc Ls St) rfl (B.d hd)
  exact Go.step st (K T' X' e')
theorem g_new (X : Stand p l e R s m args below meth c T locs cells slots) (B : Bdy p s m meth c Z a0 own nm bytes maxL rt tabs) {i n : Nat} {C : String} (w : (Jvm.Cond.classLink own i C).before a0 Z = true) (wi : (Jvm.Cond.instantiable C n).before a0 Z = true) (wz : (Jvm.Cond.initialized C).before a0 Z = true) (eT : T.heap = h) (hd : decode bytes pc = .ok (.new i, 3)) (hp : pc + 3 = pc') (hc : cells + 1 ≤ R.cells) (hl : slots + n ≤ R.slots)
    (K : ∀ (T' : State) (h' : Heap) (a : Addr), a = h.size → Stand p l e R s m args below meth c T' locs (cells + 1) (slots + n) → T'.heap = h' → Ext h h' → Exa Z h' a C → (∀ {O nm d : String} {ty : FieldType}, Laid Z a0 C O nm d → parseFieldDescriptor d = some ty → Fld Z h' a O nm d (defaultValue ty)) → Go p e below s nc ns Q (T'.setTop (mkF m pc' Ls (.ref a :: St)))) : Go p e below s nc ns Q (T.setTop (mkF m pc Ls St)) := by
  subst hp
  obtain ⟨T', h', X', e', E, A, D, -, st⟩ := newO X B.x B.z B.o w wi wz eT (g := mkF m pc Ls St) rfl (B.d hd) hc hl
  exact Go.step st (K T' h' _ rfl X' e' E A D)
theorem g_newA (X : Stand p l e R s m args below meth c T locs cells slots) (B : Bdy p s m meth c Z a0 own nm bytes maxL rt tabs) {aty : ArrayType} {z : Int32} (k cap : Nat) (w : (Jvm.Cond.arrayClass (newarray.typeOf aty)).before a0 Z = true) (eT : T.heap = h) (hz : z.toInt = (k : Int)) (hcap : k ≤ cap) (hb : cap * 8 ≤ 536870912) (hd : decode bytes pc = .ok (.newarray aty, 2)) (hp : pc + 2 = pc') (hc : cells + 1 ≤ R.cells) (hl : slots + cap ≤ R.slots)
    (K : ∀ (T' : State) (h' : Heap) (a : Addr), a = h.size → Stand p l e R s m args below meth c T' locs (cells + 1) (slots + cap) → T'.heap = h' → Ext h h' → Ax Z h' a (newarray.typeOf aty) k (fun _ => defaultValue (newarray.typeOf aty)) → Go p e below s nc ns Q (T'.setTop (mkF m pc' Ls (.ref a :: St)))) : Go p e below s nc ns Q (T.setTop (mkF m pc Ls (.int z :: St))) := by
  subst hp
  have e1 : z.toNatClampNeg = k := by show z.toInt.toNat = k; omega
  have e0 : (0 : Int32).toInt = 0 := rfl
  have hlt := z.toInt_lt
  obtain ⟨T', h', cA, X', e', E, A, st⟩ := newP X B.x B.z w eT (g := mkF m pc Ls (.int z :: St)) rfl (B.d hd) rfl (by rw [Int32.lt_iff_toInt_lt, e0]; omega) (cap := cap) (by omega) hb hc hl
  refine Go.step st (K T' h' _ rfl X' e' E ⟨by omega, _, A, (sz_new _ _ _).trans e1, fun j hj => ?_⟩)
  simp [newA, e1, hj]
theorem g_arrlen (X : Stand p l e R s m args below meth c T locs cells slots) (B : Bdy p s m meth c Z a0 own nm bytes maxL rt tabs) {a : Addr} {ty : FieldType} {n : Nat} {w : Nat → Value} (z : Int32) (eT : T.heap = h) (F : Ax Z h a ty n w) (hz : z.toInt = (n : Int)) (hd : decode bytes pc = .ok (.arraylength, 1)) (hp : pc + 1 = pc') (K : Go p e below s nc ns Q (T.setTop (mkF m pc' Ls (.int z :: St)))) : Go p e below s nc ns Q (T.setTop (mkF m pc Ls (.ref a :: St))) := by
  subst hp
  obtain ⟨h0, c, A, r1, -⟩ := F
  have ez : c.slots.size.toInt32 = z := by
    apply Int32.toInt_inj.mp; rw [hz, r1]; exact Int32.toInt_ofNat_small (by omega)
  refine Go.step (fun t q => X.arraylength B.x (by rw [eT]; exact A.1) (State.isArrayOf_alike B.z.alike A.2.1) (g := mkF m pc Ls (.ref a :: St)) rfl rfl (B.d hd) t (by rw [ez]; exact q)) K
theorem g_iaload (X : Stand p l e R s m args below meth c T locs cells slots) (B : Bdy p s m meth c Z a0 own nm bytes maxL rt tabs) {a : Addr} {n : Nat} {w : Nat → Value} {j : Int32} {v : Value} (k : Nat) (eT : T.heap = h) (F : Ax Z h a .int n w) (hk : j.toInt = (k : Int)) (hn : k < n) (hv : w k = v) (hd : decode bytes pc = .ok (.iaload, 1)) (hp : pc + 1 = pc') (K : Go p e below s nc ns Q (T.setTop (mkF m pc' Ls (v :: St)))) : Go p e below s nc ns Q (T.setTop (mkF m pc Ls (.int j :: .ref a :: St))) := by
  subst hp
  obtain ⟨h0, c, A, r1, r2⟩ := F
  obtain ⟨q1, q2⟩ := own_idx hk hn
  exact Go.step (fun t q => X.iaload B.x (v := v) (by rw [eT]; exact A.1) (State.isArrayOf_alike B.z.alike A.2.1) A.2.2 (by rw [r1]; exact q1) (by rw [q2, ← hv]; exact r2 k hn) (g := mkF m pc Ls (.int j :: .ref a :: St)) rfl rfl (B.d hd) t q) K
theorem g_laload (X : Stand p l e R s m args below meth c T locs cells slots) (B : Bdy p s m meth c Z a0 own nm bytes maxL rt tabs) {a : Addr} {n : Nat} {w : Nat → Value} {j : Int32} {v : Value} (k : Nat) (eT : T.heap = h) (F : Ax Z h a .long n w) (hk : j.toInt = (k : Int)) (hn : k < n) (hv : w k = v) (hd : decode bytes pc = .ok (.laload, 1)) (hp : pc + 1 = pc') (K : Go p e below s nc ns Q (T.setTop (mkF m pc' Ls (v :: St)))) : Go p e below s nc ns Q (T.setTop (mkF m pc Ls (.int j :: .ref a :: St))) := by
  subst hp
  obtain ⟨h0, c, A, r1, r2⟩ := F
  obtain ⟨q1, q2⟩ := own_idx hk hn
  exact Go.step (fun t q => X.laload B.x (v := v) (by rw [eT]; exact A.1) (State.isArrayOf_alike B.z.alike A.2.1) A.2.2 (by rw [r1]; exact q1) (by rw [q2, ← hv]; exact r2 k hn) (g := mkF m pc Ls (.int j :: .ref a :: St)) rfl rfl (B.d hd) t q) K
theorem g_baloadB (X : Stand p l e R s m args below meth c T locs cells slots) (B : Bdy p s m meth c Z a0 own nm bytes maxL rt tabs) {a : Addr} {n : Nat} {w : Nat → Value} {j : Int32} {v : Value} (k : Nat) (eT : T.heap = h) (F : Ax Z h a .byte n w) (hk : j.toInt = (k : Int)) (hn : k < n) (hv : w k = v) (hd : decode bytes pc = .ok (.baload, 1)) (hp : pc + 1 = pc') (K : Go p e below s nc ns Q (T.setTop (mkF m pc' Ls (v :: St)))) : Go p e below s nc ns Q (T.setTop (mkF m pc Ls (.int j :: .ref a :: St))) := by
  subst hp
  obtain ⟨h0, c, A, r1, r2⟩ := F
  obtain ⟨q1, q2⟩ := own_idx hk hn
  exact Go.step (fun t q => X.baloadBytes B.x (v := v) (by rw [eT]; exact A.1) (State.isArrayOf_alike B.z.alike A.2.1) A.2.2 (by rw [r1]; exact q1) (by rw [q2, ← hv]; exact r2 k hn) (g := mkF m pc Ls (.int j :: .ref a :: St)) rfl rfl (B.d hd) t q) K
theorem g_baloadZ (X : Stand p l e R s m args below meth c T locs cells slots) (B : Bdy p s m meth c Z a0 own nm bytes maxL rt tabs) {a : Addr} {n : Nat} {w : Nat → Value} {j : Int32} {v : Value} (k : Nat) (eT : T.heap = h) (F : Ax Z h a .boolean n w) (hk : j.toInt = (k : Int)) (hn : k < n) (hv : w k = v) (hd : decode bytes pc = .ok (.baload, 1)) (hp : pc + 1 = pc') (K : Go p e below s nc ns Q (T.setTop (mkF m pc' Ls (v :: St)))) : Go p e below s nc ns Q (T.setTop (mkF m pc Ls (.int j :: .ref a :: St))) := by
  subst hp
  obtain ⟨h0, c, A, r1, r2⟩ := F
  obtain ⟨q1, q2⟩ := own_idx hk hn
  exact Go.step (fun t q => X.baloadBooleans B.x (v := v) (by rw [eT]; exact A.1) (State.isArrayOf_alike B.z.alike A.2.1) A.2.2 (by rw [r1]; exact q1) (by rw [q2, ← hv]; exact r2 k hn) (g := mkF m pc Ls (.int j :: .ref a :: St)) rfl rfl (B.d hd) t q) K
theorem g_iastore (X : Stand p l e R s m args below meth c T locs cells slots) (B : Bdy p s m meth c Z a0 own nm bytes maxL rt tabs) {a : Addr} {n : Nat} {w : Nat → Value} {j x : Int32} (k : Nat) (eT : T.heap = h) (F : Ax Z h a .int n w) (hk : j.toInt = (k : Int)) (hn : k < n) (hd : decode bytes pc = .ok (.iastore, 1)) (hp : pc + 1 = pc')
    (K : ∀ (T' : State) (h' : Heap), Stand p l e R s m args below meth c T' (locs ++ [⟨a, k⟩]) cells slots → T'.heap = h' → Wr h h' a k (.int x) → Go p e below s nc ns Q (T'.setTop (mkF m pc' Ls St))) : Go p e below s nc ns Q (T.setTop (mkF m pc Ls (.int x :: .int j :: .ref a :: St))) := by
  subst hp
  obtain ⟨h0, c, A, r1, r2⟩ := F
  obtain ⟨q1, q2⟩ := own_idx hk hn
  obtain ⟨T', h', X', e', W, st⟩ := stI X B.x B.z eT A (j := j) (x := x) (by rw [r1]; exact q1) (g := mkF m pc Ls (.int x :: .int j :: .ref a :: St)) rfl rfl (B.d hd)
  rw [q2] at X' W
  exact Go.step st (K T' h' X' e' W)
theorem g_lastore (X : Stand p l e R s m args below meth c T locs cells slots) (B : Bdy p s m meth c Z a0 own nm bytes maxL rt tabs) {a : Addr} {n : Nat} {w : Nat → Value} {j : Int32} {x : Int64} (k : Nat) (eT : T.heap = h) (F : Ax Z h a .long n w) (hk : j.toInt = (k : Int)) (hn : k < n) (hd : decode bytes pc = .ok (.lastore, 1)) (hp : pc + 1 = pc')
    (K : ∀ (T' : State) (h' : Heap), Stand p l e R s m args below meth c T' (locs ++ [⟨a, k⟩]) cells slots → T'.heap = h' → Wr h h' a k (.long x) → Go p e below s nc ns Q (T'.setTop (mkF m pc' Ls St))) : Go p e below s nc ns Q (T.setTop (mkF m pc Ls (.long x :: .int j :: .ref a :: St))) := by
  subst hp
  obtain ⟨h0, c, A, r1, r2⟩ := F
  obtain ⟨q1, q2⟩ := own_idx hk hn
  obtain ⟨T', h', X', e', W, st⟩ := stJ X B.x B.z eT A (j := j) (x := x) (by rw [r1]; exact q1) (g := mkF m pc Ls (.long x :: .int j :: .ref a :: St)) rfl rfl (B.d hd)
  rw [q2] at X' W
  exact Go.step st (K T' h' X' e' W)
theorem g_bastoreB (X : Stand p l e R s m args below meth c T locs cells slots) (B : Bdy p s m meth c Z a0 own nm bytes maxL rt tabs) {a : Addr} {n : Nat} {w : Nat → Value} {j x : Int32} (k : Nat) (eT : T.heap = h) (F : Ax Z h a .byte n w) (hk : j.toInt = (k : Int)) (hn : k < n) (hd : decode bytes pc = .ok (.bastore, 1)) (hp : pc + 1 = pc')
    (K : ∀ (T' : State) (h' : Heap), Stand p l e R s m args below meth c T' (locs ++ [⟨a, k⟩]) cells slots → T'.heap = h' → Wr h h' a k (.int (nar .byte x)) → Go p e below s nc ns Q (T'.setTop (mkF m pc' Ls St))) : Go p e below s nc ns Q (T.setTop (mkF m pc Ls (.int x :: .int j :: .ref a :: St))) := by
  subst hp
  obtain ⟨h0, c, A, r1, r2⟩ := F
  obtain ⟨q1, q2⟩ := own_idx hk hn
  obtain ⟨T', h', X', e', W, st⟩ := stB X B.x B.z eT A (j := j) (x := x) (by rw [r1]; exact q1) (g := mkF m pc Ls (.int x :: .int j :: .ref a :: St)) rfl rfl (B.d hd)
  rw [q2] at X' W
  exact Go.step st (K T' h' X' e' W)
theorem g_bastoreZ (X : Stand p l e R s m args below meth c T locs cells slots) (B : Bdy p s m meth c Z a0 own nm bytes maxL rt tabs) {a : Addr} {n : Nat} {w : Nat → Value} {j x : Int32} (k : Nat) (eT : T.heap = h) (F : Ax Z h a .boolean n w) (hk : j.toInt = (k : Int)) (hn : k < n) (hd : decode bytes pc = .ok (.bastore, 1)) (hp : pc + 1 = pc')
    (K : ∀ (T' : State) (h' : Heap), Stand p l e R s m args below meth c T' (locs ++ [⟨a, k⟩]) cells slots → T'.heap = h' → Wr h h' a k (.int (nar .boolean x)) → Go p e below s nc ns Q (T'.setTop (mkF m pc' Ls St))) : Go p e below s nc ns Q (T.setTop (mkF m pc Ls (.int x :: .int j :: .ref a :: St))) := by
  subst hp
  obtain ⟨h0, c, A, r1, r2⟩ := F
  obtain ⟨q1, q2⟩ := own_idx hk hn
  obtain ⟨T', h', X', e', W, st⟩ := stZ X B.x B.z eT A (j := j) (x := x) (by rw [r1]; exact q1) (g := mkF m pc Ls (.int x :: .int j :: .ref a :: St)) rfl rfl (B.d hd)
  rw [q2] at X' W
  exact Go.step st (K T' h' X' e' W)
theorem g_castore (X : Stand p l e R s m args below meth c T locs cells slots) (B : Bdy p s m meth c Z a0 own nm bytes maxL rt tabs) {a : Addr} {n : Nat} {w : Nat → Value} {j x : Int32} (k : Nat) (eT : T.heap = h) (F : Ax Z h a .char n w) (hk : j.toInt = (k : Int)) (hn : k < n) (hd : decode bytes pc = .ok (.castore, 1)) (hp : pc + 1 = pc')
    (K : ∀ (T' : State) (h' : Heap), Stand p l e R s m args below meth c T' (locs ++ [⟨a, k⟩]) cells slots → T'.heap = h' → Wr h h' a k (.int (nar .char x)) → Go p e below s nc ns Q (T'.setTop (mkF m pc' Ls St))) : Go p e below s nc ns Q (T.setTop (mkF m pc Ls (.int x :: .int j :: .ref a :: St))) := by
  subst hp
  obtain ⟨h0, c, A, r1, r2⟩ := F
  obtain ⟨q1, q2⟩ := own_idx hk hn
  obtain ⟨T', h', X', e', W, st⟩ := stC X B.x B.z eT A (j := j) (x := x) (by rw [r1]; exact q1) (g := mkF m pc Ls (.int x :: .int j :: .ref a :: St)) rfl rfl (B.d hd)
  rw [q2] at X' W
  exact Go.step st (K T' h' X' e' W)
theorem g_sastore (X : Stand p l e R s m args below meth c T locs cells slots) (B : Bdy p s m meth c Z a0 own nm bytes maxL rt tabs) {a : Addr} {n : Nat} {w : Nat → Value} {j x : Int32} (k : Nat) (eT : T.heap = h) (F : Ax Z h a .short n w) (hk : j.toInt = (k : Int)) (hn : k < n) (hd : decode bytes pc = .ok (.sastore, 1)) (hp : pc + 1 = pc')
    (K : ∀ (T' : State) (h' : Heap), Stand p l e R s m args below meth c T' (locs ++ [⟨a, k⟩]) cells slots → T'.heap = h' → Wr h h' a k (.int (nar .short x)) → Go p e below s nc ns Q (T'.setTop (mkF m pc' Ls St))) : Go p e below s nc ns Q (T.setTop (mkF m pc Ls (.int x :: .int j :: .ref a :: St))) := by
  subst hp
  obtain ⟨h0, c, A, r1, r2⟩ := F
  obtain ⟨q1, q2⟩ := own_idx hk hn
  obtain ⟨T', h', X', e', W, st⟩ := stS X B.x B.z eT A (j := j) (x := x) (by rw [r1]; exact q1) (g := mkF m pc Ls (.int x :: .int j :: .ref a :: St)) rfl rfl (B.d hd)
  rw [q2] at X' W
  exact Go.step st (K T' h' X' e' W)
theorem g_initO (X : Stand p l e R s m args below meth c T locs cells slots) (B : Bdy p s m meth c Z a0 own nm bytes maxL rt tabs) {i : Nat} {a : Addr} (W : Nat) (w1 : (Jvm.Cond.methodLink own i Lib.objectInit).before a0 Z = true) (w2 : (Jvm.Cond.instanceMethod Lib.objectInit).before a0 Z = true) (w3 : (Jvm.Cond.code Lib.objectInit ⟨#[0xb1]⟩ 1 none).before a0 Z = true) (eT : T.heap = h) (hsz : Ls.size = maxL) (hd : decode bytes pc = .ok (.invokespecial i, 3)) (hp : pc + 3 = pc')
    (hf : 1 ≤ R.frames) (hW : (St.map fun v => v.category).sum ≤ W) (hl : W + 12 ≤ R.locals) (K : ∀ T' : State, Stand p l e R s m args below meth c T' locs cells slots → T'.heap = h → Go p e below s nc ns Q (T'.setTop (mkF m pc' Ls St))) : Go p e below s nc ns Q (T.setTop (mkF m pc Ls (.ref a :: St))) := by
  subst hp
  obtain ⟨T', X', e', st⟩ := initO X B.x B.z B.o w1 w2 w3 eT (g := mkF m pc Ls (.ref a :: St)) rfl (by rw [B.ml]; exact hsz) rfl (B.d hd) hf (W := W) (by show 2 * 0 + _ ≤ _; omega) hl
  exact Go.step st (K T' X' e')
theorem g_special (X : Stand p l e R s m args below meth c T locs cells slots) (B : Bdy p s m meth c Z a0 own nm bytes maxL rt tabs) {y : MethodName} {i : Nat} {yb : ByteArray} {ym : Nat} {rm : Room} {a : Addr} {argsL rest : List Value} {Qc : Option Value → Heap → List Loc → Prop} (eT : T.heap = h) (W : Nat) (hy1 : y.name = "<init>")
    (w1 : (Jvm.Cond.methodLink own i y).before a0 Z = true) (w2 : (Jvm.Cond.instanceMethod y).before a0 Z = true) (w3 : (Jvm.Cond.initialized y.cls).before a0 Z = true) (w4 : (Jvm.Cond.code y yb ym none).before a0 Z = true) (hy : y.cls ≠ "java/lang/invoke/MethodHandle" ∧ y.cls ≠ "java/lang/invoke/VarHandle")
    (M : Met l Z y yb ym none [] rm (.ref a :: argsL).toArray h Qc) (hf : rm.frames + 1 ≤ R.frames) (hl : W + (ym + 11) + rm.locals ≤ R.locals) (hc : cells + rm.cells ≤ R.cells) (hs : slots + rm.slots ≤ R.slots)
    (hsz : Ls.size = maxL) (hlen : ∀ sig, parseMethodDescriptor y.desc = some sig → argsL.length = sig.parameters.length) (hst : St = argsL.reverse ++ .ref a :: rest) (hW : (rest.map fun v => v.category).sum ≤ W) (hd : decode bytes pc = .ok (.invokespecial i, 3)) (hp : pc + 3 = pc')
    (K : ∀ (T' : State) (v : Option Value) (L : List Loc), Stand p l e R s m args below meth c T' (locs ++ L) (cells + rm.cells) (slots + rm.slots) → Qc v T'.heap L → Go p e below s nc ns Q (T'.setTop (mkF m pc' Ls (v.toList ++ rest)))) : Go p e below s nc ns Q (T.setTop (mkF m pc Ls St)) := by
  subst hp
  obtain ⟨v, _, ⟨T', L', k', n'⟩, -, X', ⟨Lc, hQ, l', y', z'⟩, st⟩ := X.specialBack B.x (y := y) hy1 B.o (mvT B.z w1) (mvT B.z w2) (mvT B.z w4) hy (backOf (W := W) M B.z w4 w3 hf hl) (g := mkF m pc Ls St) rfl (by rw [B.ml]; exact hsz) (Steps.refl _) (a := a) (argsL := argsL) (rest := rest) hlen hst (by show 2 * 0 + _ ≤ _; omega) (B.d hd) (fun _ _ => ⟨rfl, eT, hc, hs⟩)
  dsimp only [Pt.U, Pt.locs, Pt.cells, Pt.slots] at X' l' y' z' st hQ
  subst l' y' z'
  exact Go.step (fun t q => st.trans q) (K T' v Lc X' hQ)
theorem g_virtual (X : Stand p l e R s m args below meth c T locs cells slots) (B : Bdy p s m meth c Z a0 own nm bytes maxL rt tabs) {y : MethodName} {C : String} {i : Nat} {yb : ByteArray} {ym : Nat} {yr : Option FieldType} {rm : Room} {a : Addr} {argsL rest : List Value} {Qc : Option Value → Heap → List Loc → Prop} (eT : T.heap = h) (W : Nat) (E : Exa Z h a C)
    (w1 : (Jvm.Cond.methodLink own i y).before a0 Z = true) (wd : (Jvm.Cond.declares y).before a0 Z = true) (wsel : (Jvm.Cond.selects C y y).before a0 Z = true) (w2 : (Jvm.Cond.instanceMethod y).before a0 Z = true) (w3 : (Jvm.Cond.initialized y.cls).before a0 Z = true) (w4 : (Jvm.Cond.code y yb ym yr).before a0 Z = true) (hy : y.cls ≠ "java/lang/invoke/MethodHandle" ∧ y.cls ≠ "java/lang/invoke/VarHandle")
    (M : Met l Z y yb ym yr [] rm (.ref a :: argsL).toArray h Qc) (hf : rm.frames + 1 ≤ R.frames) (hl : W + (ym + 11) + rm.locals ≤ R.locals) (hc : cells + rm.cells ≤ R.cells) (hs : slots + rm.slots ≤ R.slots)
    (hsz : Ls.size = maxL) (hlen : ∀ sig, parseMethodDescriptor y.desc = some sig → argsL.length = sig.parameters.length) (hst : St = argsL.reverse ++ .ref a :: rest) (hW : (rest.map fun v => v.category).sum ≤ W) (hd : decode bytes pc = .ok (.invokevirtual i, 3)) (hp : pc + 3 = pc')
    (K : ∀ (T' : State) (v : Option Value) (L : List Loc), Stand p l e R s m args below meth c T' (locs ++ L) (cells + rm.cells) (slots + rm.slots) → Qc v T'.heap L → Go p e below s nc ns Q (T'.setTop (mkF m pc' Ls (v.toList ++ rest)))) : Go p e below s nc ns Q (T.setTop (mkF m pc Ls St)) := by
  subst hp
  obtain ⟨cq, kq, q1, q2, q3⟩ := isOf B.z eT E
  obtain ⟨v, _, ⟨T', L', k', n'⟩, -, X', ⟨Lc, hQ, l', y', z'⟩, st⟩ := X.virtualBack B.x (y := y) (z := y) B.o (mvT B.z w1) (mvT B.z wd) (notFace_of_selects (args := #[]) (mvT B.z wsel)) (mvT B.z wsel) (mvT B.z w2) hy (backOf (W := W) M B.z w4 w3 hf hl) q1 q3 (g := mkF m pc Ls St) rfl (by rw [B.ml]; exact hsz) (Steps.refl _) (argsL := argsL) (rest := rest) hlen hst (by show 2 * 0 + _ ≤ _; omega) (B.d hd) (fun _ _ => ⟨rfl, eT, hc, hs⟩)
  dsimp only [Pt.U, Pt.locs, Pt.cells, Pt.slots] at X' l' y' z' st hQ
  subst l' y' z'
  exact Go.step (fun t q => st.trans q) (K T' v Lc X' hQ)
theorem g_ifnullR (X : Stand p l e R s m args below meth c T locs cells slots) (B : Bdy p s m meth c Z a0 own nm bytes maxL rt tabs) {a : Addr} {o : Int} (hd : decode bytes pc = .ok (.ifnull o, 3)) (hp : pc + 3 = pc') (K : Go p e below s nc ns Q (T.setTop (mkF m pc' Ls St))) : Go p e below s nc ns Q (T.setTop (mkF m pc Ls (.ref a :: St))) := by
  subst hp; exact Go.step (fun t q => XS.ifnullNo X.here B.x (g := mkF m pc Ls (.ref a :: St)) rfl (B.d hd) rfl q) K
theorem g_ifnullN (X : Stand p l e R s m args below meth c T locs cells slots) (B : Bdy p s m meth c Z a0 own nm bytes maxL rt tabs) {o : Int} (hd : decode bytes pc = .ok (.ifnull o, 3)) (ho : 0 ≤ (pc : Int) + o) (hp : ((pc : Int) + o).toNat = pc') (K : Go p e below s nc ns Q (T.setTop (mkF m pc' Ls St))) : Go p e below s nc ns Q (T.setTop (mkF m pc Ls (.null :: St))) :=
  Go.step (fun t q => XS.ifnullYes X.here B.x (g := mkF m pc Ls (.null :: St)) rfl rfl (B.d hd) rfl ho hp q) K
theorem g_ifnonnullR (X : Stand p l e R s m args below meth c T locs cells slots) (B : Bdy p s m meth c Z a0 own nm bytes maxL rt tabs) {a : Addr} {o : Int} (hd : decode bytes pc = .ok (.ifnonnull o, 3)) (ho : 0 ≤ (pc : Int) + o) (hp : ((pc : Int) + o).toNat = pc') (K : Go p e below s nc ns Q (T.setTop (mkF m pc' Ls St))) : Go p e below s nc ns Q (T.setTop (mkF m pc Ls (.ref a :: St))) :=
  Go.step (fun t q => XS.ifnonnullYes X.here B.x (g := mkF m pc Ls (.ref a :: St)) rfl rfl (B.d hd) rfl ho hp q) K
theorem g_ifnonnullN (X : Stand p l e R s m args below meth c T locs cells slots) (B : Bdy p s m meth c Z a0 own nm bytes maxL rt tabs) {o : Int} (hd : decode bytes pc = .ok (.ifnonnull o, 3)) (hp : pc + 3 = pc') (K : Go p e below s nc ns Q (T.setTop (mkF m pc' Ls St))) : Go p e below s nc ns Q (T.setTop (mkF m pc Ls (.null :: St))) := by
  subst hp; exact Go.step (fun t q => XS.ifnonnullNo X.here B.x (g := mkF m pc Ls (.null :: St)) rfl (B.d hd) rfl q) K
theorem g_acmp_eq (X : Stand p l e R s m args below meth c T locs cells slots) (B : Bdy p s m meth c Z a0 own nm bytes maxL rt tabs) {a b : Addr} {o : Int} {pcT pcF : Nat} (hd : decode bytes pc = .ok (.if_acmp .eq o, 3)) (ho : 0 ≤ (pc : Int) + o) (hT : ((pc : Int) + o).toNat = pcT) (hF : pc + 3 = pcF) (K1 : a = b → Go p e below s nc ns Q (T.setTop (mkF m pcT Ls St))) (K2 : ¬ a = b → Go p e below s nc ns Q (T.setTop (mkF m pcF Ls St))) : Go p e below s nc ns Q (T.setTop (mkF m pc Ls (.ref b :: .ref a :: St))) := by
  by_cases q : a = b
  · exact Go.step (fun t k => XS.acmpYes X.here B.x (g := mkF m pc Ls (.ref b :: .ref a :: St)) rfl rfl (B.d hd) rfl (by simp [if_acmp.holds, q]) ho hT k) (K1 q)
  · subst hF; exact Go.step (fun t k => XS.acmpNo X.here B.x (g := mkF m pc Ls (.ref b :: .ref a :: St)) rfl (B.d hd) rfl (by simp [if_acmp.holds, q]) k) (K2 q)
theorem g_acmp_ne (X : Stand p l e R s m args below meth c T locs cells slots) (B : Bdy p s m meth c Z a0 own nm bytes maxL rt tabs) {a b : Addr} {o : Int} {pcT pcF : Nat} (hd : decode bytes pc = .ok (.if_acmp .ne o, 3)) (ho : 0 ≤ (pc : Int) + o) (hT : ((pc : Int) + o).toNat = pcT) (hF : pc + 3 = pcF) (K1 : a = b → Go p e below s nc ns Q (T.setTop (mkF m pcF Ls St))) (K2 : ¬ a = b → Go p e below s nc ns Q (T.setTop (mkF m pcT Ls St))) : Go p e below s nc ns Q (T.setTop (mkF m pc Ls (.ref b :: .ref a :: St))) := by
  by_cases q : a = b
  · subst hF; exact Go.step (fun t k => XS.acmpNo X.here B.x (g := mkF m pc Ls (.ref b :: .ref a :: St)) rfl (B.d hd) rfl (by simp [if_acmp.holds, q]) k) (K1 q)
  · exact Go.step (fun t k => XS.acmpYes X.here B.x (g := mkF m pc Ls (.ref b :: .ref a :: St)) rfl rfl (B.d hd) rfl (by simp [if_acmp.holds, q]) ho hT k) (K2 q)
theorem own_fuq {a : Addr} {C n d : String} {v w : Value} (F : Fld Z h a C n d v) (G : Fld Z h a C n d w) : v = w := by
  obtain ⟨c1, _, _, _, _, h1, h2, -, -, -, -, h3⟩ := F
  obtain ⟨c2, _, _, _, _, g1, g2, -, -, -, -, g3⟩ := G
  cases h1.symm.trans g1
  cases h2.symm.trans g2
  exact Option.some.inj (h3.symm.trans g3)
theorem own_fl {x : Addr} {t : Term} {C n d : String} {k : Int32} {as : Array Value} (ht : t.eval as s none [] s = some (.ref x)) (q : (Jvm.Cond.eq (.field t C n d) (.int k)).value as s none s [] = some true) : s.fieldOf? x C n d = some (.int k) := by
  obtain ⟨x', y', e1, e2, k1, k2⟩ := cmp_v (Or.inl q)
  have e3 : y' = .int k := (Option.some.inj ((Term.int_eval k).symm.trans e2)).symm
  subst e3
  obtain ⟨z, rfl⟩ := k2
  have e4 := gotT (Cond.eq_ints e1 e2) q
  subst e4
  rw [← fld_at (C := C) (n := n) (dd := d) ht]; exact e1
end HeapKit
theorem own_ints_nil (x : Int32) : ∀ j : Nat, ∃ v : Int32, (fun _ : Nat => Value.int x) j = .int v := fun _ => ⟨x, rfl⟩
theorem own_ints_set {w : Nat → Value} (H : ∀ j : Nat, ∃ v : Int32, w j = .int v) (k : Nat) (x : Int32) : ∀ j : Nat, ∃ v : Int32, (fun j => if j = k then Value.int x else w j) j = .int v := fun j => by
  by_cases q : j = k
  · exact ⟨x, by simp [q]⟩
  · obtain ⟨v, hv⟩ := H j; exact ⟨v, by simp [q, hv]⟩
section HeapKit2
variable {p : Program} {l : Launch} {e : Env} {R : Room} {s : State} {m : MethodId} {args : Array Value} {below : List Frame} {meth : Method} {c : Code} {T : State} {locs : List Loc} {cells slots : Nat} {Z : State} {a0 : Array Value} {h h' : Heap} {nc ns : Nat} {Q Q' : Option Value → Heap → List Loc → Prop} {pc pc' : Nat} {Ls Ls' : Array Slot} {St : List Value} {own nm : String} {bytes : ByteArray} {maxL : Nat} {rt : Option FieldType} {tabs : List Jvm.Cond}
theorem g_iaload_any (X : Stand p l e R s m args below meth c T locs cells slots) (B : Bdy p s m meth c Z a0 own nm bytes maxL rt tabs) {a : Addr} {n : Nat} {w : Nat → Value} {j : Int32} (k : Nat) (eT : T.heap = h) (F : Ax Z h a .int n w) (hk : j.toInt = (k : Int)) (hn : k < n) (hall : ∀ j : Nat, ∃ v : Int32, w j = .int v) (hd : decode bytes pc = .ok (.iaload, 1)) (hp : pc + 1 = pc') (K : ∀ v : Int32, Go p e below s nc ns Q (T.setTop (mkF m pc' Ls (.int v :: St)))) : Go p e below s nc ns Q (T.setTop (mkF m pc Ls (.int j :: .ref a :: St))) := by
  obtain ⟨v, hv⟩ := hall k
  exact g_iaload X B k eT F hk hn hv hd hp (K v)
end HeapKit2
section HeapKit3
variable {p : Program} {l : Launch} {e : Env} {R : Room} {s : State} {m : MethodId} {args : Array Value} {below : List Frame} {meth : Method} {c : Code} {T : State} {locs : List Loc} {cells slots : Nat} {Z : State} {a0 : Array Value} {h h' : Heap} {nc ns : Nat} {Q Q' : Option Value → Heap → List Loc → Prop} {pc pc' : Nat} {Ls Ls' : Array Slot} {St : List Value} {own nm : String} {bytes : ByteArray} {maxL : Nat} {rt : Option FieldType} {tabs : List Jvm.Cond}
theorem g_private (X : Stand p l e R s m args below meth c T locs cells slots) (B : Bdy p s m meth c Z a0 own nm bytes maxL rt tabs) {y : MethodName} {C : String} {i kk : Nat} {yb : ByteArray} {ym : Nat} {yr : Option FieldType} {rm : Room} {a : Addr} {argsL rest : List Value} {Qc : Option Value → Heap → List Loc → Prop} (eT : T.heap = h) (W : Nat) (E : Exa Z h a C)
    (w1 : (Jvm.Cond.methodLink own i y).before a0 Z = true) (wi : (Jvm.Cond.instantiable y.cls kk).before a0 Z = true) (wp : (Jvm.Cond.privateMethod y).before a0 Z = true) (w2 : (Jvm.Cond.instanceMethod y).before a0 Z = true) (w3 : (Jvm.Cond.initialized y.cls).before a0 Z = true) (w4 : (Jvm.Cond.code y yb ym yr).before a0 Z = true) (hy : y.cls ≠ "java/lang/invoke/MethodHandle" ∧ y.cls ≠ "java/lang/invoke/VarHandle")
    (M : Met l Z y yb ym yr [] rm (.ref a :: argsL).toArray h Qc) (hf : rm.frames + 1 ≤ R.frames) (hl : W + (ym + 11) + rm.locals ≤ R.locals) (hc : cells + rm.cells ≤ R.cells) (hs : slots + rm.slots ≤ R.slots)
    (hsz : Ls.size = maxL) (hlen : ∀ sig, parseMethodDescriptor y.desc = some sig → argsL.length = sig.parameters.length) (hst : St = argsL.reverse ++ .ref a :: rest) (hW : (rest.map fun v => v.category).sum ≤ W) (hd : decode bytes pc = .ok (.invokevirtual i, 3)) (hp : pc + 3 = pc')
    (K : ∀ (T' : State) (v : Option Value) (L : List Loc), Stand p l e R s m args below meth c T' (locs ++ L) (cells + rm.cells) (slots + rm.slots) → Qc v T'.heap L → Go p e below s nc ns Q (T'.setTop (mkF m pc' Ls (v.toList ++ rest)))) : Go p e below s nc ns Q (T.setTop (mkF m pc Ls St)) := by
  subst hp
  obtain ⟨cq, q1, q2⟩ := E.cell
  have wi' : (Jvm.Cond.instantiable y.cls kk).before args s = true := mvT B.z wi
  have w2' : (Jvm.Cond.instanceMethod y).before args s = true := mvT B.z w2
  obtain ⟨c2, k2, i1, i2, i3, i4, -⟩ := Cond.instantiable_spec wi'
  have i5 : k2.isInterface = false := by
    cases hq : k2.isInterface with
    | false => rfl
    | true => rw [hq] at i4; cases i4
  have hpv := Cond.privateMethod_at (mvP B.z wp (args := #[]))
  obtain ⟨v, _, ⟨T', L', k', n'⟩, -, X', ⟨Lc, hQ, l', y', z'⟩, st⟩ := X.privateBack B.x (y := y) B.o (mvT B.z w1) w2' (selects_self_of_private i1 i2 i5 hpv w2' hy) hpv (mvT B.z w4) hy (backOf (W := W) M B.z w4 w3 hf hl) (g := mkF m pc Ls St) rfl (by rw [B.ml]; exact hsz) (Steps.refl _) (a := a) (by rw [eT]; exact q1) q2 (argsL := argsL) (rest := rest) hlen hst (by show 2 * 0 + _ ≤ _; omega) (B.d hd) (fun _ _ => ⟨rfl, eT, hc, hs⟩)
  dsimp only [Pt.U, Pt.locs, Pt.cells, Pt.slots] at X' l' y' z' st hQ
  subst l' y' z'
  exact Go.step (fun t q => st.trans q) (K T' v Lc X' hQ)
theorem g_pop2L (X : Stand p l e R s m args below meth c T locs cells slots) (B : Bdy p s m meth c Z a0 own nm bytes maxL rt tabs) {x : Int64} (hd : decode bytes pc = .ok (.pop2, 1)) (hp : pc + 1 = pc') (K : Go p e below s nc ns Q (T.setTop (mkF m pc' Ls St))) : Go p e below s nc ns Q (T.setTop (mkF m pc Ls (.long x :: St))) := by
  subst hp
  have hd' := B.d hd
  have hx := B.x
  refine Go.step (fun t q => ?_) K
  jvm_step X.here [X.here.top, hx, hd', Value.category]
  exact q
theorem g_instY (X : Stand p l e R s m args below meth c T locs cells slots) (B : Bdy p s m meth c Z a0 own nm bytes maxL rt tabs) {i : Nat} {C : String} {a : Addr} (w : (Jvm.Cond.classLink own i C).before a0 Z = true) (eT : T.heap = h) (F : Ins Z h a C true) (hd : decode bytes pc = .ok (.instanceof i, 3)) (hp : pc + 3 = pc')
    (K : ∀ T' : State, Stand p l e R s m args below meth c T' locs cells slots → T'.heap = h → Go p e below s nc ns Q (T'.setTop (mkF m pc' Ls (.int (1 : Int32) :: St)))) : Go p e below s nc ns Q (T.setTop (mkF m pc Ls (.ref a :: St))) := by
  subst hp
  obtain ⟨T', X', e', st⟩ := instY X B.x B.z B.o w eT F (g := mkF m pc Ls (.ref a :: St)) rfl rfl (B.d hd)
  exact Go.step st (K T' X' e')
theorem g_instN (X : Stand p l e R s m args below meth c T locs cells slots) (B : Bdy p s m meth c Z a0 own nm bytes maxL rt tabs) {i : Nat} {K' C : String} {a : Addr} (w : (Jvm.Cond.classLink own i K').before a0 Z = true) (eT : T.heap = h) (E : Exa Z h a C) (F : ∃ c t, Z.vm.findClass C = some c ∧ Z.vm.findClass K' = some t ∧ Z.vm.assignable c t = false) (hd : decode bytes pc = .ok (.instanceof i, 3)) (hp : pc + 3 = pc')
    (K : ∀ T' : State, Stand p l e R s m args below meth c T' locs cells slots → T'.heap = h → Go p e below s nc ns Q (T'.setTop (mkF m pc' Ls (.int (0 : Int32) :: St)))) : Go p e below s nc ns Q (T.setTop (mkF m pc Ls (.ref a :: St))) := by
  subst hp
  obtain ⟨T', X', e', st⟩ := instNo X B.x B.z B.o w eT E F (g := mkF m pc Ls (.ref a :: St)) rfl rfl (B.d hd)
  exact Go.step st (K T' X' e')
theorem g_castY (X : Stand p l e R s m args below meth c T locs cells slots) (B : Bdy p s m meth c Z a0 own nm bytes maxL rt tabs) {i : Nat} {C : String} {a : Addr} (w : (Jvm.Cond.classLink own i C).before a0 Z = true) (eT : T.heap = h) (F : Ins Z h a C true) (hd : decode bytes pc = .ok (.checkcast i, 3)) (hp : pc + 3 = pc')
    (K : ∀ T' : State, Stand p l e R s m args below meth c T' locs cells slots → T'.heap = h → Go p e below s nc ns Q (T'.setTop (mkF m pc' Ls (.ref a :: St)))) : Go p e below s nc ns Q (T.setTop (mkF m pc Ls (.ref a :: St))) := by
  subst hp
  obtain ⟨T', X', e', st⟩ := castY X B.x B.z B.o w eT F (g := mkF m pc Ls (.ref a :: St)) rfl rfl (B.d hd)
  exact Go.step st (K T' X' e')
end HeapKit3
theorem own_pd0 : parseMethodDescriptor "(JJ)J" = some ⟨[.long, .long], some .long⟩ := by decide +kernel
theorem own_pd1 : parseMethodDescriptor "(IIJJJLjava/util/Map;)V" = some ⟨[.int, .int, .long, .long, .long, (.object "java/util/Map")], none⟩ := by decide +kernel
theorem own_pd2 : parseMethodDescriptor "()J" = some ⟨[], some .long⟩ := by decide +kernel
theorem mx_d0 : decode jdk_29_method_66_code 0 = .ok (.lload_n 0, 1) := by decide +kernel
theorem mx_d1 : decode jdk_29_method_66_code 1 = .ok (.lload_n 2, 1) := by decide +kernel
theorem mx_d2 : decode jdk_29_method_66_code 2 = .ok (.lcmp, 1) := by decide +kernel
theorem mx_d3 : decode jdk_29_method_66_code 3 = .ok (.ifCond .lt 7, 3) := by decide +kernel
theorem mx_d6 : decode jdk_29_method_66_code 6 = .ok (.lload_n 0, 1) := by decide +kernel
theorem mx_d7 : decode jdk_29_method_66_code 7 = .ok (.goto 4, 3) := by decide +kernel
theorem mx_d10 : decode jdk_29_method_66_code 10 = .ok (.lload_n 2, 1) := by decide +kernel
theorem mx_d11 : decode jdk_29_method_66_code 11 = .ok (.lreturn, 1) := by decide +kernel
def mx_f11 (u0 : Int64) : Int64 := u0
theorem mx_b11 {p : Program} {l : Launch} {e : Env} {s : State} {m : MethodId} {args : Array Value} {below : List Frame} {meth : Method} {c : Code} {T : State} {Z : State} {a0 : Array Value} {h : Heap} {locs : List Loc} {cells slots : Nat} (X : Stand p l e (⟨0, 0, 0, 0⟩ : Room) s m args below meth c T locs cells slots) (hc : cells ≤ ((⟨0, 0, 0, 0⟩ : Room)).cells) (hs : slots ≤ ((⟨0, 0, 0, 0⟩ : Room)).slots) (B : Bdy p s m meth c Z a0 "java/lang/Math" "max" jdk_29_method_66_code 4 (some .long) tables_1) (eT : T.heap = h) (j0 : Int64) (j2 : Int64) (u0 : Int64)  :
    Go p e below s cells slots (PQ (some (.long (mx_f11 u0))) h locs) (T.setTop (mkF m 11 #[.val (.long j0), .second, .val (.long j2), .second] [(.long u0)])) := by
  exact g_retL X B rfl mx_d11 (Nat.le_refl _) (Nat.le_refl _) ⟨congrArg (fun z => some (Value.long z)) (Eq.symm (by rw [mx_f11])), eT, rfl⟩
def mx_f0 (j0 : Int64) (j2 : Int64) : Int64 := (if j0 < j2 then (mx_f11 j2) else (mx_f11 j0))
theorem mx_b0 {p : Program} {l : Launch} {e : Env} {s : State} {m : MethodId} {args : Array Value} {below : List Frame} {meth : Method} {c : Code} {T : State} {Z : State} {a0 : Array Value} {h : Heap} {locs : List Loc} {cells slots : Nat} (X : Stand p l e (⟨0, 0, 0, 0⟩ : Room) s m args below meth c T locs cells slots) (hc : cells ≤ ((⟨0, 0, 0, 0⟩ : Room)).cells) (hs : slots ≤ ((⟨0, 0, 0, 0⟩ : Room)).slots) (B : Bdy p s m meth c Z a0 "java/lang/Math" "max" jdk_29_method_66_code 4 (some .long) tables_1) (eT : T.heap = h) (j0 : Int64) (j2 : Int64)  :
    Go p e below s cells slots (PQ (some (.long (mx_f0 j0 j2))) h locs) (T.setTop (mkF m 0 #[.val (.long j0), .second, .val (.long j2), .second] [])) := by
  refine g_lloadN X B mx_d0 (pc' := 1) rfl (v := j0) rfl ?_
  refine g_lloadN X B mx_d1 (pc' := 2) rfl (v := j2) rfl ?_
  refine g_lcmp_lt X B mx_d2 mx_d3 (pcT := 10) (pcF := 6) (by decide) rfl rfl (fun c2_0 => ?_) (fun c2_0 => ?_)
  · refine g_lloadN X B mx_d10 (pc' := 11) rfl (v := j2) rfl ?_
    exact Go.cw (congrArg (fun z => some (Value.long z)) (Eq.symm (by rw [mx_f0, if_pos c2_0]))) (mx_b11 X hc hs B eT j0 j2 j2)
  · refine g_lloadN X B mx_d6 (pc' := 7) rfl (v := j0) rfl ?_
    refine g_goto X B mx_d7 (pc' := 11) (by decide) rfl ?_
    exact Go.cw (congrArg (fun z => some (Value.long z)) (Eq.symm (by rw [mx_f0, if_neg c2_0]))) (mx_b11 X hc hs B eT j0 j2 j0)
theorem own_pn_mx : plainFor (⟨"java/lang/Math", "max", "(JJ)J"⟩ : MethodName) = true := by decide +kernel
theorem own_ef_mx (m : MethodId) (j0 : Int64) (j2 : Int64) : entryFrame m #[(.long j0), (.long j2)] 4 = (mkF m 0 #[.val (.long j0), .second, .val (.long j2), .second] []) := by first | (simp [entryFrame, mkF, argsToLocals, Value.category]; done) | rfl
theorem mx_met (l : Launch) (Z : State) (a0 : Array Value) (hw : ∀ d ∈ tables_1, d.before a0 Z = true) (ws : List Jvm.Cond) (h : Heap) (j0 : Int64) (j2 : Int64)  :
    Met l Z (⟨"java/lang/Math", "max", "(JJ)J"⟩ : MethodName) jdk_29_method_66_code 4 (some .long) ws (⟨0, 0, 0, 0⟩ : Room) #[(.long j0), (.long j2)] h (PQ (some (.long (mx_f0 j0 j2))) h []) :=
  met_of own_pn_mx hw fun p e s m below meth c T X B eT => Go.top (own_ef_mx m j0 j2) (mx_b0 X (Nat.zero_le _) (Nat.zero_le _) B eT j0 j2)
theorem ini_d0 : decode prog_6_method_1_code 0 = .ok (.aload_n 0, 1) := by decide +kernel
theorem ini_d1 : decode prog_6_method_1_code 1 = .ok (.invokespecial 1, 3) := by decide +kernel
theorem ini_d4 : decode prog_6_method_1_code 4 = .ok (.aload_n 0, 1) := by decide +kernel
theorem ini_d5 : decode prog_6_method_1_code 5 = .ok (.iload_n 1, 1) := by decide +kernel
theorem ini_d6 : decode prog_6_method_1_code 6 = .ok (.putfield 7, 3) := by decide +kernel
theorem ini_d9 : decode prog_6_method_1_code 9 = .ok (.aload_n 0, 1) := by decide +kernel
theorem ini_d10 : decode prog_6_method_1_code 10 = .ok (.iload_n 2, 1) := by decide +kernel
theorem ini_d11 : decode prog_6_method_1_code 11 = .ok (.putfield 13, 3) := by decide +kernel
theorem ini_d14 : decode prog_6_method_1_code 14 = .ok (.aload_n 0, 1) := by decide +kernel
theorem ini_d15 : decode prog_6_method_1_code 15 = .ok (.lconst 1, 1) := by decide +kernel
theorem ini_d16 : decode prog_6_method_1_code 16 = .ok (.lload_n 3, 1) := by decide +kernel
theorem ini_d17 : decode prog_6_method_1_code 17 = .ok (.invokestatic 16, 3) := by decide +kernel
theorem ini_d20 : decode prog_6_method_1_code 20 = .ok (.putfield 22, 3) := by decide +kernel
theorem ini_d23 : decode prog_6_method_1_code 23 = .ok (.aload_n 0, 1) := by decide +kernel
theorem ini_d24 : decode prog_6_method_1_code 24 = .ok (.lload 5, 2) := by decide +kernel
theorem ini_d26 : decode prog_6_method_1_code 26 = .ok (.putfield 26, 3) := by decide +kernel
theorem ini_d29 : decode prog_6_method_1_code 29 = .ok (.aload_n 0, 1) := by decide +kernel
theorem ini_d30 : decode prog_6_method_1_code 30 = .ok (.lload 7, 2) := by decide +kernel
theorem ini_d32 : decode prog_6_method_1_code 32 = .ok (.putfield 29, 3) := by decide +kernel
theorem ini_d35 : decode prog_6_method_1_code 35 = .ok (.aload_n 0, 1) := by decide +kernel
theorem ini_d36 : decode prog_6_method_1_code 36 = .ok (.aload 9, 2) := by decide +kernel
theorem ini_d38 : decode prog_6_method_1_code 38 = .ok (.putfield 32, 3) := by decide +kernel
theorem ini_d41 : decode prog_6_method_1_code 41 = .ok (.return_, 1) := by decide +kernel
theorem own_pn_ini : plainFor (⟨"com/example/measured_grab/measuredgrab/bench/Round", "<init>", "(IIJJJLjava/util/Map;)V"⟩ : MethodName) = true := plainFor_of_name (by first | (simp [plainName, overriddenIn]; done) | decide +kernel)
theorem own_ef_ini (m : MethodId) (o0 : Addr) (i1 : Int32) (i2 : Int32) (j3 : Int64) (j5 : Int64) (j7 : Int64) : entryFrame m #[(.ref o0), (.int i1), (.int i2), (.long j3), (.long j5), (.long j7), .null] 10 = (mkF m 0 #[.val (.ref o0), .val (.int i1), .val (.int i2), .val (.long j3), .second, .val (.long j5), .second, .val (.long j7), .second, .val .null] []) := by first | (simp [entryFrame, mkF, argsToLocals, Value.category]; done) | rfl
set_option maxRecDepth 65536 in
set_option maxHeartbeats 40000000 in
theorem ini_go {p : Program} {l : Launch} {e : Env} {s : State} {m : MethodId} {args : Array Value} {below : List Frame} {meth : Method} {c : Code} {T : State} {Z : State} {a0 : Array Value} {h : Heap} (X : Stand p l e (⟨1, 0, 0, 32⟩ : Room) s m args below meth c T [] 0 0) (B : Bdy p s m meth c Z a0 "com/example/measured_grab/measuredgrab/bench/Round" "<init>" prog_6_method_1_code 10 none tables_1) (eT : T.heap = h) (o0 : Addr) (i1 : Int32) (i2 : Int32) (j3 : Int64) (j5 : Int64) (j7 : Int64) (n0 : Nat) (Zs : n0 ≤ h.size) (hE : Exa Z h o0 "com/example/measured_grab/measuredgrab/bench/Round") (f_users : Fld Z h o0 "com/example/measured_grab/measuredgrab/bench/Round" "users" "I" (.int (0 : Int32))) (f_shares : Fld Z h o0 "com/example/measured_grab/measuredgrab/bench/Round" "shares" "I" (.int (0 : Int32))) (f_wallNanos : Fld Z h o0 "com/example/measured_grab/measuredgrab/bench/Round" "wallNanos" "J" (.long (0 : Int64))) (f_grants : Fld Z h o0 "com/example/measured_grab/measuredgrab/bench/Round" "grants" "J" (.long (0 : Int64))) (f_usersGrantedTwice : Fld Z h o0 "com/example/measured_grab/measuredgrab/bench/Round" "usersGrantedTwice" "J" (.long (0 : Int64))) (f_failures : Fld Z h o0 "com/example/measured_grab/measuredgrab/bench/Round" "failures" "Ljava/util/Map;" .null) (g : n0 ≤ o0) :
    Go p e below s 0 0 (fun v h2 L => v = none ∧ Fr n0 L ∧ Keep h h2 [o0] ∧ Fld Z h2 o0 "com/example/measured_grab/measuredgrab/bench/Round" "users" "I" (.int i1) ∧ Fld Z h2 o0 "com/example/measured_grab/measuredgrab/bench/Round" "wallNanos" "J" (.long (mx_f0 (1 : Int64) j3))) (T.setTop (mkF m 0 #[.val (.ref o0), .val (.int i1), .val (.int i2), .val (.long j3), .second, .val (.long j5), .second, .val (.long j7), .second, .val .null] [])) := by
  have N := Fr.nil n0
  have K := Keep.refl h [o0]
  refine g_aloadN X B ini_d0 (pc' := 1) rfl (v := (.ref o0)) rfl rfl ?_
  refine g_initO X B 0 (B.w 7 rfl) (B.w 8 rfl) (B.w 9 rfl) eT rfl ini_d1 (pc' := 4) rfl (by decide) (Nat.le_of_eq rfl) (by decide) (fun T1 X1 e1 => ?_)
  refine g_aloadN X1 B ini_d4 (pc' := 5) rfl (v := (.ref o0)) rfl rfl ?_
  refine g_iloadN X1 B ini_d5 (pc' := 6) rfl (v := i1) rfl ?_
  refine g_putF X1 B (B.w 10 rfl) Via.refl e1 f_users hE (Or.inr ⟨B.w 11 rfl, rfl, rfl⟩) (B.w 2 rfl) (ty := .int) (by decide) rfl rfl ini_d6 (pc' := 9) rfl (fun T2 h2 X2 e2 W2 => ?_)
  have N2 := Fr.snoc X2 N g
  have E_o0_2 := hE.wr W2
  have F_o0_users_2 := f_users.same W2
  have F_o0_shares_2 := f_shares.other W2 (Or.inr (slot_ne (Or.inr (B.w 13 rfl)) (Or.inr (B.w 11 rfl)) (by decide) (t := .int) (t' := .int) (by decide) (by decide)))
  have F_o0_wallNanos_2 := f_wallNanos.other W2 (Or.inr (slot_ne (Or.inr (B.w 19 rfl)) (Or.inr (B.w 11 rfl)) (by decide) (t := .long) (t' := .int) (by decide) (by decide)))
  have F_o0_grants_2 := f_grants.other W2 (Or.inr (slot_ne (Or.inr (B.w 21 rfl)) (Or.inr (B.w 11 rfl)) (by decide) (t := .long) (t' := .int) (by decide) (by decide)))
  have F_o0_usersGrantedTwice_2 := f_usersGrantedTwice.other W2 (Or.inr (slot_ne (Or.inr (B.w 23 rfl)) (Or.inr (B.w 11 rfl)) (by decide) (t := .long) (t' := .int) (by decide) (by decide)))
  have F_o0_failures_2 := f_failures.other W2 (Or.inr (slot_ne (Or.inr (B.w 25 rfl)) (Or.inr (B.w 11 rfl)) (by decide) (t := (.object "java/util/Map")) (t' := .int) (by decide) (by decide)))
  have Zs_2 := Nat.le_trans Zs (Keep.of_wr W2).1
  have K_2 := K.wr W2 (Or.inl (List.mem_of_getElem? (i := 0) rfl))
  refine g_aloadN X2 B ini_d9 (pc' := 10) rfl (v := (.ref o0)) rfl rfl ?_
  refine g_iloadN X2 B ini_d10 (pc' := 11) rfl (v := i2) rfl ?_
  refine g_putF X2 B (B.w 12 rfl) Via.refl e2 F_o0_shares_2 E_o0_2 (Or.inr ⟨B.w 13 rfl, rfl, rfl⟩) (B.w 2 rfl) (ty := .int) (by decide) rfl rfl ini_d11 (pc' := 14) rfl (fun T3 h3 X3 e3 W3 => ?_)
  have N3 := Fr.snoc X3 N2 g
  have E_o0_3 := E_o0_2.wr W3
  have F_o0_users_3 := F_o0_users_2.other W3 (Or.inr (slot_ne (Or.inr (B.w 11 rfl)) (Or.inr (B.w 13 rfl)) (by decide) (t := .int) (t' := .int) (by decide) (by decide)))
  have F_o0_shares_3 := F_o0_shares_2.same W3
  have F_o0_wallNanos_3 := F_o0_wallNanos_2.other W3 (Or.inr (slot_ne (Or.inr (B.w 19 rfl)) (Or.inr (B.w 13 rfl)) (by decide) (t := .long) (t' := .int) (by decide) (by decide)))
  have F_o0_grants_3 := F_o0_grants_2.other W3 (Or.inr (slot_ne (Or.inr (B.w 21 rfl)) (Or.inr (B.w 13 rfl)) (by decide) (t := .long) (t' := .int) (by decide) (by decide)))
  have F_o0_usersGrantedTwice_3 := F_o0_usersGrantedTwice_2.other W3 (Or.inr (slot_ne (Or.inr (B.w 23 rfl)) (Or.inr (B.w 13 rfl)) (by decide) (t := .long) (t' := .int) (by decide) (by decide)))
  have F_o0_failures_3 := F_o0_failures_2.other W3 (Or.inr (slot_ne (Or.inr (B.w 25 rfl)) (Or.inr (B.w 13 rfl)) (by decide) (t := (.object "java/util/Map")) (t' := .int) (by decide) (by decide)))
  have Zs_3 := Nat.le_trans Zs_2 (Keep.of_wr W3).1
  have K_3 := K_2.wr W3 (Or.inl (List.mem_of_getElem? (i := 0) rfl))
  refine g_aloadN X3 B ini_d14 (pc' := 15) rfl (v := (.ref o0)) rfl rfl ?_
  refine g_lconst X3 B ini_d15 (pc' := 16) rfl (v := (1 : Int64)) (by decide) ?_
  refine g_lloadN X3 B ini_d16 (pc' := 17) rfl (v := j3) rfl ?_
  refine g_callP X3 B e3 1 (y := (⟨"java/lang/Math", "max", "(JJ)J"⟩ : MethodName)) (argsL := [(.long (1 : Int64)), (.long j3)]) (rest := [(.ref o0)]) (w := (.long (mx_f0 (1 : Int64) j3))) (B.w 14 rfl) (B.w 15 rfl) (B.w 16 rfl) (B.w 17 rfl) (by decide) (mx_met l Z a0 B.2.2.1 [] h3 (1 : Int64) j3) (by decide) (by decide) (by decide) (by decide) rfl (lenOf own_pd0 rfl) rfl (Nat.le_of_eq rfl) ini_d17 (pc' := 20) rfl (fun T4 X4 e4 => ?_)
  refine g_putF X4 B (B.w 18 rfl) Via.refl e4 F_o0_wallNanos_3 E_o0_3 (Or.inr ⟨B.w 19 rfl, rfl, rfl⟩) (B.w 2 rfl) (ty := .long) (by decide) rfl rfl ini_d20 (pc' := 23) rfl (fun T5 h5 X5 e5 W5 => ?_)
  have N5 := Fr.snoc X5 N3 g
  have E_o0_5 := E_o0_3.wr W5
  have F_o0_users_5 := F_o0_users_3.other W5 (Or.inr (slot_ne (Or.inr (B.w 11 rfl)) (Or.inr (B.w 19 rfl)) (by decide) (t := .int) (t' := .long) (by decide) (by decide)))
  have F_o0_shares_5 := F_o0_shares_3.other W5 (Or.inr (slot_ne (Or.inr (B.w 13 rfl)) (Or.inr (B.w 19 rfl)) (by decide) (t := .int) (t' := .long) (by decide) (by decide)))
  have F_o0_wallNanos_5 := F_o0_wallNanos_3.same W5
  have F_o0_grants_5 := F_o0_grants_3.other W5 (Or.inr (slot_ne (Or.inr (B.w 21 rfl)) (Or.inr (B.w 19 rfl)) (by decide) (t := .long) (t' := .long) (by decide) (by decide)))
  have F_o0_usersGrantedTwice_5 := F_o0_usersGrantedTwice_3.other W5 (Or.inr (slot_ne (Or.inr (B.w 23 rfl)) (Or.inr (B.w 19 rfl)) (by decide) (t := .long) (t' := .long) (by decide) (by decide)))
  have F_o0_failures_5 := F_o0_failures_3.other W5 (Or.inr (slot_ne (Or.inr (B.w 25 rfl)) (Or.inr (B.w 19 rfl)) (by decide) (t := (.object "java/util/Map")) (t' := .long) (by decide) (by decide)))
  have Zs_5 := Nat.le_trans Zs_3 (Keep.of_wr W5).1
  have K_5 := K_3.wr W5 (Or.inl (List.mem_of_getElem? (i := 0) rfl))
  refine g_aloadN X5 B ini_d23 (pc' := 24) rfl (v := (.ref o0)) rfl rfl ?_
  refine g_lload X5 B ini_d24 (pc' := 26) rfl (v := j5) rfl ?_
  refine g_putF X5 B (B.w 20 rfl) Via.refl e5 F_o0_grants_5 E_o0_5 (Or.inr ⟨B.w 21 rfl, rfl, rfl⟩) (B.w 2 rfl) (ty := .long) (by decide) rfl rfl ini_d26 (pc' := 29) rfl (fun T6 h6 X6 e6 W6 => ?_)
  have N6 := Fr.snoc X6 N5 g
  have E_o0_6 := E_o0_5.wr W6
  have F_o0_users_6 := F_o0_users_5.other W6 (Or.inr (slot_ne (Or.inr (B.w 11 rfl)) (Or.inr (B.w 21 rfl)) (by decide) (t := .int) (t' := .long) (by decide) (by decide)))
  have F_o0_shares_6 := F_o0_shares_5.other W6 (Or.inr (slot_ne (Or.inr (B.w 13 rfl)) (Or.inr (B.w 21 rfl)) (by decide) (t := .int) (t' := .long) (by decide) (by decide)))
  have F_o0_wallNanos_6 := F_o0_wallNanos_5.other W6 (Or.inr (slot_ne (Or.inr (B.w 19 rfl)) (Or.inr (B.w 21 rfl)) (by decide) (t := .long) (t' := .long) (by decide) (by decide)))
  have F_o0_grants_6 := F_o0_grants_5.same W6
  have F_o0_usersGrantedTwice_6 := F_o0_usersGrantedTwice_5.other W6 (Or.inr (slot_ne (Or.inr (B.w 23 rfl)) (Or.inr (B.w 21 rfl)) (by decide) (t := .long) (t' := .long) (by decide) (by decide)))
  have F_o0_failures_6 := F_o0_failures_5.other W6 (Or.inr (slot_ne (Or.inr (B.w 25 rfl)) (Or.inr (B.w 21 rfl)) (by decide) (t := (.object "java/util/Map")) (t' := .long) (by decide) (by decide)))
  have Zs_6 := Nat.le_trans Zs_5 (Keep.of_wr W6).1
  have K_6 := K_5.wr W6 (Or.inl (List.mem_of_getElem? (i := 0) rfl))
  refine g_aloadN X6 B ini_d29 (pc' := 30) rfl (v := (.ref o0)) rfl rfl ?_
  refine g_lload X6 B ini_d30 (pc' := 32) rfl (v := j7) rfl ?_
  refine g_putF X6 B (B.w 22 rfl) Via.refl e6 F_o0_usersGrantedTwice_6 E_o0_6 (Or.inr ⟨B.w 23 rfl, rfl, rfl⟩) (B.w 2 rfl) (ty := .long) (by decide) rfl rfl ini_d32 (pc' := 35) rfl (fun T7 h7 X7 e7 W7 => ?_)
  have N7 := Fr.snoc X7 N6 g
  have E_o0_7 := E_o0_6.wr W7
  have F_o0_users_7 := F_o0_users_6.other W7 (Or.inr (slot_ne (Or.inr (B.w 11 rfl)) (Or.inr (B.w 23 rfl)) (by decide) (t := .int) (t' := .long) (by decide) (by decide)))
  have F_o0_shares_7 := F_o0_shares_6.other W7 (Or.inr (slot_ne (Or.inr (B.w 13 rfl)) (Or.inr (B.w 23 rfl)) (by decide) (t := .int) (t' := .long) (by decide) (by decide)))
  have F_o0_wallNanos_7 := F_o0_wallNanos_6.other W7 (Or.inr (slot_ne (Or.inr (B.w 19 rfl)) (Or.inr (B.w 23 rfl)) (by decide) (t := .long) (t' := .long) (by decide) (by decide)))
  have F_o0_grants_7 := F_o0_grants_6.other W7 (Or.inr (slot_ne (Or.inr (B.w 21 rfl)) (Or.inr (B.w 23 rfl)) (by decide) (t := .long) (t' := .long) (by decide) (by decide)))
  have F_o0_usersGrantedTwice_7 := F_o0_usersGrantedTwice_6.same W7
  have F_o0_failures_7 := F_o0_failures_6.other W7 (Or.inr (slot_ne (Or.inr (B.w 25 rfl)) (Or.inr (B.w 23 rfl)) (by decide) (t := (.object "java/util/Map")) (t' := .long) (by decide) (by decide)))
  have Zs_7 := Nat.le_trans Zs_6 (Keep.of_wr W7).1
  have K_7 := K_6.wr W7 (Or.inl (List.mem_of_getElem? (i := 0) rfl))
  refine g_aloadN X7 B ini_d35 (pc' := 36) rfl (v := (.ref o0)) rfl rfl ?_
  refine g_aload X7 B ini_d36 (pc' := 38) rfl (v := .null) rfl rfl ?_
  refine g_putF X7 B (B.w 24 rfl) Via.refl e7 F_o0_failures_7 E_o0_7 (Or.inr ⟨B.w 25 rfl, rfl, rfl⟩) (B.w 2 rfl) (ty := (.object "java/util/Map")) (by decide) rfl rfl ini_d38 (pc' := 41) rfl (fun T8 h8 X8 e8 W8 => ?_)
  have N8 := Fr.snoc X8 N7 g
  have E_o0_8 := E_o0_7.wr W8
  have F_o0_users_8 := F_o0_users_7.other W8 (Or.inr (slot_ne (Or.inr (B.w 11 rfl)) (Or.inr (B.w 25 rfl)) (by decide) (t := .int) (t' := (.object "java/util/Map")) (by decide) (by decide)))
  have F_o0_shares_8 := F_o0_shares_7.other W8 (Or.inr (slot_ne (Or.inr (B.w 13 rfl)) (Or.inr (B.w 25 rfl)) (by decide) (t := .int) (t' := (.object "java/util/Map")) (by decide) (by decide)))
  have F_o0_wallNanos_8 := F_o0_wallNanos_7.other W8 (Or.inr (slot_ne (Or.inr (B.w 19 rfl)) (Or.inr (B.w 25 rfl)) (by decide) (t := .long) (t' := (.object "java/util/Map")) (by decide) (by decide)))
  have F_o0_grants_8 := F_o0_grants_7.other W8 (Or.inr (slot_ne (Or.inr (B.w 21 rfl)) (Or.inr (B.w 25 rfl)) (by decide) (t := .long) (t' := (.object "java/util/Map")) (by decide) (by decide)))
  have F_o0_usersGrantedTwice_8 := F_o0_usersGrantedTwice_7.other W8 (Or.inr (slot_ne (Or.inr (B.w 23 rfl)) (Or.inr (B.w 25 rfl)) (by decide) (t := .long) (t' := (.object "java/util/Map")) (by decide) (by decide)))
  have F_o0_failures_8 := F_o0_failures_7.same W8
  have Zs_8 := Nat.le_trans Zs_7 (Keep.of_wr W8).1
  have K_8 := K_7.wr W8 (Or.inl (List.mem_of_getElem? (i := 0) rfl))
  exact g_ret0 X8 B rfl ini_d41 (by decide) (by decide) (by rw [e8]; exact ⟨rfl, N8, K_8, F_o0_users_8, F_o0_wallNanos_8⟩)
theorem ini_met (l : Launch) (Z : State) (a0 : Array Value) (hw : ∀ d ∈ tables_1, d.before a0 Z = true) (ws : List Jvm.Cond) (h : Heap) (o0 : Addr) (i1 : Int32) (i2 : Int32) (j3 : Int64) (j5 : Int64) (j7 : Int64) (n0 : Nat) (Zs : n0 ≤ h.size) (hE : Exa Z h o0 "com/example/measured_grab/measuredgrab/bench/Round") (f_users : Fld Z h o0 "com/example/measured_grab/measuredgrab/bench/Round" "users" "I" (.int (0 : Int32))) (f_shares : Fld Z h o0 "com/example/measured_grab/measuredgrab/bench/Round" "shares" "I" (.int (0 : Int32))) (f_wallNanos : Fld Z h o0 "com/example/measured_grab/measuredgrab/bench/Round" "wallNanos" "J" (.long (0 : Int64))) (f_grants : Fld Z h o0 "com/example/measured_grab/measuredgrab/bench/Round" "grants" "J" (.long (0 : Int64))) (f_usersGrantedTwice : Fld Z h o0 "com/example/measured_grab/measuredgrab/bench/Round" "usersGrantedTwice" "J" (.long (0 : Int64))) (f_failures : Fld Z h o0 "com/example/measured_grab/measuredgrab/bench/Round" "failures" "Ljava/util/Map;" .null) (g : n0 ≤ o0) :
    Met l Z (⟨"com/example/measured_grab/measuredgrab/bench/Round", "<init>", "(IIJJJLjava/util/Map;)V"⟩ : MethodName) prog_6_method_1_code 10 none ws (⟨1, 0, 0, 32⟩ : Room) #[(.ref o0), (.int i1), (.int i2), (.long j3), (.long j5), (.long j7), .null] h (fun v h2 L => v = none ∧ Fr n0 L ∧ Keep h h2 [o0] ∧ Fld Z h2 o0 "com/example/measured_grab/measuredgrab/bench/Round" "users" "I" (.int i1) ∧ Fld Z h2 o0 "com/example/measured_grab/measuredgrab/bench/Round" "wallNanos" "J" (.long (mx_f0 (1 : Int64) j3))) :=
  met_of own_pn_ini hw fun p e s m below meth c T X B eT => Go.top (own_ef_ini m o0 i1 i2 j3 j5 j7) (ini_go X B eT o0 i1 i2 j3 j5 j7 n0 Zs hE f_users f_shares f_wallNanos f_grants f_usersGrantedTwice f_failures g)
theorem ra_d0 : decode prog_6_method_2_code 0 = .ok (.aload_n 0, 1) := by decide +kernel
theorem ra_d1 : decode prog_6_method_2_code 1 = .ok (.getfield 7, 3) := by decide +kernel
theorem ra_d4 : decode prog_6_method_2_code 4 = .ok (.i2l, 1) := by decide +kernel
theorem ra_d5 : decode prog_6_method_2_code 5 = .ok (.ldc2_w 36, 3) := by decide +kernel
theorem ra_d8 : decode prog_6_method_2_code 8 = .ok (.lmul, 1) := by decide +kernel
theorem ra_d9 : decode prog_6_method_2_code 9 = .ok (.aload_n 0, 1) := by decide +kernel
theorem ra_d10 : decode prog_6_method_2_code 10 = .ok (.getfield 22, 3) := by decide +kernel
theorem ra_d13 : decode prog_6_method_2_code 13 = .ok (.ldiv, 1) := by decide +kernel
theorem ra_d14 : decode prog_6_method_2_code 14 = .ok (.lreturn, 1) := by decide +kernel
theorem own_pn_ra : plainFor (⟨"com/example/measured_grab/measuredgrab/bench/Round", "rate", "()J"⟩ : MethodName) = true := plainFor_of_name (by first | (simp [plainName, overriddenIn]; done) | decide +kernel)
theorem own_ef_ra (m : MethodId) (o0 : Addr) : entryFrame m #[(.ref o0)] 1 = (mkF m 0 #[.val (.ref o0)] []) := by first | (simp [entryFrame, mkF, argsToLocals, Value.category]; done) | rfl
set_option maxRecDepth 65536 in
set_option maxHeartbeats 40000000 in
theorem ra_go {p : Program} {l : Launch} {e : Env} {s : State} {m : MethodId} {args : Array Value} {below : List Frame} {meth : Method} {c : Code} {T : State} {Z : State} {a0 : Array Value} {h : Heap} (X : Stand p l e (⟨0, 0, 0, 0⟩ : Room) s m args below meth c T [] 0 0) (B : Bdy p s m meth c Z a0 "com/example/measured_grab/measuredgrab/bench/Round" "rate" prog_6_method_2_code 1 (some .long) tables_1) (eT : T.heap = h) (o0 : Addr) (u : Int32) (w : Int64) (Fu : Fld Z h o0 "com/example/measured_grab/measuredgrab/bench/Round" "users" "I" (.int u)) (Fw : Fld Z h o0 "com/example/measured_grab/measuredgrab/bench/Round" "wallNanos" "J" (.long w)) (hw0 : w ≠ 0) :
    Go p e below s 0 0 (PQ (some (.long ((u.toInt64 * (1000000000 : Int64)) / w))) h []) (T.setTop (mkF m 0 #[.val (.ref o0)] [])) := by
  refine g_aloadN X B ra_d0 (pc' := 1) rfl (v := (.ref o0)) rfl rfl ?_
  refine g_getF X B (B.w 10 rfl) Via.refl eT Fu ra_d1 (pc' := 4) rfl (fun T1 X1 e1 => ?_)
  refine g_i2l X1 B ra_d4 (pc' := 5) rfl ?_
  refine g_ldc2 X1 B (B.w 31 rfl) ra_d5 (pc' := 8) rfl ?_
  refine g_lmul X1 B ra_d8 (pc' := 9) rfl ?_
  refine g_aloadN X1 B ra_d9 (pc' := 10) rfl (v := (.ref o0)) rfl rfl ?_
  refine g_getF X1 B (B.w 18 rfl) Via.refl e1 Fw ra_d10 (pc' := 13) rfl (fun T2 X2 e2 => ?_)
  refine g_ldiv X2 B hw0 ra_d13 (pc' := 14) rfl ?_
  exact g_retL X2 B rfl ra_d14 (by decide) (by decide) ⟨rfl, e2, rfl⟩
theorem ra_met (l : Launch) (Z : State) (a0 : Array Value) (hw : ∀ d ∈ tables_1, d.before a0 Z = true) (ws : List Jvm.Cond) (h : Heap) (o0 : Addr) (u : Int32) (w : Int64) (Fu : Fld Z h o0 "com/example/measured_grab/measuredgrab/bench/Round" "users" "I" (.int u)) (Fw : Fld Z h o0 "com/example/measured_grab/measuredgrab/bench/Round" "wallNanos" "J" (.long w)) (hw0 : w ≠ 0) :
    Met l Z (⟨"com/example/measured_grab/measuredgrab/bench/Round", "rate", "()J"⟩ : MethodName) prog_6_method_2_code 1 (some .long) ws (⟨0, 0, 0, 0⟩ : Room) #[(.ref o0)] h (PQ (some (.long ((u.toInt64 * (1000000000 : Int64)) / w))) h []) :=
  met_of own_pn_ra hw fun p e s m below meth c T X B eT => Go.top (own_ef_ra m o0) (ra_go X B eT o0 u w Fu Fw hw0)
theorem own_k0 : (0 : Int32).toInt = 0 := by decide
theorem own_l0 : (0 : Int64).toInt = 0 := by decide
theorem own_l1 : (1 : Int64).toInt = 1 := by decide
theorem own_l1000000000 : (1000000000 : Int64).toInt = 1000000000 := by decide
theorem own_mx (w : Int64) : mx_f0 (1 : Int64) w = (if w < (1 : Int64) then (1 : Int64) else w) ∧ mx_f0 (1 : Int64) w ≠ 0 := by
  have e : (mx_f0 (1 : Int64) w).toInt = if w.toInt < 1 then 1 else w.toInt := by
    simp only [mx_f0, mx_f11, Int64.lt_iff_toInt_lt, own_l1]
    split <;> split <;> (try rw [own_l1]) <;> omega
  constructor
  · apply Int64.toInt_inj.mp
    rw [e]
    by_cases q : w.toInt < 1
    · rw [if_pos q, if_pos (by rw [Int64.lt_iff_toInt_lt, own_l1]; exact q), own_l1]
    · rw [if_neg q, if_neg (by rw [Int64.lt_iff_toInt_lt, own_l1]; exact q)]
  · intro q
    rw [q, own_l0] at e
    split at e <;> omega
theorem own_tail (n w : Int64) (h0 : 0 ≤ n.toInt) (h1 : 1 ≤ w.toInt) : 0 ≤ (n / w).toInt ∧ (n / w).toInt ≤ n.toInt ∧ 0 ≤ (n - (n / w) * w).toInt ∧ (n - (n / w) * w).toInt < w.toInt := by
  have e := (c_ldiv n w w.toInt rfl (fun q => by rw [q] at h1; exact absurd h1 (by decide))).1 h0
  have r := (c_lrem n w w.toInt rfl).1 h0
  have d1 := Int.emod_nonneg n.toInt (show w.toInt ≠ 0 by omega)
  have d2 := Int.emod_lt_of_pos n.toInt (show 0 < w.toInt by omega)
  have d3 : 0 ≤ n.toInt / w.toInt := Int.ediv_nonneg h0 (by omega)
  have d4 : n.toInt / w.toInt ≤ n.toInt := Int.ediv_le_self _ h0
  rw [e, r]; omega
theorem own_n (u : Int32) : 0 ≤ ((u &&& (2147483647 : Int32)).toInt64 * (1000000000 : Int64)).toInt := by
  have e1 := c_mask u 2147483647 31 (by decide) (by decide)
  have e2 := c_i2l (u &&& 2147483647)
  have e3 : ((u &&& 2147483647).toInt64 * 1000000000).toInt = (u &&& 2147483647).toInt64.toInt * 1000000000 := by
    rw [Int64.toInt_mul, own_l1000000000, Int.bmod_def]; omega
  omega
set_option maxRecDepth 65536 in
set_option maxHeartbeats 40000000 in
theorem law_s42 {p : Program} {l : Launch} {e : Env} {s : State} {m : MethodId} {args : Array Value} {below : List Frame} {meth : Method} {c : Code} {T : State} {Z : State} {a0 : Array Value} {h : Heap} {locs : List Loc} (X : Stand p l e room_1 s m args below meth c T locs 1 6) (B : Bdy p s m meth c Z a0 "com/example/measured_grab/measuredgrab/bench/RoundRatePinLaw" "law" code 18 (some .boolean) tables_1) (eT : T.heap = h) (n0 : Nat) (Zs : n0 ≤ h.size) (N : Fr n0 locs) (i0 : Int32) (i1 : Int32) (j2 : Int64) (j4 : Int64) (j6 : Int64) (i8 : Int32) (o9 : Addr) (j10 : Int64) (u0 : Int64)  (hn : 0 ≤ (i8.toInt64 * (1000000000 : Int64)).toInt) (hu : 1 ≤ u0.toInt) (hq : j10 = (i8.toInt64 * (1000000000 : Int64)) / u0) :
    Go p e below s room_1.cells room_1.slots (fun v _ L => v = some (.int 1) ∧ Fr n0 L) (T.setTop (mkF m 42 #[.val (.int i0), .val (.int i1), .val (.long j2), .second, .val (.long j4), .second, .val (.long j6), .second, .val (.int i8), .val (.ref o9), .val (.long j10), .second, .unset, .unset, .unset, .unset, .unset, .unset] [(.long u0)])) := by
  obtain ⟨t1, t2, t3, t4⟩ := own_tail (i8.toInt64 * (1000000000 : Int64)) u0 hn hu
  subst hq
  refine g_lstore X B at_42 (pc' := 44) rfl (Ls' := #[.val (.int i0), .val (.int i1), .val (.long j2), .second, .val (.long j4), .second, .val (.long j6), .second, .val (.int i8), .val (.ref o9), .val (.long ((i8.toInt64 * (1000000000 : Int64)) / u0)), .second, .val (.long u0), .second, .unset, .unset, .unset, .unset]) rfl ?_
  refine g_iload X B at_44 (pc' := 46) rfl (v := i8) rfl ?_
  refine g_i2l X B at_46 (pc' := 47) rfl ?_
  refine g_ldc2 X B (B.w 32 rfl) at_47 (pc' := 50) rfl ?_
  refine g_lmul X B at_50 (pc' := 51) rfl ?_
  refine g_lstore X B at_51 (pc' := 53) rfl (Ls' := #[.val (.int i0), .val (.int i1), .val (.long j2), .second, .val (.long j4), .second, .val (.long j6), .second, .val (.int i8), .val (.ref o9), .val (.long ((i8.toInt64 * (1000000000 : Int64)) / u0)), .second, .val (.long u0), .second, .val (.long ((i8.toInt64) * (1000000000 : Int64))), .second, .unset, .unset]) rfl ?_
  refine g_lload X B at_53 (pc' := 55) rfl (v := ((i8.toInt64 * (1000000000 : Int64)) / u0)) rfl ?_
  refine g_lconst X B at_55 (pc' := 56) rfl (v := (0 : Int64)) (by decide) ?_
  refine g_lcmp_lt X B at_56 at_57 (pcT := 68) (pcF := 60) (by decide) rfl rfl (fun c56_0 => ?_) (fun c56_0 => ?_)
  · exfalso; simp only [Int32.lt_iff_toInt_lt, Int64.lt_iff_toInt_lt, ← Int32.toInt_inj, ← Int64.toInt_inj, own_k0, own_l0, own_l1, own_l1000000000] at  c56_0 t1; try omega
  · refine g_lload X B at_60 (pc' := 62) rfl (v := ((i8.toInt64 * (1000000000 : Int64)) / u0)) rfl ?_
    refine g_lload X B at_62 (pc' := 64) rfl (v := ((i8.toInt64) * (1000000000 : Int64))) rfl ?_
    refine g_lcmp_le X B at_64 at_65 (pcT := 70) (pcF := 68) (by decide) rfl rfl (fun c64_1 => ?_) (fun c64_1 => ?_)
    · exfalso; simp only [Int32.lt_iff_toInt_lt, Int64.lt_iff_toInt_lt, ← Int32.toInt_inj, ← Int64.toInt_inj, own_k0, own_l0, own_l1, own_l1000000000] at c56_0 c64_1 t1; try omega
    · refine g_lload X B at_70 (pc' := 72) rfl (v := ((i8.toInt64) * (1000000000 : Int64))) rfl ?_
      refine g_lload X B at_72 (pc' := 74) rfl (v := ((i8.toInt64 * (1000000000 : Int64)) / u0)) rfl ?_
      refine g_lload X B at_74 (pc' := 76) rfl (v := u0) rfl ?_
      refine g_lmul X B at_76 (pc' := 77) rfl ?_
      refine g_lsub X B at_77 (pc' := 78) rfl ?_
      refine g_lstore X B at_78 (pc' := 80) rfl (Ls' := #[.val (.int i0), .val (.int i1), .val (.long j2), .second, .val (.long j4), .second, .val (.long j6), .second, .val (.int i8), .val (.ref o9), .val (.long ((i8.toInt64 * (1000000000 : Int64)) / u0)), .second, .val (.long u0), .second, .val (.long ((i8.toInt64) * (1000000000 : Int64))), .second, .val (.long (((i8.toInt64) * (1000000000 : Int64)) - (((i8.toInt64 * (1000000000 : Int64)) / u0) * u0))), .second]) rfl ?_
      refine g_lload X B at_80 (pc' := 82) rfl (v := (((i8.toInt64) * (1000000000 : Int64)) - (((i8.toInt64 * (1000000000 : Int64)) / u0) * u0))) rfl ?_
      refine g_lconst X B at_82 (pc' := 83) rfl (v := (0 : Int64)) (by decide) ?_
      refine g_lcmp_lt X B at_83 at_84 (pcT := 99) (pcF := 87) (by decide) rfl rfl (fun c83_2 => ?_) (fun c83_2 => ?_)
      · exfalso; simp only [Int32.lt_iff_toInt_lt, Int64.lt_iff_toInt_lt, ← Int32.toInt_inj, ← Int64.toInt_inj, own_k0, own_l0, own_l1, own_l1000000000] at c56_0 c64_1 c83_2 t1; try omega
      · refine g_lload X B at_87 (pc' := 89) rfl (v := (((i8.toInt64) * (1000000000 : Int64)) - (((i8.toInt64 * (1000000000 : Int64)) / u0) * u0))) rfl ?_
        refine g_lload X B at_89 (pc' := 91) rfl (v := u0) rfl ?_
        refine g_lcmp_ge X B at_91 at_92 (pcT := 99) (pcF := 95) (by decide) rfl rfl (fun c91_3 => ?_) (fun c91_3 => ?_)
        · refine g_iconst X B at_95 (pc' := 96) rfl (v := (1 : Int32)) (by decide) ?_
          refine g_goto X B at_96 (pc' := 100) (by decide) rfl ?_
          exact g_retN X B (t := .boolean) rfl (by simp) at_100 (by decide) (by decide) ⟨congrArg (fun z => some (Value.int z)) (by decide : nar .boolean (1 : Int32) = 1), N⟩
        · exfalso; simp only [Int32.lt_iff_toInt_lt, Int64.lt_iff_toInt_lt, ← Int32.toInt_inj, ← Int64.toInt_inj, own_k0, own_l0, own_l1, own_l1000000000] at c56_0 c64_1 c83_2 c91_3 t1; try omega
set_option maxRecDepth 65536 in
set_option maxHeartbeats 40000000 in
theorem law_go {p : Program} {l : Launch} {e : Env} {s : State} {m : MethodId} {args : Array Value} {below : List Frame} {meth : Method} {c : Code} {T : State} {Z : State} {a0 : Array Value} {h : Heap} (X : Stand p l e room_1 s m args below meth c T [] 0 0) (B : Bdy p s m meth c Z a0 "com/example/measured_grab/measuredgrab/bench/RoundRatePinLaw" "law" code 18 (some .boolean) tables_1) (eT : T.heap = h) (n0 : Nat) (Zs : n0 ≤ h.size) (i0 : Int32) (i1 : Int32) (j2 : Int64) (j4 : Int64) (j6 : Int64)   :
    Go p e below s room_1.cells room_1.slots (fun v _ L => v = some (.int 1) ∧ Fr n0 L) (T.setTop (mkF m 0 #[.val (.int i0), .val (.int i1), .val (.long j2), .second, .val (.long j4), .second, .val (.long j6), .second, .unset, .unset, .unset, .unset, .unset, .unset, .unset, .unset, .unset, .unset] [])) := by
  have N := Fr.nil n0
  refine g_iloadN X B at_0 (pc' := 1) rfl (v := i0) rfl ?_
  refine g_ldc X B (B.w 0 rfl) at_1 (pc' := 3) rfl ?_
  refine g_iand X B at_3 (pc' := 4) rfl ?_
  refine g_istore X B at_4 (pc' := 6) rfl (Ls' := #[.val (.int i0), .val (.int i1), .val (.long j2), .second, .val (.long j4), .second, .val (.long j6), .second, .val (.int (i0 &&& (2147483647 : Int32))), .unset, .unset, .unset, .unset, .unset, .unset, .unset, .unset, .unset]) rfl ?_
  refine g_new X B (B.w 1 rfl) (B.w 2 rfl) (B.w 3 rfl) eT at_6 (pc' := 9) rfl (by decide) (by decide) (fun T1 h1 o1 q1 X1 e1 E1 A1 D1 => ?_)
  have G_o1 : n0 ≤ o1 := by rw [q1]; exact Zs
  have Zs_1 := Nat.le_trans Zs E1.1
  have F_o1_users : Fld Z h1 o1 "com/example/measured_grab/measuredgrab/bench/Round" "users" "I" (.int (0 : Int32)) := D1 (Or.inr (B.w 11 rfl)) (ty := .int) (by decide)
  have F_o1_shares : Fld Z h1 o1 "com/example/measured_grab/measuredgrab/bench/Round" "shares" "I" (.int (0 : Int32)) := D1 (Or.inr (B.w 13 rfl)) (ty := .int) (by decide)
  have F_o1_wallNanos : Fld Z h1 o1 "com/example/measured_grab/measuredgrab/bench/Round" "wallNanos" "J" (.long (0 : Int64)) := D1 (Or.inr (B.w 19 rfl)) (ty := .long) (by decide)
  have F_o1_grants : Fld Z h1 o1 "com/example/measured_grab/measuredgrab/bench/Round" "grants" "J" (.long (0 : Int64)) := D1 (Or.inr (B.w 21 rfl)) (ty := .long) (by decide)
  have F_o1_usersGrantedTwice : Fld Z h1 o1 "com/example/measured_grab/measuredgrab/bench/Round" "usersGrantedTwice" "J" (.long (0 : Int64)) := D1 (Or.inr (B.w 23 rfl)) (ty := .long) (by decide)
  have F_o1_failures : Fld Z h1 o1 "com/example/measured_grab/measuredgrab/bench/Round" "failures" "Ljava/util/Map;" .null := D1 (Or.inr (B.w 25 rfl)) (ty := (.object "java/util/Map")) (by decide)
  refine g_dup X1 B at_9 (pc' := 10) rfl rfl ?_
  refine g_iload X1 B at_10 (pc' := 12) rfl (v := (i0 &&& (2147483647 : Int32))) rfl ?_
  refine g_iloadN X1 B at_12 (pc' := 13) rfl (v := i1) rfl ?_
  refine g_lloadN X1 B at_13 (pc' := 14) rfl (v := j2) rfl ?_
  refine g_lload X1 B at_14 (pc' := 16) rfl (v := j4) rfl ?_
  refine g_lload X1 B at_16 (pc' := 18) rfl (v := j6) rfl ?_
  refine g_null X1 B at_18 (pc' := 19) rfl ?_
  refine g_special X1 B e1 1 (y := (⟨"com/example/measured_grab/measuredgrab/bench/Round", "<init>", "(IIJJJLjava/util/Map;)V"⟩ : MethodName)) (argsL := [(.int (i0 &&& (2147483647 : Int32))), (.int i1), (.long j2), (.long j4), (.long j6), .null]) (rest := [(.ref o1)]) (a := o1) rfl (B.w 4 rfl) (B.w 5 rfl) (B.w 3 rfl) (B.w 6 rfl) (by decide) (ini_met l Z a0 B.2.2.1 [] h1 o1 (i0 &&& (2147483647 : Int32)) i1 j2 j4 j6 n0 Zs_1 A1 F_o1_users F_o1_shares F_o1_wallNanos F_o1_grants F_o1_usersGrantedTwice F_o1_failures G_o1) (by decide) (by decide) (by decide) (by decide) rfl (lenOf own_pd1 rfl) rfl (Nat.le_of_eq rfl) at_19 (pc' := 22) rfl (fun T2 v2 L2 X2 Q2 => ?_)
  obtain ⟨rfl, Nq2, Kq2, Fu2, Fw2⟩ := Q2
  have N2 := Fr.app N Nq2
  have E_o1_2 := A1.keep Kq2
  have Zs_2 := Nat.le_trans Zs_1 Kq2.1
  show Go p e below s _ _ _ (T2.setTop (mkF m 22 #[.val (.int i0), .val (.int i1), .val (.long j2), .second, .val (.long j4), .second, .val (.long j6), .second, .val (.int (i0 &&& (2147483647 : Int32))), .unset, .unset, .unset, .unset, .unset, .unset, .unset, .unset, .unset] [(.ref o1)]))
  refine g_astore X2 B at_22 (pc' := 24) rfl rfl (Ls' := #[.val (.int i0), .val (.int i1), .val (.long j2), .second, .val (.long j4), .second, .val (.long j6), .second, .val (.int (i0 &&& (2147483647 : Int32))), .val (.ref o1), .unset, .unset, .unset, .unset, .unset, .unset, .unset, .unset]) rfl ?_
  refine g_aload X2 B at_24 (pc' := 26) rfl (v := (.ref o1)) rfl rfl ?_
  refine g_virtual X2 B rfl 0 E_o1_2 (y := (⟨"com/example/measured_grab/measuredgrab/bench/Round", "rate", "()J"⟩ : MethodName)) (argsL := []) (rest := []) (a := o1) (B.w 26 rfl) (B.w 27 rfl) (B.w 29 rfl) (B.w 28 rfl) (B.w 3 rfl) (B.w 30 rfl) (by decide) (ra_met l Z a0 B.2.2.1 [] T2.heap o1 (i0 &&& (2147483647 : Int32)) (mx_f0 (1 : Int64) j2) Fu2 Fw2 (own_mx j2).2) (by decide) (by decide) (by decide) (by decide) rfl (lenOf own_pd2 rfl) rfl (Nat.le_of_eq rfl) at_26 (pc' := 29) rfl (fun T3 v3 L3 X3 Q3 => ?_)
  obtain ⟨rfl, hh3, rfl⟩ := Q3
  rw [List.append_nil] at X3
  show Go p e below s _ _ _ (T3.setTop (mkF m 29 #[.val (.int i0), .val (.int i1), .val (.long j2), .second, .val (.long j4), .second, .val (.long j6), .second, .val (.int (i0 &&& (2147483647 : Int32))), .val (.ref o1), .unset, .unset, .unset, .unset, .unset, .unset, .unset, .unset] [(.long (((i0 &&& (2147483647 : Int32)).toInt64 * (1000000000 : Int64)) / (mx_f0 (1 : Int64) j2)))]))
  refine g_lstore X3 B at_29 (pc' := 31) rfl (Ls' := #[.val (.int i0), .val (.int i1), .val (.long j2), .second, .val (.long j4), .second, .val (.long j6), .second, .val (.int (i0 &&& (2147483647 : Int32))), .val (.ref o1), .val (.long (((i0 &&& (2147483647 : Int32)).toInt64 * (1000000000 : Int64)) / (mx_f0 (1 : Int64) j2))), .second, .unset, .unset, .unset, .unset, .unset, .unset]) rfl ?_
  refine g_lloadN X3 B at_31 (pc' := 32) rfl (v := j2) rfl ?_
  refine g_lconst X3 B at_32 (pc' := 33) rfl (v := (1 : Int64)) (by decide) ?_
  refine g_lcmp_ge X3 B at_33 at_34 (pcT := 41) (pcF := 37) (by decide) rfl rfl (fun c33_0 => ?_) (fun c33_0 => ?_)
  · refine g_lconst X3 B at_37 (pc' := 38) rfl (v := (1 : Int64)) (by decide) ?_
    refine g_goto X3 B at_38 (pc' := 42) (by decide) rfl ?_
    exact law_s42 X3 B hh3 n0 Zs_2 N2 (i0) (i1) (j2) (j4) (j6) ((i0 &&& (2147483647 : Int32))) (o1) ((((i0 &&& (2147483647 : Int32)).toInt64 * (1000000000 : Int64)) / (mx_f0 (1 : Int64) j2))) ((1 : Int64)) (own_n i0) (by decide) (by rw [(own_mx j2).1, if_pos c33_0])
  · refine g_lloadN X3 B at_41 (pc' := 42) rfl (v := j2) rfl ?_
    exact law_s42 X3 B hh3 n0 Zs_2 N2 (i0) (i1) (j2) (j4) (j6) ((i0 &&& (2147483647 : Int32))) (o1) ((((i0 &&& (2147483647 : Int32)).toInt64 * (1000000000 : Int64)) / (mx_f0 (1 : Int64) j2))) (j2) (own_n i0) (by have := c33_0; rw [Int64.lt_iff_toInt_lt, own_l1] at this; omega) (by rw [(own_mx j2).1, if_neg c33_0])
theorem own_pn_law : plainFor (⟨"com/example/measured_grab/measuredgrab/bench/RoundRatePinLaw", "law", "(IIJJJ)Z"⟩ : MethodName) = true := plainFor_of_name (by first | (simp [plainName, overriddenIn]; done) | decide +kernel)
theorem own_ef_law (m : MethodId) (i0 : Int32) (i1 : Int32) (j2 : Int64) (j4 : Int64) (j6 : Int64) : entryFrame m #[(.int i0), (.int i1), (.long j2), (.long j4), (.long j6)] 18 = (mkF m 0 #[.val (.int i0), .val (.int i1), .val (.long j2), .second, .val (.long j4), .second, .val (.long j6), .second, .unset, .unset, .unset, .unset, .unset, .unset, .unset, .unset, .unset, .unset] []) := by first | (simp [entryFrame, mkF, argsToLocals, Value.category]; done) | rfl
theorem own_rm (l : Launch) (Z : State) (a0 : Array Value) (hw : ∀ d ∈ tables_1, d.before a0 Z = true) (ws : List Jvm.Cond) (h : Heap) (n0 : Nat) (Zs : n0 ≤ h.size) (i0 : Int32) (i1 : Int32) (j2 : Int64) (j4 : Int64) (j6 : Int64)   :
    Met l Z x code maxLocals ret ws room_1 #[(.int i0), (.int i1), (.long j2), (.long j4), (.long j6)] h (fun v _ L => v = some (.int 1) ∧ Fr n0 L) :=
  met_of own_pn_law hw fun p e s m below meth c T X B eT => Go.top (own_ef_law m i0 i1 j2 j4 j6) (law_go X B eT n0 Zs i0 i1 j2 j4 j6 )
set_option maxRecDepth 65536 in
set_option maxHeartbeats 40000000 in
theorem comes_1 {Post : Tables → Env → Array Value → State → Outcome → State → Prop} (hpost : ∀ tb e args s v u, (limb_1_1.after args s (.returned v) u = true ∧ limb_1_2.after args s (.returned v) u = true ∧ True) → FrameEnd s (.returned v) u (Jvm.fieldLocs frame_1_writes args s ++ Jvm.arrayLocs frame_1_arrays args s ++ Jvm.staticLocs frame_1_statics s) 16 128 → Post tb e args s (.returned v) u) :
    ArmFor flags0 classFile x code maxLocals ret World_1 tables_1 room_1 Calls_1 rest_1 Pre_1 Post := by
  intro l hfl _ _ p e ha hc hk s m args below hf hA hF happ hP
  obtain ⟨hcalls, hrest, hpre⟩ := hP
  obtain ⟨-, -, -, hnamed, -, -, -, hat⟩ := (Spec.applies_iff hf).mp happ
  obtain ⟨hg, hn⟩ := and_e (Cond.before_iff.mp (show (Jvm.Cond.and given_1 narrow_1).before args s = true from hpre))
  obtain ⟨h1, g1⟩ := and_e hg
  obtain ⟨k0, g2⟩ := and_e g1
  obtain ⟨k1, g3⟩ := and_e g2
  obtain ⟨k2, g4⟩ := and_e g3
  obtain ⟨k3, g5⟩ := and_e g4
  obtain ⟨w0, w1, w2, w3, w4, rfl⟩ : ∃ w0 w1 w2 w3 w4 : Value, args = #[w0, w1, w2, w3, w4] := by
    have hs : args.size = 5 := by simpa [Cond.value, given_1] using h1
    obtain ⟨L⟩ := args
    match L, hs with
    | [w0, w1, w2, w3, w4], _ => exact ⟨w0, w1, w2, w3, w4, rfl⟩
  have hw := fun d (hd : d ∈ tables_1) => atoms_spec (ws := Jvm.Cond.code x code maxLocals ret :: tables_1) hat d (List.mem_cons_of_mem _ hd)
  obtain ⟨z0, q0⟩ := is_v k0
  obtain rfl : w0 = (.int z0) := Option.some.inj q0
  obtain ⟨z1, q1⟩ := is_v k1
  obtain rfl : w1 = (.int z1) := Option.some.inj q1
  obtain ⟨z2, q2⟩ := isL_v k2
  obtain rfl : w2 = (.long z2) := Option.some.inj q2
  obtain ⟨z3, q3⟩ := isL_v k3
  obtain rfl : w3 = (.long z3) := Option.some.inj q3
  obtain ⟨z4, q4⟩ := isL_v g5
  obtain rfl : w4 = (.long z4) := Option.some.inj q4
  obtain ⟨n, o, h1, h2, h3, _, L, rfl, ⟨rfl, N⟩, hq⟩ := own_rm l s _ hw tables_1 s.heap s.heap.size (Nat.le_refl _) z0 z1 z2 z3 z4  p e ha hc hk s m _ below hf ((Spec.applies_iff_loose hf).mp happ).1 ⟨rfl, State.Warmed39.refl s, rfl⟩ trivial
  refine ⟨n, _, h1, h2, h3, hpost _ _ _ _ _ _ ⟨Cond.after_iff.mpr rfl, Cond.after_iff.mpr (eq_i res_at (Term.int_eval (1)) rfl), trivial⟩ ⟨hq.1, hq.2.1, (hq.2.2.sift fun y hy => Or.inr (N y hy)).mono (by decide) (by decide)⟩⟩
theorem main_1_1 : Claimed_1_1 := comes_1 fun _ _ _ _ _ _ h hF => ⟨h.1, hF⟩
theorem main_1_2 : Claimed_1_2 := comes_1 fun _ _ _ _ _ _ h hF => ⟨h.2.1, hF⟩
end Jvm.Pilot.@@N@@
namespace Jvm.Pilot.@@N@@
open Jvm Jvm.ClassFile Sem Op Lib Jvm.Free Jvm.Stand Jvm.Pilot.@@N@@.Jvm.D
/-! MADE BY PROGRAM (witnessworld.py) out of the Statement's table words and the real class files: 10 classes; the members and pool entries that the words name. The judged class is class 1, her method 1. -/
namespace start1
open Jvm.ClassFile
def u (s : String) : CpInfo := .utf8 (stringToUtf16 s)
/-- a pool by its gaps: so many unusable entries, then the entry; so many at the end -/
def gap : Nat → List CpInfo → List CpInfo
  | 0, r => r
  | n + 1, r => .unusable :: gap n r
def poolList (es : List (Nat × CpInfo)) (last : Nat) : List CpInfo := es.foldr (fun e r => gap e.1 (e.2 :: r)) (gap last [])
def pool (es : List (Nat × CpInfo)) (last : Nat) : Array CpInfo := ⟨poolList es last⟩
def fileOf (pool : Array CpInfo) (this : Nat) (attrs : Array Attribute := #[]) (ms : Array MethodInfo := #[]) (fl : Nat := 33) (sup : Nat := 0) (ifs : Array Nat := #[]) (fds : Array FieldInfo := #[]) : ClassFile where
  minorVersion := 0
  majorVersion := 65
  constantPool := pool
  accessFlags := fl
  thisClass := this
  superClass := sup
  interfaces := ifs
  fields := fds
  methods := ms
  attributes := attrs
def plain (name : String) (sup : Option ClassId) : Class where
  name := name
  kind := .ordinary
  loader := none
  accessFlags := 33
  super := sup
  interfaces := #[]
  cf := none
  fields := #[]
  methods := #[]
  instanceTypes := #[]
  staticTypes := #[]
  resolved := #[]
  callSites := []
  init := .initialized
  statics := none
  mirror := none

def pool0 : Array CpInfo := pool [(5, u "<init>"), (0, u "()V"), (1, .class_ 10), (1, u "java/lang/Object")] 113

def k0c0 : Code := { maxStack := 0, maxLocals := 1, code := object_method_1_code, exceptionTable := #[], attributes := #[] }
def k0m0 : Method := { name := "<init>", desc := "()V", sig := { parameters := [], returnType := none }, accessFlags := 1, code := some k0c0 }
/-- java/lang/Object -/
def k0 : Class := { plain "java/lang/Object" none with
  accessFlags := 33
  interfaces := #[]
  cf := some (fileOf pool0 8 #[] #[{ accessFlags := 1, nameIndex := 5, descriptorIndex := 6, attributes := #[] }] 33 0 #[] #[])
  fields := #[]
  methods := #[k0m0]
  instanceTypes := #[]
  staticTypes := #[]
  resolved := Array.replicate 124 none
  statics := none }

def pool1 : Array CpInfo := pool [(2, .class_ 4), (1, u "java/lang/Object"), (0, u "<init>"), (0, u "()V"), (0, .integer 2147483647), (0, .class_ 9), (0, u "com/example/measured_grab/measuredgrab/bench/Round"), (0, .methodref 8 11), (0, .nameAndType 5 12), (0, u "(IIJJJLjava/util/Map;)V"), (0, .methodref 8 14), (0, .nameAndType 15 16), (0, u "rate"), (0, u "()J"), (0, .long 1000000000), (1, .class_ 20), (0, u "com/example/measured_grab/measuredgrab/bench/RoundRatePinLaw"), (2, u "law"), (0, u "(IIJJJ)Z")] 3

def k1m0 : Method := { name := "<init>", desc := "()V", sig := { parameters := [], returnType := none }, accessFlags := 1, code := none }
def k1c1 : Code := { maxStack := 11, maxLocals := 18, code := code, exceptionTable := #[], attributes := #[] }
def k1m1 : Method := { name := "law", desc := "(IIJJJ)Z", sig := { parameters := [.int, .int, .long, .long, .long], returnType := some .boolean }, accessFlags := 9, code := some k1c1 }
/-- com/example/measured_grab/measuredgrab/bench/RoundRatePinLaw -/
def k1 : Class := { plain "com/example/measured_grab/measuredgrab/bench/RoundRatePinLaw" (some 0) with
  accessFlags := 49
  interfaces := #[]
  cf := some (fileOf pool1 19 #[] #[{ accessFlags := 1, nameIndex := 5, descriptorIndex := 6, attributes := #[] }, { accessFlags := 9, nameIndex := 23, descriptorIndex := 24, attributes := #[] }] 49 2 #[] #[])
  fields := #[]
  methods := #[k1m0, k1m1]
  instanceTypes := #[]
  staticTypes := #[]
  resolved := Array.replicate 28 none
  statics := none }

def pool2 : Array CpInfo := pool [(1, .methodref 2 3), (0, .class_ 4), (0, .nameAndType 5 6), (0, u "java/lang/Object"), (0, u "<init>"), (0, u "()V"), (0, .fieldref 8 9), (0, .class_ 10), (0, .nameAndType 11 12), (0, u "com/example/measured_grab/measuredgrab/bench/Round"), (0, u "users"), (0, u "I"), (0, .fieldref 8 14), (0, .nameAndType 15 12), (0, u "shares"), (0, .methodref 17 18), (0, .class_ 19), (0, .nameAndType 20 21), (0, u "java/lang/Math"), (0, u "max"), (0, u "(JJ)J"), (0, .fieldref 8 23), (0, .nameAndType 24 25), (0, u "wallNanos"), (0, u "J"), (0, .fieldref 8 27), (0, .nameAndType 28 25), (0, u "grants"), (0, .fieldref 8 30), (0, .nameAndType 31 25), (0, u "usersGrantedTwice"), (0, .fieldref 8 33), (0, .nameAndType 34 35), (0, u "failures"), (0, u "Ljava/util/Map;"), (0, .long 1000000000), (28, u "()J"), (6, u "(IIJJJLjava/util/Map;)V"), (3, u "rate")] 30

def k2c0 : Code := { maxStack := 5, maxLocals := 10, code := prog_6_method_1_code, exceptionTable := #[], attributes := #[] }
def k2m0 : Method := { name := "<init>", desc := "(IIJJJLjava/util/Map;)V", sig := { parameters := [.int, .int, .long, .long, .long, (.object "java/util/Map")], returnType := none }, accessFlags := 0, code := some k2c0 }
def k2c1 : Code := { maxStack := 4, maxLocals := 1, code := prog_6_method_2_code, exceptionTable := #[], attributes := #[] }
def k2m1 : Method := { name := "rate", desc := "()J", sig := { parameters := [], returnType := some .long }, accessFlags := 0, code := some k2c1 }
/-- com/example/measured_grab/measuredgrab/bench/Round -/
def k2 : Class := { plain "com/example/measured_grab/measuredgrab/bench/Round" (some 0) with
  accessFlags := 32
  interfaces := #[]
  cf := some (fileOf pool2 8 #[] #[{ accessFlags := 0, nameIndex := 5, descriptorIndex := 72, attributes := #[] }, { accessFlags := 0, nameIndex := 76, descriptorIndex := 65, attributes := #[] }] 32 2 #[] #[{ accessFlags := 18, nameIndex := 11, descriptorIndex := 12, attributes := #[] }, { accessFlags := 18, nameIndex := 15, descriptorIndex := 12, attributes := #[] }, { accessFlags := 18, nameIndex := 24, descriptorIndex := 25, attributes := #[] }, { accessFlags := 18, nameIndex := 28, descriptorIndex := 25, attributes := #[] }, { accessFlags := 18, nameIndex := 31, descriptorIndex := 25, attributes := #[] }, { accessFlags := 18, nameIndex := 34, descriptorIndex := 35, attributes := #[] }])
  fields := #[{ name := "users", type := .int, accessFlags := 18, slot := 0, constantValue := 0 }, { name := "shares", type := .int, accessFlags := 18, slot := 1, constantValue := 0 }, { name := "wallNanos", type := .long, accessFlags := 18, slot := 2, constantValue := 0 }, { name := "grants", type := .long, accessFlags := 18, slot := 3, constantValue := 0 }, { name := "usersGrantedTwice", type := .long, accessFlags := 18, slot := 4, constantValue := 0 }, { name := "failures", type := (.object "java/util/Map"), accessFlags := 18, slot := 5, constantValue := 0 }]
  methods := #[k2m0, k2m1]
  instanceTypes := #[.int, .int, .long, .long, .long, (.object "java/util/Map")]
  staticTypes := #[]
  resolved := Array.replicate 107 none
  statics := none }

def pool3 : Array CpInfo := pool [(1, .class_ 2), (0, u "java/lang/Math"), (1, .class_ 6), (1, u "java/lang/Object"), (0, u "<init>"), (0, u "()V"), (89, .class_ 100), (1, u "java/lang/Math$RandomNumberGeneratorHolder"), (20, u "(JJ)J"), (50, u "negativeZeroFloatBits"), (0, u "J"), (2, u "negativeZeroDoubleBits"), (21, u "max"), (46, u "$assertionsDisabled"), (0, u "Z"), (91, u "twoToTheDoubleScaleDown"), (0, u "D"), (4, u "twoToTheDoubleScaleUp"), (9, u "E"), (3, u "PI"), (2, u "TAU"), (2, u "DEGREES_TO_RADIANS"), (0, u "RADIANS_TO_DEGREES")] 94

def k3m0 : Method := { name := "<init>", desc := "()V", sig := { parameters := [], returnType := none }, accessFlags := 2, code := none }
def k3c1 : Code := { maxStack := 4, maxLocals := 4, code := jdk_29_method_66_code, exceptionTable := #[], attributes := #[] }
def k3m1 : Method := { name := "max", desc := "(JJ)J", sig := { parameters := [.long, .long], returnType := some .long }, accessFlags := 9, code := some k3c1 }
/-- java/lang/Math -/
def k3 : Class := { plain "java/lang/Math" (some 0) with
  accessFlags := 49
  interfaces := #[]
  cf := some (fileOf pool3 1 #[.nestMembers #[98]] #[{ accessFlags := 2, nameIndex := 7, descriptorIndex := 8, attributes := #[] }, { accessFlags := 9, nameIndex := 198, descriptorIndex := 121, attributes := #[] }] 49 4 #[] #[{ accessFlags := 25, nameIndex := 354, descriptorIndex := 339, attributes := #[] }, { accessFlags := 25, nameIndex := 358, descriptorIndex := 339, attributes := #[] }, { accessFlags := 25, nameIndex := 361, descriptorIndex := 339, attributes := #[] }, { accessFlags := 26, nameIndex := 364, descriptorIndex := 339, attributes := #[] }, { accessFlags := 26, nameIndex := 365, descriptorIndex := 339, attributes := #[] }, { accessFlags := 26, nameIndex := 172, descriptorIndex := 173, attributes := #[] }, { accessFlags := 26, nameIndex := 176, descriptorIndex := 173, attributes := #[] }, { accessFlags := 8, nameIndex := 344, descriptorIndex := 339, attributes := #[] }, { accessFlags := 8, nameIndex := 338, descriptorIndex := 339, attributes := #[] }, { accessFlags := 4120, nameIndex := 245, descriptorIndex := 246, attributes := #[] }])
  fields := #[{ name := "E", type := .double, accessFlags := 25, slot := 0, constantValue := 0 }, { name := "PI", type := .double, accessFlags := 25, slot := 1, constantValue := 0 }, { name := "TAU", type := .double, accessFlags := 25, slot := 2, constantValue := 0 }, { name := "DEGREES_TO_RADIANS", type := .double, accessFlags := 26, slot := 3, constantValue := 0 }, { name := "RADIANS_TO_DEGREES", type := .double, accessFlags := 26, slot := 4, constantValue := 0 }, { name := "negativeZeroFloatBits", type := .long, accessFlags := 26, slot := 5, constantValue := 0 }, { name := "negativeZeroDoubleBits", type := .long, accessFlags := 26, slot := 6, constantValue := 0 }, { name := "twoToTheDoubleScaleUp", type := .double, accessFlags := 8, slot := 7, constantValue := 0 }, { name := "twoToTheDoubleScaleDown", type := .double, accessFlags := 8, slot := 8, constantValue := 0 }, { name := "$assertionsDisabled", type := .boolean, accessFlags := 4120, slot := 9, constantValue := 0 }]
  methods := #[k3m0, k3m1]
  instanceTypes := #[]
  staticTypes := #[.double, .double, .double, .double, .double, .long, .long, .double, .double, .boolean]
  resolved := Array.replicate 460 none
  statics := none }

def pool4 : Array CpInfo := pool [(1, u "java/lang/Cloneable"), (0, .class_ 1), (0, u "java/lang/Object"), (0, .class_ 3)] 3

/-- java/lang/Cloneable -/
def k4 : Class := { plain "java/lang/Cloneable" (some 0) with
  accessFlags := 1537
  interfaces := #[]
  cf := some (fileOf pool4 2 #[] #[] 1537 4 #[] #[])
  fields := #[]
  methods := #[]
  instanceTypes := #[]
  staticTypes := #[]
  resolved := Array.replicate 8 none
  statics := none }

def pool5 : Array CpInfo := pool [(1, u "java/io/Serializable"), (0, .class_ 1), (0, u "java/lang/Object"), (0, .class_ 3)] 3

/-- java/io/Serializable -/
def k5 : Class := { plain "java/io/Serializable" (some 0) with
  accessFlags := 1537
  interfaces := #[]
  cf := some (fileOf pool5 2 #[] #[] 1537 4 #[] #[])
  fields := #[]
  methods := #[]
  instanceTypes := #[]
  staticTypes := #[]
  resolved := Array.replicate 8 none
  statics := none }

/-- the primitive byte -/
def k6 : Class := { plain "byte" none with kind := .primitive 'B', accessFlags := 0x411 }
/-- [B -/
def k7 : Class := { plain "[B" (some 0) with kind := .array 6 .byte, interfaces := #[4, 5], accessFlags := 1041 }

/-- the primitive int -/
def k8 : Class := { plain "int" none with kind := .primitive 'I', accessFlags := 0x411 }
/-- [I -/
def k9 : Class := { plain "[I" (some 0) with kind := .array 8 .int, interfaces := #[4, 5], accessFlags := 1041 }

def heap : Heap := #[]
def classes : Array Class := #[k0, k1, k2, k3, k4, k5, k6, k7, k8, k9]
def interned : List (Array UInt16 × Addr) := []
def slotsUsed : Nat := 0
def theMethod : MethodId := ⟨1, 1⟩
def args0 : Array Value := #[.int 5, .int 3, .long 7, .long 2, .long 2]
def aboutOver (below : List Frame) : State where
  vm := { classes := classes, interned := interned.toArray }
  heap := heap
  slotsUsed := slotsUsed
  threads := #[{ frames := .invoking theMethod args0 :: below }]
def below0 : List Frame := [.native { method := ⟨0, 0⟩, args := #[] }]
def about1 : State := aboutOver below0
def p0 : Program := .bare "" "" ""
def e0 : Env := launch0.env 0 0 0
theorem w_frames : about1.frames = Frame.invoking theMethod args0 :: below0 := rfl
set_option maxRecDepth 65536 in
theorem w_args : argsFit about1.vm theMethod args0 = true := by decide +kernel
set_option maxRecDepth 65536 in
theorem w_heap : heapFits about1 = true := by decide +kernel
set_option maxRecDepth 65536 in
theorem w_runnable : about1.curStatus? = some .runnable := by decide +kernel
set_option maxRecDepth 65536 in
theorem w_alone : about1.alone = true := by decide +kernel
set_option maxRecDepth 65536 in
theorem w_named : about1.methodNamed? x = some theMethod := by decide +kernel
set_option maxRecDepth 65536 in
theorem w_hears : about1.hears theMethod below0 = true := by decide +kernel
set_option maxRecDepth 65536 in
theorem w_ripe : about1.ripe theMethod args0 below0 = true := by decide +kernel
theorem w_running : about1.status = .running := rfl
set_option maxRecDepth 65536 in
theorem w_room : about1.hasRoom e0.platform room_1 = true :=
  launch0.hasRoom_least _ room_1 (by decide +kernel) (by decide +kernel) (by decide +kernel) (by decide +kernel) (by decide +kernel) (by decide +kernel)
theorem allAtoms_all (ts : List Jvm.Cond) (a : Array Jvm.Value) (st : Jvm.State) : (allAtoms ts).before a st = ts.all (fun c => c.before a st) := by
  induction ts with
  | nil => rfl
  | cons c t ih =>
    show (Jvm.Cond.and c (allAtoms t)).before a st = _
    rw [Jvm.Cond.before_and, ih, List.all_cons]
def words1 : List Jvm.Cond := Jvm.Cond.code x code maxLocals ret :: tables_1
/-- a 'code' word, met by the world's own term for the bytes: nothing is compared byte by byte -/
theorem code_word {y : MethodName} {bytes : ByteArray} {mx : Nat} {rt : Option FieldType} {a : Array Value} {s : State} {m : MethodId} {meth : Method} {c : Code} (h1 : s.methodNamed? y = some m) (h2 : s.vm.method? m = some meth) (h3 : meth.code = some c) (h4 : c.code = bytes)
    (h5 : (c.maxLocals == mx && c.exceptionTable.isEmpty && decide (c.maxStack ≤ mostOperands) && decide (meth.sig.returnType = rt) && !meth.locks && decide (parseMethodDescriptor y.desc = some meth.sig)) = true) : (Jvm.Cond.code y bytes mx rt).before a s = true := by
  simp only [Bool.and_eq_true, beq_iff_eq, Bool.not_eq_true', decide_eq_true_eq] at h5
  obtain ⟨⟨⟨⟨⟨g1, g2⟩, g3⟩, g4⟩, g5⟩, g6⟩ := h5
  simp [Cond.before, Cond.holds, Cond.value, h1, h2, h3, h4, g1, g2, g3, g4, g5, g6]
def isCode : Jvm.Cond → Bool
  | .code _ _ _ _ => true
  | _ => false
theorem all_split {L : List Jvm.Cond} {P : Jvm.Cond → Bool} (h1 : L.all (fun c => isCode c || P c) = true) (h2 : ∀ c ∈ L.filter isCode, P c = true) : L.all P = true := by
  refine List.all_eq_true.mpr fun c hc => ?_
  have h := List.all_eq_true.mp h1 c hc
  rcases Bool.eq_false_or_eq_true (isCode c) with hi | hi
  · exact h2 c (List.mem_filter.mpr ⟨hc, hi⟩)
  · simpa [hi] using h
set_option maxRecDepth 65536 in
theorem w_c0 : (Jvm.Cond.code x code maxLocals ret).before args0 about1 = true := code_word (m := ⟨1, 1⟩) (meth := k1m1) (c := k1c1) (by decide +kernel) rfl rfl rfl (by decide +kernel)
set_option maxRecDepth 65536 in
theorem w_c1 : (Jvm.Cond.code ({ cls := "com/example/measured_grab/measuredgrab/bench/Round", name := "<init>", desc := "(IIJJJLjava/util/Map;)V" } : Jvm.MethodName) prog_6_method_1_code (10 : Nat) (Option.none : Option Jvm.ClassFile.FieldType)).before args0 about1 = true := code_word (m := ⟨2, 0⟩) (meth := k2m0) (c := k2c0) (by decide +kernel) rfl rfl rfl (by decide +kernel)
set_option maxRecDepth 65536 in
theorem w_c2 : (Jvm.Cond.code ({ cls := "java/lang/Object", name := "<init>", desc := "()V" } : Jvm.MethodName) object_method_1_code (1 : Nat) (Option.none : Option Jvm.ClassFile.FieldType)).before args0 about1 = true := code_word (m := ⟨0, 0⟩) (meth := k0m0) (c := k0c0) (by decide +kernel) rfl rfl rfl (by decide +kernel)
set_option maxRecDepth 65536 in
theorem w_c3 : (Jvm.Cond.code ({ cls := "java/lang/Math", name := "max", desc := "(JJ)J" } : Jvm.MethodName) jdk_29_method_66_code (4 : Nat) (Option.some Jvm.ClassFile.FieldType.long)).before args0 about1 = true := code_word (m := ⟨3, 1⟩) (meth := k3m1) (c := k3c1) (by decide +kernel) rfl rfl rfl (by decide +kernel)
set_option maxRecDepth 65536 in
theorem w_c4 : (Jvm.Cond.code ({ cls := "com/example/measured_grab/measuredgrab/bench/Round", name := "rate", desc := "()J" } : Jvm.MethodName) prog_6_method_2_code (1 : Nat) (Option.some Jvm.ClassFile.FieldType.long)).before args0 about1 = true := code_word (m := ⟨2, 1⟩) (meth := k2m1) (c := k2c1) (by decide +kernel) rfl rfl rfl (by decide +kernel)
def codes1 : List Jvm.Cond := [Jvm.Cond.code x code maxLocals ret, Jvm.Cond.code ({ cls := "com/example/measured_grab/measuredgrab/bench/Round", name := "<init>", desc := "(IIJJJLjava/util/Map;)V" } : Jvm.MethodName) prog_6_method_1_code (10 : Nat) (Option.none : Option Jvm.ClassFile.FieldType), Jvm.Cond.code ({ cls := "java/lang/Object", name := "<init>", desc := "()V" } : Jvm.MethodName) object_method_1_code (1 : Nat) (Option.none : Option Jvm.ClassFile.FieldType), Jvm.Cond.code ({ cls := "java/lang/Math", name := "max", desc := "(JJ)J" } : Jvm.MethodName) jdk_29_method_66_code (4 : Nat) (Option.some Jvm.ClassFile.FieldType.long), Jvm.Cond.code ({ cls := "com/example/measured_grab/measuredgrab/bench/Round", name := "rate", desc := "()J" } : Jvm.MethodName) prog_6_method_2_code (1 : Nat) (Option.some Jvm.ClassFile.FieldType.long)]
set_option maxRecDepth 65536 in
theorem codes_eq : words1.filter isCode = codes1 := rfl
theorem w_codes : ∀ c ∈ words1.filter isCode, c.before args0 about1 = true := by
  rw [codes_eq]
  intro c hc
  simp only [codes1, List.mem_cons, List.not_mem_nil, or_false] at hc
  rcases hc with rfl | rfl | rfl | rfl | rfl
  · exact w_c0
  · exact w_c1
  · exact w_c2
  · exact w_c3
  · exact w_c4
set_option maxRecDepth 65536 in
theorem w_t1 : (words1.take 24).all (fun c => isCode c || c.before args0 about1) = true := by decide +kernel
set_option maxRecDepth 65536 in
theorem w_t2 : (words1.drop 24).all (fun c => isCode c || c.before args0 about1) = true := by decide +kernel
theorem w_tables : (allAtoms (Jvm.Cond.code x code maxLocals ret :: tables_1)).before args0 about1 = true := by
  rw [allAtoms_all]
  show words1.all (fun c => c.before args0 about1) = true
  refine all_split ?_ w_codes
  rw [← List.take_append_drop 24 words1, List.all_append, w_t1, w_t2]
  rfl
set_option maxRecDepth 65536 in
theorem w_case : (Jvm.Cond.and given_1 narrow_1).before args0 about1 = true := by decide +kernel
theorem w_applies : (headSpec (Jvm.Cond.code x code maxLocals ret :: tables_1) room_1).applies x e0.platform about1 = true :=
  (Spec.applies_iff w_frames).mpr ⟨w_running, w_runnable, w_alone, w_named, w_hears, w_ripe, w_room, w_tables⟩
theorem atStart : AtStart classFile x code maxLocals ret World_1 tables_1 room_1 Calls_1 rest_1 Pre_1 launch0 p0 e0 about1 theMethod args0 below0 :=
  ⟨lists_1, trivial, launch0.admits_env _ _ _, launch0.least_env, fairChoices_fair.cas, fairChoices_fair.clock, w_frames, w_args, w_heap, w_applies, trivial, trivial, w_case⟩
end start1
theorem witness_1 : WitnessClaimed_1 := ⟨start1.p0, start1.e0, start1.about1, start1.theMethod, start1.args0, start1.below0, start1.atStart⟩
end Jvm.Pilot.@@N@@

import JvmDerived
import JvmDerived.Pilot.@@N@@Statement
import JvmDerived.Pilot.@@N@@Code
set_option linter.unusedVariables false
set_option linter.unusedSimpArgs false
namespace Jvm.Pilot.@@N@@
open Jvm Jvm.ClassFile Sem Op Lib Jvm.Free Jvm.Stand Jvm.LawKit Jvm.RoadKit Bundle Jvm.Pilot.@@N@@.Jvm.D
/-! own frame: 'Go': from here the run ends as Q says -/
def Go (p : Program) (e : Env) (below : List Frame) (s : State) (nc ns : Nat) (Q : Option Value → Heap → List Loc → Prop) (u : State) : Prop :=
  ∃ s₂ o, Steps p.tables e below u s₂ ∧ s₂.status = .running ∧ Ended s₂ below o ∧ ∃ v L, o = .returned v ∧ Q v s₂.heap L ∧ FrameEnd s o s₂ L nc ns
/-- what a body's walk stands on -/
def Bdy (p : Program) (s : State) (m : MethodId) (meth : Method) (c : Code) (Z : State) (a0 : Array Value) (own nm : String) (bytes : ByteArray) (maxL : Nat) (rt : Option FieldType) (tabs : List Jvm.Cond) : Prop :=
  p.tables.exec = Jvm.exec ∧ Z.Warmed39 s.vm ∧ (∀ d ∈ tabs, d.before a0 Z = true) ∧ c.code = bytes ∧ c.maxLocals = maxL ∧ s.vm.findClass own = some m.cls ∧ meth.sig.returnType = rt ∧ meth.locks = false ∧ meth.name = nm
def PQ (w : Option Value) (h : Heap) (locs : List Loc) : Option Value → Heap → List Loc → Prop := fun v h' L => v = w ∧ h' = h ∧ L = locs
section GoKit
variable {p : Program} {l : Launch} {e : Env} {R : Room} {s : State} {m : MethodId} {args : Array Value} {below : List Frame} {meth : Method} {c : Code} {T : State} {locs : List Loc} {cells slots : Nat} {Z : State} {a0 : Array Value} {h : Heap} {nc ns : Nat} {Q Q' : Option Value → Heap → List Loc → Prop} {pc pc' : Nat} {Ls Ls' : Array Slot} {St : List Value} {own nm : String} {bytes : ByteArray} {maxL : Nat} {rt : Option FieldType} {tabs : List Jvm.Cond}
theorem Go.step {u u' : State} (st : ∀ t, Steps p.tables e below u' t → Steps p.tables e below u t) (k : Go p e below s nc ns Q u') : Go p e below s nc ns Q u := by
  obtain ⟨s₂, o, h1, h2⟩ := k
  exact ⟨s₂, o, st _ h1, h2⟩
theorem Go.mono {u : State} (q : ∀ v h L, Q v h L → Q' v h L) (k : Go p e below s nc ns Q u) : Go p e below s nc ns Q' u := by
  obtain ⟨s₂, o, h1, h2, h3, v, L, h4, h5, h6⟩ := k
  exact ⟨s₂, o, h1, h2, h3, v, L, h4, q _ _ _ h5, h6⟩
theorem Go.wid {u : State} {nc' ns' : Nat} (q1 : nc ≤ nc') (q2 : ns ≤ ns') (k : Go p e below s nc ns Q u) : Go p e below s nc' ns' Q u := by
  obtain ⟨s₂, o, h1, h2, h3, v, L, h4, h5, h6, h7, h8⟩ := k
  exact ⟨s₂, o, h1, h2, h3, v, L, h4, h5, h6, h7, h8.mono q1 q2⟩
theorem Go.cw {u : State} {w w' : Option Value} (q : w = w') (k : Go p e below s nc ns (PQ w h locs) u) : Go p e below s nc ns (PQ w' h locs) u := q ▸ k
theorem Go.top {g g' : JFrame} (q : g = g') (k : Go p e below s nc ns Q (T.setTop g')) : Go p e below s nc ns Q (T.setTop g) := q ▸ k
theorem Bdy.w (B : Bdy p s m meth c Z a0 own nm bytes maxL rt tabs) {d : Jvm.Cond} (i : Nat) (q : tabs[i]? = some d) : d.before a0 Z = true := B.2.2.1 _ (List.mem_of_getElem? q)
theorem Bdy.d (B : Bdy p s m meth c Z a0 own nm bytes maxL rt tabs) {r : Except ClassFile.DecodeError (ClassFile.Instr × Nat)} (q : decode bytes pc = r) : decode c.code pc = r := hb B.2.2.2.1 q
theorem Bdy.x (B : Bdy p s m meth c Z a0 own nm bytes maxL rt tabs) : p.tables.exec = Jvm.exec := B.1
theorem Bdy.z (B : Bdy p s m meth c Z a0 own nm bytes maxL rt tabs) : Z.Warmed39 s.vm := B.2.1
theorem Bdy.ml (B : Bdy p s m meth c Z a0 own nm bytes maxL rt tabs) : c.maxLocals = maxL := B.2.2.2.2.1
theorem Bdy.o (B : Bdy p s m meth c Z a0 own nm bytes maxL rt tabs) : s.vm.findClass own = some m.cls := B.2.2.2.2.2.1
theorem Bdy.r (B : Bdy p s m meth c Z a0 own nm bytes maxL rt tabs) : meth.sig.returnType = rt := B.2.2.2.2.2.2.1
theorem Bdy.lk (B : Bdy p s m meth c Z a0 own nm bytes maxL rt tabs) : meth.locks = false := B.2.2.2.2.2.2.2.1
theorem Bdy.n (B : Bdy p s m meth c Z a0 own nm bytes maxL rt tabs) : meth.name = nm := B.2.2.2.2.2.2.2.2
theorem g_iloadN (X : Stand p l e R s m args below meth c T locs cells slots) (B : Bdy p s m meth c Z a0 own nm bytes maxL rt tabs) {k : Fin 4} {v : Int32} (hd : decode bytes pc = .ok (.iload_n k, 1)) (hp : pc + 1 = pc') (hl : Ls[k.val]? = some (.val (.int v))) (K : Go p e below s nc ns Q (T.setTop (mkF m pc' Ls (.int v :: St)))) : Go p e below s nc ns Q (T.setTop (mkF m pc Ls St)) := by
  subst hp; exact Go.step (fun t q => XS.iloadN X.here B.x (g := mkF m pc Ls St) rfl (B.d hd) hl q) K
theorem g_iload (X : Stand p l e R s m args below meth c T locs cells slots) (B : Bdy p s m meth c Z a0 own nm bytes maxL rt tabs) {k : Nat} {v : Int32} (hd : decode bytes pc = .ok (.iload k, 2)) (hp : pc + 2 = pc') (hl : Ls[k]? = some (.val (.int v))) (K : Go p e below s nc ns Q (T.setTop (mkF m pc' Ls (.int v :: St)))) : Go p e below s nc ns Q (T.setTop (mkF m pc Ls St)) := by
  subst hp; exact Go.step (fun t q => XS.iload X.here B.x (g := mkF m pc Ls St) rfl (B.d hd) hl q) K
theorem g_lloadN (X : Stand p l e R s m args below meth c T locs cells slots) (B : Bdy p s m meth c Z a0 own nm bytes maxL rt tabs) {k : Fin 4} {v : Int64} (hd : decode bytes pc = .ok (.lload_n k, 1)) (hp : pc + 1 = pc') (hl : Ls[k.val]? = some (.val (.long v))) (K : Go p e below s nc ns Q (T.setTop (mkF m pc' Ls (.long v :: St)))) : Go p e below s nc ns Q (T.setTop (mkF m pc Ls St)) := by
  subst hp; exact Go.step (fun t q => XS.lloadN X.here B.x (g := mkF m pc Ls St) rfl (B.d hd) hl q) K
theorem g_lload (X : Stand p l e R s m args below meth c T locs cells slots) (B : Bdy p s m meth c Z a0 own nm bytes maxL rt tabs) {k : Nat} {v : Int64} (hd : decode bytes pc = .ok (.lload k, 2)) (hp : pc + 2 = pc') (hl : Ls[k]? = some (.val (.long v))) (K : Go p e below s nc ns Q (T.setTop (mkF m pc' Ls (.long v :: St)))) : Go p e below s nc ns Q (T.setTop (mkF m pc Ls St)) := by
  subst hp; exact Go.step (fun t q => XS.lload X.here B.x (g := mkF m pc Ls St) rfl (B.d hd) hl q) K
theorem g_aloadN (X : Stand p l e R s m args below meth c T locs cells slots) (B : Bdy p s m meth c Z a0 own nm bytes maxL rt tabs) {k : Fin 4} {v : Value} (hd : decode bytes pc = .ok (.aload_n k, 1)) (hp : pc + 1 = pc') (hl : Ls[k.val]? = some (.val v)) (hv : v.isRef = true) (K : Go p e below s nc ns Q (T.setTop (mkF m pc' Ls (v :: St)))) : Go p e below s nc ns Q (T.setTop (mkF m pc Ls St)) := by
  subst hp; exact Go.step (fun t q => XS.aloadN X.here B.x (g := mkF m pc Ls St) rfl (B.d hd) hl hv q) K
theorem g_aload (X : Stand p l e R s m args below meth c T locs cells slots) (B : Bdy p s m meth c Z a0 own nm bytes maxL rt tabs) {k : Nat} {v : Value} (hd : decode bytes pc = .ok (.aload k, 2)) (hp : pc + 2 = pc') (hl : Ls[k]? = some (.val v)) (hv : v.isRef = true) (K : Go p e below s nc ns Q (T.setTop (mkF m pc' Ls (v :: St)))) : Go p e below s nc ns Q (T.setTop (mkF m pc Ls St)) := by
  subst hp; exact Go.step (fun t q => XS.aload X.here B.x (g := mkF m pc Ls St) rfl (B.d hd) hl hv q) K
theorem g_istoreN (X : Stand p l e R s m args below meth c T locs cells slots) (B : Bdy p s m meth c Z a0 own nm bytes maxL rt tabs) {k : Fin 4} {v : Int32} (hd : decode bytes pc = .ok (.istore_n k, 1)) (hp : pc + 1 = pc') (hl : storeLocals Ls k.val (.int v) = some Ls') (K : Go p e below s nc ns Q (T.setTop (mkF m pc' Ls' St))) : Go p e below s nc ns Q (T.setTop (mkF m pc Ls (.int v :: St))) := by
  subst hp; exact Go.step (fun t q => XS.istoreN X.here B.x (g := mkF m pc Ls (.int v :: St)) rfl (B.d hd) rfl hl q) K
theorem g_istore (X : Stand p l e R s m args below meth c T locs cells slots) (B : Bdy p s m meth c Z a0 own nm bytes maxL rt tabs) {k : Nat} {v : Int32} (hd : decode bytes pc = .ok (.istore k, 2)) (hp : pc + 2 = pc') (hl : storeLocals Ls k (.int v) = some Ls') (K : Go p e below s nc ns Q (T.setTop (mkF m pc' Ls' St))) : Go p e below s nc ns Q (T.setTop (mkF m pc Ls (.int v :: St))) := by
  subst hp; exact Go.step (fun t q => XS.istore X.here B.x (g := mkF m pc Ls (.int v :: St)) rfl (B.d hd) rfl hl q) K
theorem g_lstoreN (X : Stand p l e R s m args below meth c T locs cells slots) (B : Bdy p s m meth c Z a0 own nm bytes maxL rt tabs) {k : Fin 4} {v : Int64} (hd : decode bytes pc = .ok (.lstore_n k, 1)) (hp : pc + 1 = pc') (hl : storeLocals Ls k.val (.long v) = some Ls') (K : Go p e below s nc ns Q (T.setTop (mkF m pc' Ls' St))) : Go p e below s nc ns Q (T.setTop (mkF m pc Ls (.long v :: St))) := by
  subst hp; exact Go.step (fun t q => XS.lstoreN X.here B.x (g := mkF m pc Ls (.long v :: St)) rfl (B.d hd) rfl hl q) K
theorem g_lstore (X : Stand p l e R s m args below meth c T locs cells slots) (B : Bdy p s m meth c Z a0 own nm bytes maxL rt tabs) {k : Nat} {v : Int64} (hd : decode bytes pc = .ok (.lstore k, 2)) (hp : pc + 2 = pc') (hl : storeLocals Ls k (.long v) = some Ls') (K : Go p e below s nc ns Q (T.setTop (mkF m pc' Ls' St))) : Go p e below s nc ns Q (T.setTop (mkF m pc Ls (.long v :: St))) := by
  subst hp; exact Go.step (fun t q => XS.lstore X.here B.x (g := mkF m pc Ls (.long v :: St)) rfl (B.d hd) rfl hl q) K
theorem g_astoreN (X : Stand p l e R s m args below meth c T locs cells slots) (B : Bdy p s m meth c Z a0 own nm bytes maxL rt tabs) {k : Fin 4} {v : Value} (hd : decode bytes pc = .ok (.astore_n k, 1)) (hp : pc + 1 = pc') (hv : v.isRef = true) (hl : storeLocals Ls k.val v = some Ls') (K : Go p e below s nc ns Q (T.setTop (mkF m pc' Ls' St))) : Go p e below s nc ns Q (T.setTop (mkF m pc Ls (v :: St))) := by
  subst hp; exact Go.step (fun t q => XS.astoreN X.here B.x (g := mkF m pc Ls (v :: St)) rfl (B.d hd) rfl hv hl q) K
theorem g_astore (X : Stand p l e R s m args below meth c T locs cells slots) (B : Bdy p s m meth c Z a0 own nm bytes maxL rt tabs) {k : Nat} {v : Value} (hd : decode bytes pc = .ok (.astore k, 2)) (hp : pc + 2 = pc') (hv : v.isRef = true) (hl : storeLocals Ls k v = some Ls') (K : Go p e below s nc ns Q (T.setTop (mkF m pc' Ls' St))) : Go p e below s nc ns Q (T.setTop (mkF m pc Ls (v :: St))) := by
  subst hp; exact Go.step (fun t q => XS.astore X.here B.x (g := mkF m pc Ls (v :: St)) rfl (B.d hd) rfl hv hl q) K
theorem g_iinc (X : Stand p l e R s m args below meth c T locs cells slots) (B : Bdy p s m meth c Z a0 own nm bytes maxL rt tabs) {k : Nat} {i : Int} {v : Int32} (hd : decode bytes pc = .ok (.iinc k i, 3)) (hp : pc + 3 = pc') (hl : Ls[k]? = some (.val (.int v))) (hs : storeLocals Ls k (.int (v + Int32.ofInt i)) = some Ls') (K : Go p e below s nc ns Q (T.setTop (mkF m pc' Ls' St))) : Go p e below s nc ns Q (T.setTop (mkF m pc Ls St)) := by
  subst hp; exact Go.step (fun t q => XS.iinc X.here B.x (g := mkF m pc Ls St) rfl (B.d hd) hl hs q) K
theorem g_iconst (X : Stand p l e R s m args below meth c T locs cells slots) (B : Bdy p s m meth c Z a0 own nm bytes maxL rt tabs) {i : Int} {v : Int32} (hd : decode bytes pc = .ok (.iconst i, 1)) (hp : pc + 1 = pc') (hv : Int32.ofInt i = v) (K : Go p e below s nc ns Q (T.setTop (mkF m pc' Ls (.int v :: St)))) : Go p e below s nc ns Q (T.setTop (mkF m pc Ls St)) := by
  subst hp hv; exact Go.step (fun t q => XS.iconst X.here B.x (g := mkF m pc Ls St) rfl (B.d hd) q) K
theorem g_bipush (X : Stand p l e R s m args below meth c T locs cells slots) (B : Bdy p s m meth c Z a0 own nm bytes maxL rt tabs) {i : Int} {v : Int32} (hd : decode bytes pc = .ok (.bipush i, 2)) (hp : pc + 2 = pc') (hv : (Int8.ofInt i).toInt32 = v) (K : Go p e below s nc ns Q (T.setTop (mkF m pc' Ls (.int v :: St)))) : Go p e below s nc ns Q (T.setTop (mkF m pc Ls St)) := by
  subst hp hv; exact Go.step (fun t q => XS.bipush X.here B.x (g := mkF m pc Ls St) rfl (B.d hd) q) K
theorem g_sipush (X : Stand p l e R s m args below meth c T locs cells slots) (B : Bdy p s m meth c Z a0 own nm bytes maxL rt tabs) {i : Int} {v : Int32} (hd : decode bytes pc = .ok (.sipush i, 3)) (hp : pc + 3 = pc') (hv : (Int16.ofInt i).toInt32 = v) (K : Go p e below s nc ns Q (T.setTop (mkF m pc' Ls (.int v :: St)))) : Go p e below s nc ns Q (T.setTop (mkF m pc Ls St)) := by
  subst hp hv; exact Go.step (fun t q => XS.sipush X.here B.x (g := mkF m pc Ls St) rfl (B.d hd) q) K
theorem g_lconst (X : Stand p l e R s m args below meth c T locs cells slots) (B : Bdy p s m meth c Z a0 own nm bytes maxL rt tabs) {k : Fin 2} {v : Int64} (hd : decode bytes pc = .ok (.lconst k, 1)) (hp : pc + 1 = pc') (hv : Int64.ofNat k = v) (K : Go p e below s nc ns Q (T.setTop (mkF m pc' Ls (.long v :: St)))) : Go p e below s nc ns Q (T.setTop (mkF m pc Ls St)) := by
  subst hp hv; exact Go.step (fun t q => XS.lconst X.here B.x (g := mkF m pc Ls St) rfl (B.d hd) q) K
theorem g_null (X : Stand p l e R s m args below meth c T locs cells slots) (B : Bdy p s m meth c Z a0 own nm bytes maxL rt tabs) (hd : decode bytes pc = .ok (.aconst_null, 1)) (hp : pc + 1 = pc') (K : Go p e below s nc ns Q (T.setTop (mkF m pc' Ls (.null :: St)))) : Go p e below s nc ns Q (T.setTop (mkF m pc Ls St)) := by
  subst hp; exact Go.step (fun t q => XS.aconstNull X.here B.x (g := mkF m pc Ls St) rfl (B.d hd) q) K
theorem g_ldc (X : Stand p l e R s m args below meth c T locs cells slots) (B : Bdy p s m meth c Z a0 own nm bytes maxL rt tabs) {i : Nat} {v : Int32} (w : (Jvm.Cond.constant own i v).before a0 Z = true) (hd : decode bytes pc = .ok (.ldc i, 2)) (hp : pc + 2 = pc') (K : Go p e below s nc ns Q (T.setTop (mkF m pc' Ls (.int v :: St)))) : Go p e below s nc ns Q (T.setTop (mkF m pc Ls St)) := by
  subst hp; exact Go.step (fun t q => X.ldcInt B.x B.o (mvT B.z w) (g := mkF m pc Ls St) rfl (B.d hd) t q) K
theorem g_ldcw (X : Stand p l e R s m args below meth c T locs cells slots) (B : Bdy p s m meth c Z a0 own nm bytes maxL rt tabs) {i : Nat} {v : Int32} (w : (Jvm.Cond.constant own i v).before a0 Z = true) (hd : decode bytes pc = .ok (.ldc_w i, 3)) (hp : pc + 3 = pc') (K : Go p e below s nc ns Q (T.setTop (mkF m pc' Ls (.int v :: St)))) : Go p e below s nc ns Q (T.setTop (mkF m pc Ls St)) := by
  subst hp; exact Go.step (fun t q => X.ldcwInt B.x B.o (mvT B.z w) (g := mkF m pc Ls St) rfl (B.d hd) t q) K
theorem g_ldc2 (X : Stand p l e R s m args below meth c T locs cells slots) (B : Bdy p s m meth c Z a0 own nm bytes maxL rt tabs) {i : Nat} {v : Int64} (w : (Jvm.Cond.constantLong own i v).before a0 Z = true) (hd : decode bytes pc = .ok (.ldc2_w i, 3)) (hp : pc + 3 = pc') (K : Go p e below s nc ns Q (T.setTop (mkF m pc' Ls (.long v :: St)))) : Go p e below s nc ns Q (T.setTop (mkF m pc Ls St)) := by
  subst hp; exact Go.step (fun t q => X.ldc2Long B.x B.o (mvT B.z w) (g := mkF m pc Ls St) rfl (B.d hd) t q) K
theorem g_iadd (X : Stand p l e R s m args below meth c T locs cells slots) (B : Bdy p s m meth c Z a0 own nm bytes maxL rt tabs) {x y : Int32} (hd : decode bytes pc = .ok (.iadd, 1)) (hp : pc + 1 = pc') (K : Go p e below s nc ns Q (T.setTop (mkF m pc' Ls (.int (x + y) :: St)))) : Go p e below s nc ns Q (T.setTop (mkF m pc Ls (.int y :: .int x :: St))) := by
  subst hp; exact Go.step (fun t q => XS.iadd X.here B.x (g := mkF m pc Ls (.int y :: .int x :: St)) rfl (B.d hd) rfl q) K
theorem g_isub (X : Stand p l e R s m args below meth c T locs cells slots) (B : Bdy p s m meth c Z a0 own nm bytes maxL rt tabs) {x y : Int32} (hd : decode bytes pc = .ok (.isub, 1)) (hp : pc + 1 = pc') (K : Go p e below s nc ns Q (T.setTop (mkF m pc' Ls (.int (x - y) :: St)))) : Go p e below s nc ns Q (T.setTop (mkF m pc Ls (.int y :: .int x :: St))) := by
  subst hp; exact Go.step (fun t q => XS.isub X.here B.x (g := mkF m pc Ls (.int y :: .int x :: St)) rfl (B.d hd) rfl q) K
theorem g_imul (X : Stand p l e R s m args below meth c T locs cells slots) (B : Bdy p s m meth c Z a0 own nm bytes maxL rt tabs) {x y : Int32} (hd : decode bytes pc = .ok (.imul, 1)) (hp : pc + 1 = pc') (K : Go p e below s nc ns Q (T.setTop (mkF m pc' Ls (.int (x * y) :: St)))) : Go p e below s nc ns Q (T.setTop (mkF m pc Ls (.int y :: .int x :: St))) := by
  subst hp; exact Go.step (fun t q => XS.imul X.here B.x (g := mkF m pc Ls (.int y :: .int x :: St)) rfl (B.d hd) rfl q) K
theorem g_iand (X : Stand p l e R s m args below meth c T locs cells slots) (B : Bdy p s m meth c Z a0 own nm bytes maxL rt tabs) {x y : Int32} (hd : decode bytes pc = .ok (.iand, 1)) (hp : pc + 1 = pc') (K : Go p e below s nc ns Q (T.setTop (mkF m pc' Ls (.int (x &&& y) :: St)))) : Go p e below s nc ns Q (T.setTop (mkF m pc Ls (.int y :: .int x :: St))) := by
  subst hp; exact Go.step (fun t q => XS.iand X.here B.x (g := mkF m pc Ls (.int y :: .int x :: St)) rfl (B.d hd) rfl q) K
theorem g_ior (X : Stand p l e R s m args below meth c T locs cells slots) (B : Bdy p s m meth c Z a0 own nm bytes maxL rt tabs) {x y : Int32} (hd : decode bytes pc = .ok (.ior, 1)) (hp : pc + 1 = pc') (K : Go p e below s nc ns Q (T.setTop (mkF m pc' Ls (.int (x ||| y) :: St)))) : Go p e below s nc ns Q (T.setTop (mkF m pc Ls (.int y :: .int x :: St))) := by
  subst hp; exact Go.step (fun t q => XS.ior X.here B.x (g := mkF m pc Ls (.int y :: .int x :: St)) rfl (B.d hd) rfl q) K
theorem g_ixor (X : Stand p l e R s m args below meth c T locs cells slots) (B : Bdy p s m meth c Z a0 own nm bytes maxL rt tabs) {x y : Int32} (hd : decode bytes pc = .ok (.ixor, 1)) (hp : pc + 1 = pc') (K : Go p e below s nc ns Q (T.setTop (mkF m pc' Ls (.int (x ^^^ y) :: St)))) : Go p e below s nc ns Q (T.setTop (mkF m pc Ls (.int y :: .int x :: St))) := by
  subst hp; exact Go.step (fun t q => XS.ixor X.here B.x (g := mkF m pc Ls (.int y :: .int x :: St)) rfl (B.d hd) rfl q) K
theorem g_ishl (X : Stand p l e R s m args below meth c T locs cells slots) (B : Bdy p s m meth c Z a0 own nm bytes maxL rt tabs) {x z : Int32} {y : Int32} (hd : decode bytes pc = .ok (.ishl, 1)) (hp : pc + 1 = pc') (hz : x <<< (y &&& 31) = z) (K : Go p e below s nc ns Q (T.setTop (mkF m pc' Ls (.int z :: St)))) : Go p e below s nc ns Q (T.setTop (mkF m pc Ls (.int y :: .int x :: St))) := by
  subst hp hz; exact Go.step (fun t q => XS.ishl X.here B.x (g := mkF m pc Ls (.int y :: .int x :: St)) rfl (B.d hd) rfl q) K
theorem g_ishr (X : Stand p l e R s m args below meth c T locs cells slots) (B : Bdy p s m meth c Z a0 own nm bytes maxL rt tabs) {x z : Int32} {y : Int32} (hd : decode bytes pc = .ok (.ishr, 1)) (hp : pc + 1 = pc') (hz : x >>> (y &&& 31) = z) (K : Go p e below s nc ns Q (T.setTop (mkF m pc' Ls (.int z :: St)))) : Go p e below s nc ns Q (T.setTop (mkF m pc Ls (.int y :: .int x :: St))) := by
  subst hp hz; exact Go.step (fun t q => XS.ishr X.here B.x (g := mkF m pc Ls (.int y :: .int x :: St)) rfl (B.d hd) rfl q) K
theorem g_iushr (X : Stand p l e R s m args below meth c T locs cells slots) (B : Bdy p s m meth c Z a0 own nm bytes maxL rt tabs) {x z : Int32} {y : Int32} (hd : decode bytes pc = .ok (.iushr, 1)) (hp : pc + 1 = pc') (hz : (x.toUInt32 >>> (y &&& 31).toUInt32).toInt32 = z) (K : Go p e below s nc ns Q (T.setTop (mkF m pc' Ls (.int z :: St)))) : Go p e below s nc ns Q (T.setTop (mkF m pc Ls (.int y :: .int x :: St))) := by
  subst hp hz; exact Go.step (fun t q => XS.iushr X.here B.x (g := mkF m pc Ls (.int y :: .int x :: St)) rfl (B.d hd) rfl q) K
theorem g_ladd (X : Stand p l e R s m args below meth c T locs cells slots) (B : Bdy p s m meth c Z a0 own nm bytes maxL rt tabs) {x y : Int64} (hd : decode bytes pc = .ok (.ladd, 1)) (hp : pc + 1 = pc') (K : Go p e below s nc ns Q (T.setTop (mkF m pc' Ls (.long (x + y) :: St)))) : Go p e below s nc ns Q (T.setTop (mkF m pc Ls (.long y :: .long x :: St))) := by
  subst hp; exact Go.step (fun t q => XS.ladd X.here B.x (g := mkF m pc Ls (.long y :: .long x :: St)) rfl (B.d hd) rfl q) K
theorem g_lsub (X : Stand p l e R s m args below meth c T locs cells slots) (B : Bdy p s m meth c Z a0 own nm bytes maxL rt tabs) {x y : Int64} (hd : decode bytes pc = .ok (.lsub, 1)) (hp : pc + 1 = pc') (K : Go p e below s nc ns Q (T.setTop (mkF m pc' Ls (.long (x - y) :: St)))) : Go p e below s nc ns Q (T.setTop (mkF m pc Ls (.long y :: .long x :: St))) := by
  subst hp; exact Go.step (fun t q => XS.lsub X.here B.x (g := mkF m pc Ls (.long y :: .long x :: St)) rfl (B.d hd) rfl q) K
theorem g_lmul (X : Stand p l e R s m args below meth c T locs cells slots) (B : Bdy p s m meth c Z a0 own nm bytes maxL rt tabs) {x y : Int64} (hd : decode bytes pc = .ok (.lmul, 1)) (hp : pc + 1 = pc') (K : Go p e below s nc ns Q (T.setTop (mkF m pc' Ls (.long (x * y) :: St)))) : Go p e below s nc ns Q (T.setTop (mkF m pc Ls (.long y :: .long x :: St))) := by
  subst hp; exact Go.step (fun t q => XS.lmul X.here B.x (g := mkF m pc Ls (.long y :: .long x :: St)) rfl (B.d hd) rfl q) K
theorem g_land (X : Stand p l e R s m args below meth c T locs cells slots) (B : Bdy p s m meth c Z a0 own nm bytes maxL rt tabs) {x y : Int64} (hd : decode bytes pc = .ok (.land, 1)) (hp : pc + 1 = pc') (K : Go p e below s nc ns Q (T.setTop (mkF m pc' Ls (.long (x &&& y) :: St)))) : Go p e below s nc ns Q (T.setTop (mkF m pc Ls (.long y :: .long x :: St))) := by
  subst hp; exact Go.step (fun t q => XS.land X.here B.x (g := mkF m pc Ls (.long y :: .long x :: St)) rfl (B.d hd) rfl q) K
theorem g_lor (X : Stand p l e R s m args below meth c T locs cells slots) (B : Bdy p s m meth c Z a0 own nm bytes maxL rt tabs) {x y : Int64} (hd : decode bytes pc = .ok (.lor, 1)) (hp : pc + 1 = pc') (K : Go p e below s nc ns Q (T.setTop (mkF m pc' Ls (.long (x ||| y) :: St)))) : Go p e below s nc ns Q (T.setTop (mkF m pc Ls (.long y :: .long x :: St))) := by
  subst hp; exact Go.step (fun t q => XS.lor X.here B.x (g := mkF m pc Ls (.long y :: .long x :: St)) rfl (B.d hd) rfl q) K
theorem g_lxor (X : Stand p l e R s m args below meth c T locs cells slots) (B : Bdy p s m meth c Z a0 own nm bytes maxL rt tabs) {x y : Int64} (hd : decode bytes pc = .ok (.lxor, 1)) (hp : pc + 1 = pc') (K : Go p e below s nc ns Q (T.setTop (mkF m pc' Ls (.long (x ^^^ y) :: St)))) : Go p e below s nc ns Q (T.setTop (mkF m pc Ls (.long y :: .long x :: St))) := by
  subst hp; exact Go.step (fun t q => XS.lxor X.here B.x (g := mkF m pc Ls (.long y :: .long x :: St)) rfl (B.d hd) rfl q) K
theorem g_lshl (X : Stand p l e R s m args below meth c T locs cells slots) (B : Bdy p s m meth c Z a0 own nm bytes maxL rt tabs) {x z : Int64} {y : Int32} (hd : decode bytes pc = .ok (.lshl, 1)) (hp : pc + 1 = pc') (hz : x <<< (y &&& 63).toInt64 = z) (K : Go p e below s nc ns Q (T.setTop (mkF m pc' Ls (.long z :: St)))) : Go p e below s nc ns Q (T.setTop (mkF m pc Ls (.int y :: .long x :: St))) := by
  subst hp hz; exact Go.step (fun t q => XS.lshl X.here B.x (g := mkF m pc Ls (.int y :: .long x :: St)) rfl (B.d hd) rfl q) K
theorem g_lshr (X : Stand p l e R s m args below meth c T locs cells slots) (B : Bdy p s m meth c Z a0 own nm bytes maxL rt tabs) {x z : Int64} {y : Int32} (hd : decode bytes pc = .ok (.lshr, 1)) (hp : pc + 1 = pc') (hz : x >>> (y &&& 63).toInt64 = z) (K : Go p e below s nc ns Q (T.setTop (mkF m pc' Ls (.long z :: St)))) : Go p e below s nc ns Q (T.setTop (mkF m pc Ls (.int y :: .long x :: St))) := by
  subst hp hz; exact Go.step (fun t q => XS.lshr X.here B.x (g := mkF m pc Ls (.int y :: .long x :: St)) rfl (B.d hd) rfl q) K
theorem g_lushr (X : Stand p l e R s m args below meth c T locs cells slots) (B : Bdy p s m meth c Z a0 own nm bytes maxL rt tabs) {x z : Int64} {y : Int32} (hd : decode bytes pc = .ok (.lushr, 1)) (hp : pc + 1 = pc') (hz : (x.toUInt64 >>> (y &&& 63).toInt64.toUInt64).toInt64 = z) (K : Go p e below s nc ns Q (T.setTop (mkF m pc' Ls (.long z :: St)))) : Go p e below s nc ns Q (T.setTop (mkF m pc Ls (.int y :: .long x :: St))) := by
  subst hp hz; exact Go.step (fun t q => XS.lushr X.here B.x (g := mkF m pc Ls (.int y :: .long x :: St)) rfl (B.d hd) rfl q) K
theorem g_ineg (X : Stand p l e R s m args below meth c T locs cells slots) (B : Bdy p s m meth c Z a0 own nm bytes maxL rt tabs) {x : Int32} (hd : decode bytes pc = .ok (.ineg, 1)) (hp : pc + 1 = pc') (K : Go p e below s nc ns Q (T.setTop (mkF m pc' Ls (.int ((-x)) :: St)))) : Go p e below s nc ns Q (T.setTop (mkF m pc Ls (.int x :: St))) := by
  subst hp; exact Go.step (fun t q => XS.ineg X.here B.x (g := mkF m pc Ls (.int x :: St)) rfl (B.d hd) rfl q) K
theorem g_lneg (X : Stand p l e R s m args below meth c T locs cells slots) (B : Bdy p s m meth c Z a0 own nm bytes maxL rt tabs) {x : Int64} (hd : decode bytes pc = .ok (.lneg, 1)) (hp : pc + 1 = pc') (K : Go p e below s nc ns Q (T.setTop (mkF m pc' Ls (.long ((-x)) :: St)))) : Go p e below s nc ns Q (T.setTop (mkF m pc Ls (.long x :: St))) := by
  subst hp; exact Go.step (fun t q => XS.lneg X.here B.x (g := mkF m pc Ls (.long x :: St)) rfl (B.d hd) rfl q) K
theorem g_i2l (X : Stand p l e R s m args below meth c T locs cells slots) (B : Bdy p s m meth c Z a0 own nm bytes maxL rt tabs) {x : Int32} (hd : decode bytes pc = .ok (.i2l, 1)) (hp : pc + 1 = pc') (K : Go p e below s nc ns Q (T.setTop (mkF m pc' Ls (.long (x.toInt64) :: St)))) : Go p e below s nc ns Q (T.setTop (mkF m pc Ls (.int x :: St))) := by
  subst hp; exact Go.step (fun t q => XS.i2l X.here B.x (g := mkF m pc Ls (.int x :: St)) rfl (B.d hd) rfl q) K
theorem g_l2i (X : Stand p l e R s m args below meth c T locs cells slots) (B : Bdy p s m meth c Z a0 own nm bytes maxL rt tabs) {x : Int64} (hd : decode bytes pc = .ok (.l2i, 1)) (hp : pc + 1 = pc') (K : Go p e below s nc ns Q (T.setTop (mkF m pc' Ls (.int (x.toInt32) :: St)))) : Go p e below s nc ns Q (T.setTop (mkF m pc Ls (.long x :: St))) := by
  subst hp; exact Go.step (fun t q => XS.l2i X.here B.x (g := mkF m pc Ls (.long x :: St)) rfl (B.d hd) rfl q) K
theorem g_i2b (X : Stand p l e R s m args below meth c T locs cells slots) (B : Bdy p s m meth c Z a0 own nm bytes maxL rt tabs) {x : Int32} (hd : decode bytes pc = .ok (.i2b, 1)) (hp : pc + 1 = pc') (K : Go p e below s nc ns Q (T.setTop (mkF m pc' Ls (.int (x.toInt8.toInt32) :: St)))) : Go p e below s nc ns Q (T.setTop (mkF m pc Ls (.int x :: St))) := by
  subst hp; exact Go.step (fun t q => XS.i2b X.here B.x (g := mkF m pc Ls (.int x :: St)) rfl (B.d hd) rfl q) K
theorem g_i2s (X : Stand p l e R s m args below meth c T locs cells slots) (B : Bdy p s m meth c Z a0 own nm bytes maxL rt tabs) {x : Int32} (hd : decode bytes pc = .ok (.i2s, 1)) (hp : pc + 1 = pc') (K : Go p e below s nc ns Q (T.setTop (mkF m pc' Ls (.int (x.toInt16.toInt32) :: St)))) : Go p e below s nc ns Q (T.setTop (mkF m pc Ls (.int x :: St))) := by
  subst hp; exact Go.step (fun t q => XS.i2s X.here B.x (g := mkF m pc Ls (.int x :: St)) rfl (B.d hd) rfl q) K
theorem g_i2c (X : Stand p l e R s m args below meth c T locs cells slots) (B : Bdy p s m meth c Z a0 own nm bytes maxL rt tabs) {x : Int32} (hd : decode bytes pc = .ok (.i2c, 1)) (hp : pc + 1 = pc') (K : Go p e below s nc ns Q (T.setTop (mkF m pc' Ls (.int (x.toUInt32.toUInt16.toUInt32.toInt32) :: St)))) : Go p e below s nc ns Q (T.setTop (mkF m pc Ls (.int x :: St))) := by
  subst hp; exact Go.step (fun t q => XS.i2c X.here B.x (g := mkF m pc Ls (.int x :: St)) rfl (B.d hd) rfl q) K
theorem g_irem (X : Stand p l e R s m args below meth c T locs cells slots) (B : Bdy p s m meth c Z a0 own nm bytes maxL rt tabs) {x y : Int32} (hy : y ≠ 0) (hd : decode bytes pc = .ok (.irem, 1)) (hp : pc + 1 = pc') (K : Go p e below s nc ns Q (T.setTop (mkF m pc' Ls (.int (x % y) :: St)))) : Go p e below s nc ns Q (T.setTop (mkF m pc Ls (.int y :: .int x :: St))) := by
  subst hp; exact Go.step (fun t q => Jvm.RoadKit.iremM X B.x (g := mkF m pc Ls (.int y :: .int x :: St)) rfl (B.d hd) rfl hy q) K
theorem g_idiv (X : Stand p l e R s m args below meth c T locs cells slots) (B : Bdy p s m meth c Z a0 own nm bytes maxL rt tabs) {x y : Int32} (hy : y ≠ 0) (hd : decode bytes pc = .ok (.idiv, 1)) (hp : pc + 1 = pc') (K : Go p e below s nc ns Q (T.setTop (mkF m pc' Ls (.int (x / y) :: St)))) : Go p e below s nc ns Q (T.setTop (mkF m pc Ls (.int y :: .int x :: St))) := by
  subst hp; exact Go.step (fun t q => XS.idiv X.here B.x (g := mkF m pc Ls (.int y :: .int x :: St)) rfl (B.d hd) rfl hy q) K
theorem g_ldiv (X : Stand p l e R s m args below meth c T locs cells slots) (B : Bdy p s m meth c Z a0 own nm bytes maxL rt tabs) {x y : Int64} (hy : y ≠ 0) (hd : decode bytes pc = .ok (.ldiv, 1)) (hp : pc + 1 = pc') (K : Go p e below s nc ns Q (T.setTop (mkF m pc' Ls (.long (x / y) :: St)))) : Go p e below s nc ns Q (T.setTop (mkF m pc Ls (.long y :: .long x :: St))) := by
  subst hp; exact Go.step (fun t q => XS.ldiv X.here B.x (g := mkF m pc Ls (.long y :: .long x :: St)) rfl (B.d hd) rfl hy q) K
theorem g_lrem (X : Stand p l e R s m args below meth c T locs cells slots) (B : Bdy p s m meth c Z a0 own nm bytes maxL rt tabs) {x y : Int64} (hy : y ≠ 0) (hd : decode bytes pc = .ok (.lrem, 1)) (hp : pc + 1 = pc') (K : Go p e below s nc ns Q (T.setTop (mkF m pc' Ls (.long (x % y) :: St)))) : Go p e below s nc ns Q (T.setTop (mkF m pc Ls (.long y :: .long x :: St))) := by
  subst hp; rw [← lrem_mod] at K; exact Go.step (fun t q => XS.lrem X.here B.x (g := mkF m pc Ls (.long y :: .long x :: St)) rfl (B.d hd) rfl hy q) K
theorem g_dup (X : Stand p l e R s m args below meth c T locs cells slots) (B : Bdy p s m meth c Z a0 own nm bytes maxL rt tabs) {v : Value} (hd : decode bytes pc = .ok (.dup, 1)) (hp : pc + 1 = pc') (hv : v.category = 1) (K : Go p e below s nc ns Q (T.setTop (mkF m pc' Ls (v :: v :: St)))) : Go p e below s nc ns Q (T.setTop (mkF m pc Ls (v :: St))) := by
  subst hp; exact Go.step (fun t q => XS.dup X.here B.x (g := mkF m pc Ls (v :: St)) rfl (B.d hd) rfl hv q) K
theorem g_dupX1 (X : Stand p l e R s m args below meth c T locs cells slots) (B : Bdy p s m meth c Z a0 own nm bytes maxL rt tabs) {v w : Value} (hd : decode bytes pc = .ok (.dup_x1, 1)) (hp : pc + 1 = pc') (hv : v.category = 1) (hw : w.category = 1) (K : Go p e below s nc ns Q (T.setTop (mkF m pc' Ls (v :: w :: v :: St)))) : Go p e below s nc ns Q (T.setTop (mkF m pc Ls (v :: w :: St))) := by
  subst hp; exact Go.step (fun t q => XS.dupX1 X.here B.x (g := mkF m pc Ls (v :: w :: St)) rfl (B.d hd) rfl hv hw q) K
theorem g_dup2 (X : Stand p l e R s m args below meth c T locs cells slots) (B : Bdy p s m meth c Z a0 own nm bytes maxL rt tabs) {v w : Value} (hd : decode bytes pc = .ok (.dup2, 1)) (hp : pc + 1 = pc') (hv : v.category = 1) (hw : w.category = 1) (K : Go p e below s nc ns Q (T.setTop (mkF m pc' Ls (v :: w :: v :: w :: St)))) : Go p e below s nc ns Q (T.setTop (mkF m pc Ls (v :: w :: St))) := by
  subst hp; have hd' := B.d hd; have hx := B.x
  refine Go.step (fun t q => ?_) K
  jvm_step X.here [X.here.top, hx, hd', hv, hw]
  exact q
theorem g_dup2L (X : Stand p l e R s m args below meth c T locs cells slots) (B : Bdy p s m meth c Z a0 own nm bytes maxL rt tabs) {v : Int64} (hd : decode bytes pc = .ok (.dup2, 1)) (hp : pc + 1 = pc') (K : Go p e below s nc ns Q (T.setTop (mkF m pc' Ls (.long v :: .long v :: St)))) : Go p e below s nc ns Q (T.setTop (mkF m pc Ls (.long v :: St))) := by
  subst hp; have hd' := B.d hd; have hx := B.x
  refine Go.step (fun t q => ?_) K
  jvm_step X.here [X.here.top, hx, hd', Value.category]
  exact q
theorem g_pop (X : Stand p l e R s m args below meth c T locs cells slots) (B : Bdy p s m meth c Z a0 own nm bytes maxL rt tabs) {v : Value} (hd : decode bytes pc = .ok (.pop, 1)) (hp : pc + 1 = pc') (hv : v.category = 1) (K : Go p e below s nc ns Q (T.setTop (mkF m pc' Ls St))) : Go p e below s nc ns Q (T.setTop (mkF m pc Ls (v :: St))) := by
  subst hp; exact Go.step (fun t q => XS.pop X.here B.x (g := mkF m pc Ls (v :: St)) rfl (B.d hd) rfl hv q) K
theorem g_goto (X : Stand p l e R s m args below meth c T locs cells slots) (B : Bdy p s m meth c Z a0 own nm bytes maxL rt tabs) {o : Int} (hd : decode bytes pc = .ok (.goto o, 3)) (ho : 0 ≤ (pc : Int) + o) (hp : ((pc : Int) + o).toNat = pc') (K : Go p e below s nc ns Q (T.setTop (mkF m pc' Ls St))) : Go p e below s nc ns Q (T.setTop (mkF m pc Ls St)) :=
  Go.step (fun t q => XS.goto X.here B.x (g := mkF m pc Ls St) rfl rfl (B.d hd) ho hp q) K
/-! branches: K1 where the comparison holds, K2 where it doesn't -/
theorem g_icmp_lt (X : Stand p l e R s m args below meth c T locs cells slots) (B : Bdy p s m meth c Z a0 own nm bytes maxL rt tabs) {x y : Int32} {o : Int} {pcT pcF : Nat} (hd : decode bytes pc = .ok (.if_icmp .lt o, 3)) (ho : 0 ≤ (pc : Int) + o) (hT : ((pc : Int) + o).toNat = pcT) (hF : pc + 3 = pcF) (K1 : x < y → Go p e below s nc ns Q (T.setTop (mkF m pcT Ls St))) (K2 : ¬ x < y → Go p e below s nc ns Q (T.setTop (mkF m pcF Ls St))) : Go p e below s nc ns Q (T.setTop (mkF m pc Ls (.int y :: .int x :: St))) := by
  by_cases q : x < y
  · exact Go.step (fun t k => XS.icmpYes X.here B.x (g := mkF m pc Ls (.int y :: .int x :: St)) rfl rfl (B.d hd) rfl (tlt q).1 ho hT k) (K1 q)
  · subst hF; exact Go.step (fun t k => XS.icmpNo X.here B.x (g := mkF m pc Ls (.int y :: .int x :: St)) rfl (B.d hd) rfl (flt q).1 k) (K2 q)
theorem g_if_lt (X : Stand p l e R s m args below meth c T locs cells slots) (B : Bdy p s m meth c Z a0 own nm bytes maxL rt tabs) {x : Int32} {o : Int} {pcT pcF : Nat} (hd : decode bytes pc = .ok (.ifCond .lt o, 3)) (ho : 0 ≤ (pc : Int) + o) (hT : ((pc : Int) + o).toNat = pcT) (hF : pc + 3 = pcF) (K1 : x < (0 : Int32) → Go p e below s nc ns Q (T.setTop (mkF m pcT Ls St))) (K2 : ¬ x < (0 : Int32) → Go p e below s nc ns Q (T.setTop (mkF m pcF Ls St))) : Go p e below s nc ns Q (T.setTop (mkF m pc Ls (.int x :: St))) := by
  by_cases q : x < (0 : Int32)
  · exact Go.step (fun t k => XS.ifYes X.here B.x (g := mkF m pc Ls (.int x :: St)) rfl rfl (B.d hd) rfl ((if0 _ _).trans (tlt q).1) ho hT k) (K1 q)
  · subst hF; exact Go.step (fun t k => XS.ifNo X.here B.x (g := mkF m pc Ls (.int x :: St)) rfl (B.d hd) rfl ((if0 _ _).trans (flt q).1) k) (K2 q)
theorem g_lcmp_lt (X : Stand p l e R s m args below meth c T locs cells slots) (B : Bdy p s m meth c Z a0 own nm bytes maxL rt tabs) {x y : Int64} {o : Int} {pcT pcF : Nat} (hd1 : decode bytes pc = .ok (.lcmp, 1)) (hd : decode bytes (pc + 1) = .ok (.ifCond .lt o, 3)) (ho : 0 ≤ ((pc + 1 : Nat) : Int) + o) (hT : (((pc + 1 : Nat) : Int) + o).toNat = pcT) (hF : pc + 4 = pcF) (K1 : x < y → Go p e below s nc ns Q (T.setTop (mkF m pcT Ls St))) (K2 : ¬ x < y → Go p e below s nc ns Q (T.setTop (mkF m pcF Ls St))) : Go p e below s nc ns Q (T.setTop (mkF m pc Ls (.long y :: .long x :: St))) :=
  Go.step (fun t q => XS.lcmp X.here B.x (g := mkF m pc Ls (.long y :: .long x :: St)) rfl (B.d hd1) rfl q) (g_if_lt X B hd ho hT hF (fun q => K1 ((lw_lt x y).mp q)) (fun q => K2 fun z => q ((lw_lt x y).mpr z)))
theorem g_icmp_ge (X : Stand p l e R s m args below meth c T locs cells slots) (B : Bdy p s m meth c Z a0 own nm bytes maxL rt tabs) {x y : Int32} {o : Int} {pcT pcF : Nat} (hd : decode bytes pc = .ok (.if_icmp .ge o, 3)) (ho : 0 ≤ (pc : Int) + o) (hT : ((pc : Int) + o).toNat = pcT) (hF : pc + 3 = pcF) (K1 : x < y → Go p e below s nc ns Q (T.setTop (mkF m pcF Ls St))) (K2 : ¬ x < y → Go p e below s nc ns Q (T.setTop (mkF m pcT Ls St))) : Go p e below s nc ns Q (T.setTop (mkF m pc Ls (.int y :: .int x :: St))) := by
  by_cases q : x < y
  · subst hF; exact Go.step (fun t k => XS.icmpNo X.here B.x (g := mkF m pc Ls (.int y :: .int x :: St)) rfl (B.d hd) rfl (tlt q).2.1 k) (K1 q)
  · exact Go.step (fun t k => XS.icmpYes X.here B.x (g := mkF m pc Ls (.int y :: .int x :: St)) rfl rfl (B.d hd) rfl (flt q).2.1 ho hT k) (K2 q)
theorem g_if_ge (X : Stand p l e R s m args below meth c T locs cells slots) (B : Bdy p s m meth c Z a0 own nm bytes maxL rt tabs) {x : Int32} {o : Int} {pcT pcF : Nat} (hd : decode bytes pc = .ok (.ifCond .ge o, 3)) (ho : 0 ≤ (pc : Int) + o) (hT : ((pc : Int) + o).toNat = pcT) (hF : pc + 3 = pcF) (K1 : x < (0 : Int32) → Go p e below s nc ns Q (T.setTop (mkF m pcF Ls St))) (K2 : ¬ x < (0 : Int32) → Go p e below s nc ns Q (T.setTop (mkF m pcT Ls St))) : Go p e below s nc ns Q (T.setTop (mkF m pc Ls (.int x :: St))) := by
  by_cases q : x < (0 : Int32)
  · subst hF; exact Go.step (fun t k => XS.ifNo X.here B.x (g := mkF m pc Ls (.int x :: St)) rfl (B.d hd) rfl ((if0 _ _).trans (tlt q).2.1) k) (K1 q)
  · exact Go.step (fun t k => XS.ifYes X.here B.x (g := mkF m pc Ls (.int x :: St)) rfl rfl (B.d hd) rfl ((if0 _ _).trans (flt q).2.1) ho hT k) (K2 q)
theorem g_lcmp_ge (X : Stand p l e R s m args below meth c T locs cells slots) (B : Bdy p s m meth c Z a0 own nm bytes maxL rt tabs) {x y : Int64} {o : Int} {pcT pcF : Nat} (hd1 : decode bytes pc = .ok (.lcmp, 1)) (hd : decode bytes (pc + 1) = .ok (.ifCond .ge o, 3)) (ho : 0 ≤ ((pc + 1 : Nat) : Int) + o) (hT : (((pc + 1 : Nat) : Int) + o).toNat = pcT) (hF : pc + 4 = pcF) (K1 : x < y → Go p e below s nc ns Q (T.setTop (mkF m pcF Ls St))) (K2 : ¬ x < y → Go p e below s nc ns Q (T.setTop (mkF m pcT Ls St))) : Go p e below s nc ns Q (T.setTop (mkF m pc Ls (.long y :: .long x :: St))) :=
  Go.step (fun t q => XS.lcmp X.here B.x (g := mkF m pc Ls (.long y :: .long x :: St)) rfl (B.d hd1) rfl q) (g_if_ge X B hd ho hT hF (fun q => K1 ((lw_lt x y).mp q)) (fun q => K2 fun z => q ((lw_lt x y).mpr z)))
theorem g_icmp_gt (X : Stand p l e R s m args below meth c T locs cells slots) (B : Bdy p s m meth c Z a0 own nm bytes maxL rt tabs) {x y : Int32} {o : Int} {pcT pcF : Nat} (hd : decode bytes pc = .ok (.if_icmp .gt o, 3)) (ho : 0 ≤ (pc : Int) + o) (hT : ((pc : Int) + o).toNat = pcT) (hF : pc + 3 = pcF) (K1 : y < x → Go p e below s nc ns Q (T.setTop (mkF m pcT Ls St))) (K2 : ¬ y < x → Go p e below s nc ns Q (T.setTop (mkF m pcF Ls St))) : Go p e below s nc ns Q (T.setTop (mkF m pc Ls (.int y :: .int x :: St))) := by
  by_cases q : y < x
  · exact Go.step (fun t k => XS.icmpYes X.here B.x (g := mkF m pc Ls (.int y :: .int x :: St)) rfl rfl (B.d hd) rfl (tlt q).2.2.1 ho hT k) (K1 q)
  · subst hF; exact Go.step (fun t k => XS.icmpNo X.here B.x (g := mkF m pc Ls (.int y :: .int x :: St)) rfl (B.d hd) rfl (flt q).2.2.1 k) (K2 q)
theorem g_if_gt (X : Stand p l e R s m args below meth c T locs cells slots) (B : Bdy p s m meth c Z a0 own nm bytes maxL rt tabs) {x : Int32} {o : Int} {pcT pcF : Nat} (hd : decode bytes pc = .ok (.ifCond .gt o, 3)) (ho : 0 ≤ (pc : Int) + o) (hT : ((pc : Int) + o).toNat = pcT) (hF : pc + 3 = pcF) (K1 : (0 : Int32) < x → Go p e below s nc ns Q (T.setTop (mkF m pcT Ls St))) (K2 : ¬ (0 : Int32) < x → Go p e below s nc ns Q (T.setTop (mkF m pcF Ls St))) : Go p e below s nc ns Q (T.setTop (mkF m pc Ls (.int x :: St))) := by
  by_cases q : (0 : Int32) < x
  · exact Go.step (fun t k => XS.ifYes X.here B.x (g := mkF m pc Ls (.int x :: St)) rfl rfl (B.d hd) rfl ((if0 _ _).trans (tlt q).2.2.1) ho hT k) (K1 q)
  · subst hF; exact Go.step (fun t k => XS.ifNo X.here B.x (g := mkF m pc Ls (.int x :: St)) rfl (B.d hd) rfl ((if0 _ _).trans (flt q).2.2.1) k) (K2 q)
theorem g_lcmp_gt (X : Stand p l e R s m args below meth c T locs cells slots) (B : Bdy p s m meth c Z a0 own nm bytes maxL rt tabs) {x y : Int64} {o : Int} {pcT pcF : Nat} (hd1 : decode bytes pc = .ok (.lcmp, 1)) (hd : decode bytes (pc + 1) = .ok (.ifCond .gt o, 3)) (ho : 0 ≤ ((pc + 1 : Nat) : Int) + o) (hT : (((pc + 1 : Nat) : Int) + o).toNat = pcT) (hF : pc + 4 = pcF) (K1 : y < x → Go p e below s nc ns Q (T.setTop (mkF m pcT Ls St))) (K2 : ¬ y < x → Go p e below s nc ns Q (T.setTop (mkF m pcF Ls St))) : Go p e below s nc ns Q (T.setTop (mkF m pc Ls (.long y :: .long x :: St))) :=
  Go.step (fun t q => XS.lcmp X.here B.x (g := mkF m pc Ls (.long y :: .long x :: St)) rfl (B.d hd1) rfl q) (g_if_gt X B hd ho hT hF (fun q => K1 ((lw_gt x y).mp q)) (fun q => K2 fun z => q ((lw_gt x y).mpr z)))
theorem g_icmp_le (X : Stand p l e R s m args below meth c T locs cells slots) (B : Bdy p s m meth c Z a0 own nm bytes maxL rt tabs) {x y : Int32} {o : Int} {pcT pcF : Nat} (hd : decode bytes pc = .ok (.if_icmp .le o, 3)) (ho : 0 ≤ (pc : Int) + o) (hT : ((pc : Int) + o).toNat = pcT) (hF : pc + 3 = pcF) (K1 : y < x → Go p e below s nc ns Q (T.setTop (mkF m pcF Ls St))) (K2 : ¬ y < x → Go p e below s nc ns Q (T.setTop (mkF m pcT Ls St))) : Go p e below s nc ns Q (T.setTop (mkF m pc Ls (.int y :: .int x :: St))) := by
  by_cases q : y < x
  · subst hF; exact Go.step (fun t k => XS.icmpNo X.here B.x (g := mkF m pc Ls (.int y :: .int x :: St)) rfl (B.d hd) rfl (tlt q).2.2.2 k) (K1 q)
  · exact Go.step (fun t k => XS.icmpYes X.here B.x (g := mkF m pc Ls (.int y :: .int x :: St)) rfl rfl (B.d hd) rfl (flt q).2.2.2 ho hT k) (K2 q)
theorem g_if_le (X : Stand p l e R s m args below meth c T locs cells slots) (B : Bdy p s m meth c Z a0 own nm bytes maxL rt tabs) {x : Int32} {o : Int} {pcT pcF : Nat} (hd : decode bytes pc = .ok (.ifCond .le o, 3)) (ho : 0 ≤ (pc : Int) + o) (hT : ((pc : Int) + o).toNat = pcT) (hF : pc + 3 = pcF) (K1 : (0 : Int32) < x → Go p e below s nc ns Q (T.setTop (mkF m pcF Ls St))) (K2 : ¬ (0 : Int32) < x → Go p e below s nc ns Q (T.setTop (mkF m pcT Ls St))) : Go p e below s nc ns Q (T.setTop (mkF m pc Ls (.int x :: St))) := by
  by_cases q : (0 : Int32) < x
  · subst hF; exact Go.step (fun t k => XS.ifNo X.here B.x (g := mkF m pc Ls (.int x :: St)) rfl (B.d hd) rfl ((if0 _ _).trans (tlt q).2.2.2) k) (K1 q)
  · exact Go.step (fun t k => XS.ifYes X.here B.x (g := mkF m pc Ls (.int x :: St)) rfl rfl (B.d hd) rfl ((if0 _ _).trans (flt q).2.2.2) ho hT k) (K2 q)
theorem g_lcmp_le (X : Stand p l e R s m args below meth c T locs cells slots) (B : Bdy p s m meth c Z a0 own nm bytes maxL rt tabs) {x y : Int64} {o : Int} {pcT pcF : Nat} (hd1 : decode bytes pc = .ok (.lcmp, 1)) (hd : decode bytes (pc + 1) = .ok (.ifCond .le o, 3)) (ho : 0 ≤ ((pc + 1 : Nat) : Int) + o) (hT : (((pc + 1 : Nat) : Int) + o).toNat = pcT) (hF : pc + 4 = pcF) (K1 : y < x → Go p e below s nc ns Q (T.setTop (mkF m pcF Ls St))) (K2 : ¬ y < x → Go p e below s nc ns Q (T.setTop (mkF m pcT Ls St))) : Go p e below s nc ns Q (T.setTop (mkF m pc Ls (.long y :: .long x :: St))) :=
  Go.step (fun t q => XS.lcmp X.here B.x (g := mkF m pc Ls (.long y :: .long x :: St)) rfl (B.d hd1) rfl q) (g_if_le X B hd ho hT hF (fun q => K1 ((lw_gt x y).mp q)) (fun q => K2 fun z => q ((lw_gt x y).mpr z)))
theorem g_icmp_eq (X : Stand p l e R s m args below meth c T locs cells slots) (B : Bdy p s m meth c Z a0 own nm bytes maxL rt tabs) {x y : Int32} {o : Int} {pcT pcF : Nat} (hd : decode bytes pc = .ok (.if_icmp .eq o, 3)) (ho : 0 ≤ (pc : Int) + o) (hT : ((pc : Int) + o).toNat = pcT) (hF : pc + 3 = pcF) (K1 : x = y → Go p e below s nc ns Q (T.setTop (mkF m pcT Ls St))) (K2 : ¬ x = y → Go p e below s nc ns Q (T.setTop (mkF m pcF Ls St))) : Go p e below s nc ns Q (T.setTop (mkF m pc Ls (.int y :: .int x :: St))) := by
  by_cases q : x = y
  · exact Go.step (fun t k => XS.icmpYes X.here B.x (g := mkF m pc Ls (.int y :: .int x :: St)) rfl rfl (B.d hd) rfl (teq q).1 ho hT k) (K1 q)
  · subst hF; exact Go.step (fun t k => XS.icmpNo X.here B.x (g := mkF m pc Ls (.int y :: .int x :: St)) rfl (B.d hd) rfl (feq q).1 k) (K2 q)
theorem g_if_eq (X : Stand p l e R s m args below meth c T locs cells slots) (B : Bdy p s m meth c Z a0 own nm bytes maxL rt tabs) {x : Int32} {o : Int} {pcT pcF : Nat} (hd : decode bytes pc = .ok (.ifCond .eq o, 3)) (ho : 0 ≤ (pc : Int) + o) (hT : ((pc : Int) + o).toNat = pcT) (hF : pc + 3 = pcF) (K1 : x = (0 : Int32) → Go p e below s nc ns Q (T.setTop (mkF m pcT Ls St))) (K2 : ¬ x = (0 : Int32) → Go p e below s nc ns Q (T.setTop (mkF m pcF Ls St))) : Go p e below s nc ns Q (T.setTop (mkF m pc Ls (.int x :: St))) := by
  by_cases q : x = (0 : Int32)
  · exact Go.step (fun t k => XS.ifYes X.here B.x (g := mkF m pc Ls (.int x :: St)) rfl rfl (B.d hd) rfl ((if0 _ _).trans (teq q).1) ho hT k) (K1 q)
  · subst hF; exact Go.step (fun t k => XS.ifNo X.here B.x (g := mkF m pc Ls (.int x :: St)) rfl (B.d hd) rfl ((if0 _ _).trans (feq q).1) k) (K2 q)
theorem g_lcmp_eq (X : Stand p l e R s m args below meth c T locs cells slots) (B : Bdy p s m meth c Z a0 own nm bytes maxL rt tabs) {x y : Int64} {o : Int} {pcT pcF : Nat} (hd1 : decode bytes pc = .ok (.lcmp, 1)) (hd : decode bytes (pc + 1) = .ok (.ifCond .eq o, 3)) (ho : 0 ≤ ((pc + 1 : Nat) : Int) + o) (hT : (((pc + 1 : Nat) : Int) + o).toNat = pcT) (hF : pc + 4 = pcF) (K1 : x = y → Go p e below s nc ns Q (T.setTop (mkF m pcT Ls St))) (K2 : ¬ x = y → Go p e below s nc ns Q (T.setTop (mkF m pcF Ls St))) : Go p e below s nc ns Q (T.setTop (mkF m pc Ls (.long y :: .long x :: St))) :=
  Go.step (fun t q => XS.lcmp X.here B.x (g := mkF m pc Ls (.long y :: .long x :: St)) rfl (B.d hd1) rfl q) (g_if_eq X B hd ho hT hF (fun q => K1 ((lw_eq x y).mp q)) (fun q => K2 fun z => q ((lw_eq x y).mpr z)))
theorem g_icmp_ne (X : Stand p l e R s m args below meth c T locs cells slots) (B : Bdy p s m meth c Z a0 own nm bytes maxL rt tabs) {x y : Int32} {o : Int} {pcT pcF : Nat} (hd : decode bytes pc = .ok (.if_icmp .ne o, 3)) (ho : 0 ≤ (pc : Int) + o) (hT : ((pc : Int) + o).toNat = pcT) (hF : pc + 3 = pcF) (K1 : x = y → Go p e below s nc ns Q (T.setTop (mkF m pcF Ls St))) (K2 : ¬ x = y → Go p e below s nc ns Q (T.setTop (mkF m pcT Ls St))) : Go p e below s nc ns Q (T.setTop (mkF m pc Ls (.int y :: .int x :: St))) := by
  by_cases q : x = y
  · subst hF; exact Go.step (fun t k => XS.icmpNo X.here B.x (g := mkF m pc Ls (.int y :: .int x :: St)) rfl (B.d hd) rfl (teq q).2 k) (K1 q)
  · exact Go.step (fun t k => XS.icmpYes X.here B.x (g := mkF m pc Ls (.int y :: .int x :: St)) rfl rfl (B.d hd) rfl (feq q).2 ho hT k) (K2 q)
theorem g_if_ne (X : Stand p l e R s m args below meth c T locs cells slots) (B : Bdy p s m meth c Z a0 own nm bytes maxL rt tabs) {x : Int32} {o : Int} {pcT pcF : Nat} (hd : decode bytes pc = .ok (.ifCond .ne o, 3)) (ho : 0 ≤ (pc : Int) + o) (hT : ((pc : Int) + o).toNat = pcT) (hF : pc + 3 = pcF) (K1 : x = (0 : Int32) → Go p e below s nc ns Q (T.setTop (mkF m pcF Ls St))) (K2 : ¬ x = (0 : Int32) → Go p e below s nc ns Q (T.setTop (mkF m pcT Ls St))) : Go p e below s nc ns Q (T.setTop (mkF m pc Ls (.int x :: St))) := by
  by_cases q : x = (0 : Int32)
  · subst hF; exact Go.step (fun t k => XS.ifNo X.here B.x (g := mkF m pc Ls (.int x :: St)) rfl (B.d hd) rfl ((if0 _ _).trans (teq q).2) k) (K1 q)
  · exact Go.step (fun t k => XS.ifYes X.here B.x (g := mkF m pc Ls (.int x :: St)) rfl rfl (B.d hd) rfl ((if0 _ _).trans (feq q).2) ho hT k) (K2 q)
theorem g_lcmp_ne (X : Stand p l e R s m args below meth c T locs cells slots) (B : Bdy p s m meth c Z a0 own nm bytes maxL rt tabs) {x y : Int64} {o : Int} {pcT pcF : Nat} (hd1 : decode bytes pc = .ok (.lcmp, 1)) (hd : decode bytes (pc + 1) = .ok (.ifCond .ne o, 3)) (ho : 0 ≤ ((pc + 1 : Nat) : Int) + o) (hT : (((pc + 1 : Nat) : Int) + o).toNat = pcT) (hF : pc + 4 = pcF) (K1 : x = y → Go p e below s nc ns Q (T.setTop (mkF m pcF Ls St))) (K2 : ¬ x = y → Go p e below s nc ns Q (T.setTop (mkF m pcT Ls St))) : Go p e below s nc ns Q (T.setTop (mkF m pc Ls (.long y :: .long x :: St))) :=
  Go.step (fun t q => XS.lcmp X.here B.x (g := mkF m pc Ls (.long y :: .long x :: St)) rfl (B.d hd1) rfl q) (g_if_ne X B hd ho hT hF (fun q => K1 ((lw_eq x y).mp q)) (fun q => K2 fun z => q ((lw_eq x y).mpr z)))
/-! ends -/
theorem g_ret0 (X : Stand p l e R s m args below meth c T locs cells slots) (B : Bdy p s m meth c Z a0 own nm bytes maxL rt tabs) (hr : rt = none) (hd : decode bytes pc = .ok (.return_, 1)) (hc : cells ≤ nc) (hs : slots ≤ ns) (q : Q none T.heap locs) : Go p e below s nc ns Q (T.setTop (mkF m pc Ls [])) := by
  subst hr
  obtain ⟨fs, hr, hrun, hended, hW, hsame⟩ := X.leave (v := none) (fun _ => rfl) B.lk
  exact ⟨_, _, X.returnOut B.x B.r (B.d hd) hr, hrun, hended, _, _, rfl, q, ⟨_, rfl⟩, hW, hsame.mono hc hs⟩
theorem g_retV (X : Stand p l e R s m args below meth c T locs cells slots) (B : Bdy p s m meth c Z a0 own nm bytes maxL rt tabs) {w : Value} {t : FieldType} {i : Instr} (hr : rt = some t) (hn : narrow t w = w)
    (hi : (i = .ireturn ∧ (t = .int ∨ t = .boolean ∨ t = .byte ∨ t = .char ∨ t = .short) ∧ ∃ z, w = .int z) ∨ (i = .lreturn ∧ t = .long ∧ ∃ z, w = .long z) ∨ (i = .dreturn ∧ t = .double ∧ ∃ z, w = .double z) ∨ (i = .freturn ∧ t = .float ∧ ∃ z, w = .float z) ∨ (i = .areturn ∧ t.isReference = true ∧ w.isRef = true))
    (hd : decode bytes pc = .ok (i, 1)) (hc : cells ≤ nc) (hs : slots ≤ ns) (q : Q (some w) T.heap locs) : Go p e below s nc ns Q (T.setTop (mkF m pc Ls (w :: St))) := by
  subst hr
  obtain ⟨fs, hr, hrun, hended, hW, hsame⟩ := X.leave (v := some w) (fun h => by rw [B.r] at h; cases h) B.lk
  exact ⟨_, _, retOut X B.x B.r hn hi (B.d hd) hr, hrun, hended, _, _, rfl, q, ⟨_, rfl⟩, hW, hsame.mono hc hs⟩
theorem g_retI (X : Stand p l e R s m args below meth c T locs cells slots) (B : Bdy p s m meth c Z a0 own nm bytes maxL rt tabs) {z : Int32} (hr : rt = some .int) (hd : decode bytes pc = .ok (.ireturn, 1)) (hc : cells ≤ nc) (hs : slots ≤ ns) (q : Q (some (.int z)) T.heap locs) : Go p e below s nc ns Q (T.setTop (mkF m pc Ls (.int z :: St))) :=
  g_retV X B hr rfl (Or.inl ⟨rfl, Or.inl rfl, z, rfl⟩) hd hc hs q
theorem g_retL (X : Stand p l e R s m args below meth c T locs cells slots) (B : Bdy p s m meth c Z a0 own nm bytes maxL rt tabs) {z : Int64} (hr : rt = some .long) (hd : decode bytes pc = .ok (.lreturn, 1)) (hc : cells ≤ nc) (hs : slots ≤ ns) (q : Q (some (.long z)) T.heap locs) : Go p e below s nc ns Q (T.setTop (mkF m pc Ls (.long z :: St))) :=
  g_retV X B hr rfl (Or.inr (Or.inl ⟨rfl, rfl, z, rfl⟩)) hd hc hs q
theorem g_retA (X : Stand p l e R s m args below meth c T locs cells slots) (B : Bdy p s m meth c Z a0 own nm bytes maxL rt tabs) {w : Value} {t : FieldType} (hr : rt = some t) (ht : t.isReference = true) (hw : w.isRef = true) (hn : narrow t w = w) (hd : decode bytes pc = .ok (.areturn, 1)) (hc : cells ≤ nc) (hs : slots ≤ ns) (q : Q (some w) T.heap locs) : Go p e below s nc ns Q (T.setTop (mkF m pc Ls (w :: St))) :=
  g_retV X B hr hn (Or.inr (Or.inr (Or.inr (Or.inr ⟨rfl, ht, hw⟩)))) hd hc hs q
theorem g_retN (X : Stand p l e R s m args below meth c T locs cells slots) (B : Bdy p s m meth c Z a0 own nm bytes maxL rt tabs) {z : Int32} {t : FieldType} (hr : rt = some t) (ht : t = .boolean ∨ t = .byte ∨ t = .char ∨ t = .short) (hd : decode bytes pc = .ok (.ireturn, 1)) (hc : cells ≤ nc) (hs : slots ≤ ns) (q : Q (some (.int (nar t z))) T.heap locs) : Go p e below s nc ns Q (T.setTop (mkF m pc Ls (.int z :: St))) := by
  subst hr
  obtain ⟨fs, hr, hrun, hended, hW, hsame⟩ := X.leave (v := some (.int (nar t z))) (fun h => by rw [B.r] at h; cases h) B.lk
  exact ⟨_, _, retN X B.x B.r ht (B.d hd) hr, hrun, hended, _, _, rfl, q, ⟨_, rfl⟩, hW, hsame.mono hc hs⟩
/-! calls -/
abbrev Met (l : Launch) (Z : State) (y : MethodName) (yb : ByteArray) (ym : Nat) (yr : Option FieldType) (ws : List Jvm.Cond) (rm : Room) (as : Array Value) (h : Heap) (Qc : Option Value → Heap → List Loc → Prop) : Prop :=
  MetFree l y (head1 (Jvm.Cond.code y yb ym yr :: ws) rm) (fun a U => a = as ∧ Z.Warmed39 U.vm ∧ U.heap = h) (fun _ _ _ _ _ => True) (fun _ U o U' => ∃ v L, o = .returned v ∧ Qc v U'.heap L ∧ FrameEnd U o U' L rm.cells rm.slots)
theorem met_of {y : MethodName} {rm : Room} {as : Array Value} {ws : List Jvm.Cond} (hpl : plainFor y = true) (hw : ∀ d ∈ tabs, d.before a0 Z = true)
    (body : ∀ (p : Program) (e : Env) (s : State) (m : MethodId) (below : List Frame) (meth : Method) (c : Code) (T : State), Stand p l e rm s m as below meth c T [] 0 0 → Bdy p s m meth c Z a0 y.cls y.name bytes maxL rt tabs → T.heap = h → Go p e below s rm.cells rm.slots Q (T.setTop (entryFrame m as maxL))) :
    Met l Z y bytes maxL rt ws rm as h Q := by
  refine MetFree.of_bodySF hpl hisR ?_
  intro p e s m args below meth c s₁ Bd hml0 hP hK
  obtain ⟨rfl, hZ, hh⟩ := hP
  exact body p e s m below meth c s₁ (Stand.of_body Bd) ⟨Bd.exec, hZ, hw, Bd.bytes, hml0, findClass_of_methodNamed Bd.named, Bd.returns, BodyLoose.notSynchronized Bd, (name_of_methodNamed Bd.named Bd.method).1⟩ (by rw [← hh, Bd.state]; rfl)
theorem g_callS (X : Stand p l e R s m args below meth c T locs cells slots) (B : Bdy p s m meth c Z a0 own nm bytes maxL rt tabs) {y : MethodName} {i : Nat} {yb : ByteArray} {ym : Nat} {yr : Option FieldType} {rm : Room} {argsL rest : List Value} {Qc : Option Value → Heap → List Loc → Prop} (eT : T.heap = h) (W : Nat)
    (w1 : (Jvm.Cond.methodLink own i y).before a0 Z = true) (w2 : (Jvm.Cond.static y).before a0 Z = true) (w3 : (Jvm.Cond.initialized y.cls).before a0 Z = true) (w4 : (Jvm.Cond.code y yb ym yr).before a0 Z = true) (hy : y.cls ≠ "java/lang/invoke/MethodHandle" ∧ y.cls ≠ "java/lang/invoke/VarHandle")
    (M : Met l Z y yb ym yr [] rm argsL.toArray h Qc) (hf : rm.frames + 1 ≤ R.frames) (hl : W + (ym + 11) + rm.locals ≤ R.locals) (hc : cells + rm.cells ≤ R.cells) (hs : slots + rm.slots ≤ R.slots)
    (hsz : Ls.size = maxL) (hlen : ∀ sig, parseMethodDescriptor y.desc = some sig → argsL.length = sig.parameters.length) (hst : St = argsL.reverse ++ rest) (hW : (rest.map fun v => v.category).sum ≤ W) (hd : decode bytes pc = .ok (.invokestatic i, 3)) (hp : pc + 3 = pc')
    (K : ∀ (T' : State) (v : Option Value) (L : List Loc), Stand p l e R s m args below meth c T' (locs ++ L) (cells + rm.cells) (slots + rm.slots) → Qc v T'.heap L → Go p e below s nc ns Q (T'.setTop (mkF m pc' Ls (v.toList ++ rest)))) : Go p e below s nc ns Q (T.setTop (mkF m pc Ls St)) := by
  subst hp
  obtain ⟨v, _, ⟨T', L', k', n'⟩, -, X', ⟨Lc, hQ, l', y', z'⟩, st⟩ := Jvm.LawKit.callS X B.x (y := y) B.o (mvT B.z w1) (mvT B.z w2) (mvT B.z w3) (mvT B.z w4) hy (backOf (W := W) M B.z w4 w3 hf hl) (g := mkF m pc Ls St) rfl (by rw [B.ml]; exact hsz) (argsL := argsL) (rest := rest) hlen hst (by show 2 * 0 + _ ≤ _; omega) (B.d hd) (fun _ _ => ⟨rfl, eT, hc, hs⟩)
  dsimp only [Pt.U, Pt.locs, Pt.cells, Pt.slots] at X' l' y' z' st hQ
  subst l' y' z'
  exact Go.step st (K T' v Lc X' hQ)
theorem g_callP (X : Stand p l e R s m args below meth c T locs cells slots) (B : Bdy p s m meth c Z a0 own nm bytes maxL rt tabs) {y : MethodName} {i : Nat} {yb : ByteArray} {ym : Nat} {yr : Option FieldType} {fr lo : Nat} {argsL rest : List Value} {w : Value} (eT : T.heap = h) (W : Nat)
    (w1 : (Jvm.Cond.methodLink own i y).before a0 Z = true) (w2 : (Jvm.Cond.static y).before a0 Z = true) (w3 : (Jvm.Cond.initialized y.cls).before a0 Z = true) (w4 : (Jvm.Cond.code y yb ym yr).before a0 Z = true) (hy : y.cls ≠ "java/lang/invoke/MethodHandle" ∧ y.cls ≠ "java/lang/invoke/VarHandle")
    (M : Met l Z y yb ym yr [] ⟨fr, 0, 0, lo⟩ argsL.toArray h (PQ (some w) h [])) (hf : fr + 1 ≤ R.frames) (hl : W + (ym + 11) + lo ≤ R.locals) (hc : cells ≤ R.cells) (hs : slots ≤ R.slots)
    (hsz : Ls.size = maxL) (hlen : ∀ sig, parseMethodDescriptor y.desc = some sig → argsL.length = sig.parameters.length) (hst : St = argsL.reverse ++ rest) (hW : (rest.map fun v => v.category).sum ≤ W) (hd : decode bytes pc = .ok (.invokestatic i, 3)) (hp : pc + 3 = pc')
    (K : ∀ (T' : State), Stand p l e R s m args below meth c T' locs cells slots → T'.heap = h → Go p e below s nc ns Q (T'.setTop (mkF m pc' Ls (w :: rest)))) : Go p e below s nc ns Q (T.setTop (mkF m pc Ls St)) := by
  refine g_callS X B eT W w1 w2 w3 w4 hy M hf hl hc hs hsz hlen hst hW hd hp fun T' v L X' q => ?_
  obtain ⟨rfl, q2, rfl⟩ := q
  rw [List.append_nil] at X'
  exact K T' X' q2
end GoKit
/-! own frame, the heap's steps -/
def Ax (Z : State) (h : Heap) (a : Addr) (ty : FieldType) (n : Nat) (w : Nat → Value) : Prop := n < 2147483648 ∧ ∃ c : Cell, Arr Z h a c ty ∧ c.slots.size = n ∧ ∀ j, j < n → c.slots[j]? = some (w j)
section HeapKit
variable {p : Program} {l : Launch} {e : Env} {R : Room} {s : State} {m : MethodId} {args : Array Value} {below : List Frame} {meth : Method} {c : Code} {T : State} {locs : List Loc} {cells slots : Nat} {Z : State} {a0 : Array Value} {h h' : Heap} {nc ns : Nat} {Q Q' : Option Value → Heap → List Loc → Prop} {pc pc' : Nat} {Ls Ls' : Array Slot} {St : List Value} {own nm : String} {bytes : ByteArray} {maxL : Nat} {rt : Option FieldType} {tabs : List Jvm.Cond}
theorem Ax.lt {a : Addr} {ty : FieldType} {n : Nat} {w : Nat → Value} (F : Ax Z h a ty n w) : a < h.size := by obtain ⟨-, c, A, -⟩ := F; exact A.lt
theorem Ax.ext {a : Addr} {ty : FieldType} {n : Nat} {w : Nat → Value} (F : Ax Z h a ty n w) (E : Ext h h') : Ax Z h' a ty n w := by obtain ⟨h0, c, A, r⟩ := F; exact ⟨h0, c, A.ext E, r⟩
theorem Ax.other {a b : Addr} {ty : FieldType} {n sl : Nat} {v : Value} {w : Nat → Value} (F : Ax Z h b ty n w) (W : Wr h h' a sl v) (q : b ≠ a) : Ax Z h' b ty n w := by obtain ⟨h0, c, A, r⟩ := F; exact ⟨h0, c, A.other W q, r⟩
theorem Ax.keep {a : Addr} {ty : FieldType} {n : Nat} {w : Nat → Value} {ws : List Addr} (F : Ax Z h a ty n w) (K : Keep h h' ws) (q : a ∉ ws) : Ax Z h' a ty n w := by obtain ⟨h0, c, A, r⟩ := F; exact ⟨h0, c, ⟨K.2.1 a c A.1 q, A.2⟩, r⟩
theorem Ax.set {a : Addr} {ty : FieldType} {n k : Nat} {v : Value} {w : Nat → Value} (F : Ax Z h a ty n w) (W : Wr h h' a k v) : Ax Z h' a ty n (fun j => if j = k then v else w j) := by
  obtain ⟨h0, c, A, r1, r2⟩ := F
  refine ⟨h0, _, A.same W, by rw [sz_set]; exact r1, fun j hj => ?_⟩
  by_cases q : j = k
  · subst q; simp [Cell.setSlot, r1, hj]
  · simp only [Cell.setSlot, if_neg q]; rw [Array.getElem?_setIfInBounds_ne (Ne.symm q)]; exact r2 j hj
theorem Ax.eqw {a : Addr} {ty : FieldType} {n : Nat} {w w' : Nat → Value} (F : Ax Z h a ty n w) (q : ∀ j, j < n → w j = w' j) : Ax Z h a ty n w' := by
  obtain ⟨h0, c, A, r1, r2⟩ := F
  exact ⟨h0, c, A, r1, fun j hj => by rw [← q j hj]; exact r2 j hj⟩
theorem own_idx {j : Int32} {k n : Nat} (hk : j.toInt = (k : Int)) (hn : k < n) : ¬ (j < 0 ∨ n ≤ j.toNatClampNeg) ∧ j.toNatClampNeg = k := by
  have e0 : (0 : Int32).toInt = 0 := rfl
  have e1 : j.toNatClampNeg = j.toInt.toNat := rfl
  rw [Int32.lt_iff_toInt_lt, e0, e1, hk]; omega
theorem g_getF (X : Stand p l e R s m args below meth c T locs cells slots) (B : Bdy p s m meth c Z a0 own nm bytes maxL rt tabs) {i : Nat} {R0 O n d : String} {a : Addr} {v : Value} (w : (Jvm.Cond.fieldLink own i R0 n d).before a0 Z = true) (via : Via Z R0 O n d) (eT : T.heap = h) (F : Fld Z h a O n d v) (hd : decode bytes pc = .ok (.getfield i, 3)) (hp : pc + 3 = pc')
    (K : ∀ T' : State, Stand p l e R s m args below meth c T' locs cells slots → T'.heap = h → Go p e below s nc ns Q (T'.setTop (mkF m pc' Ls (v :: St)))) : Go p e below s nc ns Q (T.setTop (mkF m pc Ls (.ref a :: St))) := by
  subst hp
  obtain ⟨T', X', e', st⟩ := getF X B.x B.z B.o (host := "") (Or.inl w) via eT F (g := mkF m pc Ls (.ref a :: St)) rfl rfl (B.d hd)
  exact Go.step st (K T' X' e')
theorem g_putF (X : Stand p l e R s m args below meth c T locs cells slots) (B : Bdy p s m meth c Z a0 own nm bytes maxL rt tabs) {i kk : Nat} {R0 O n d C : String} {a : Addr} {v old : Value} {ty : FieldType} (w : (Jvm.Cond.fieldLink own i R0 n d).before a0 Z = true) (via : Via Z R0 O n d) (eT : T.heap = h) (F : Fld Z h a O n d old) (E : Exa Z h a C)
    (L : (Jvm.Cond.lays C O n d).before a0 Z = true ∨ ((Jvm.Cond.laysFinal C O n d).before a0 Z = true ∧ own = O ∧ nm = "<init>")) (wi : (Jvm.Cond.instantiable C kk).before a0 Z = true) (hty : parseFieldDescriptor d = some ty) (hn : narrow ty v = v) (hf : fits ty v = true)
    (hd : decode bytes pc = .ok (.putfield i, 3)) (hp : pc + 3 = pc')
    (K : ∀ (T' : State) (h' : Heap), Stand p l e R s m args below meth c T' (locs ++ [⟨a, Jvm.RoadKit.slotOf Z O n d⟩]) cells slots → T'.heap = h' → Wr h h' a (Jvm.RoadKit.slotOf Z O n d) v → Go p e below s nc ns Q (T'.setTop (mkF m pc' Ls St))) : Go p e below s nc ns Q (T.setTop (mkF m pc Ls (v :: .ref a :: St))) := by
  subst hp
  obtain ⟨T', h', X', e', W, st⟩ := putF X B.x B.z B.o (host := "") (Or.inl w) via eT F E (L.imp id fun q => ⟨q.1, q.2.1, B.n.trans q.2.2⟩) wi hty hn hf (g := mkF m pc Ls (v :: .ref a :: St)) rfl rfl (B.d hd)
  exact Go.step st (K T' h' X' e' W)
theorem g_getS (X : Stand p l e R s m args below meth c T locs cells slots) (B : Bdy p s m meth c Z a0 own nm bytes maxL rt tabs) {i : Nat} {R0 O n d : String} {v : Value} (w : (Jvm.Cond.fieldLink own i R0 n d).before a0 Z = true) (via : Via Z R0 O n d) (eT : T.heap = h) (F : Sta Z h O n d v) (hd : decode bytes pc = .ok (.getstatic i, 3)) (hp : pc + 3 = pc')
    (K : ∀ T' : State, Stand p l e R s m args below meth c T' locs cells slots → T'.heap = h → Go p e below s nc ns Q (T'.setTop (mkF m pc' Ls (v :: St)))) : Go p e below s nc ns Q (T.setTop (mkF m pc Ls St)) := by
  subst hp
  obtain ⟨T', X', e', st⟩ := getS X B.x B.z B.o (host := "") w via eT F (g := mkF m pc Ls St) rfl (B.d hd)
  exact Go.step st (K T' X' e')
theorem g_new (X : Stand p l e R s m args below meth c T locs cells slots) (B : Bdy p s m meth c Z a0 own nm bytes maxL rt tabs) {i n : Nat} {C : String} (w : (Jvm.Cond.classLink own i C).before a0 Z = true) (wi : (Jvm.Cond.instantiable C n).before a0 Z = true) (wz : (Jvm.Cond.initialized C).before a0 Z = true) (eT : T.heap = h) (hd : decode bytes pc = .ok (.new i, 3)) (hp : pc + 3 = pc') (hc : cells + 1 ≤ R.cells) (hl : slots + n ≤ R.slots)
    (K : ∀ (T' : State) (h' : Heap) (a : Addr), a = h.size → Stand p l e R s m args below meth c T' locs (cells + 1) (slots + n) → T'.heap = h' → Ext h h' → Exa Z h' a C → (∀ {O nm d : String} {ty : FieldType}, Laid Z a0 C O nm d → parseFieldDescriptor d = some ty → Fld Z h' a O nm d (defaultValue ty)) → Go p e below s nc ns Q (T'.setTop (mkF m pc' Ls (.ref a :: St)))) : Go p e below s nc ns Q (T.setTop (mkF m pc Ls St)) := by
  subst hp
  obtain ⟨T', h', X', e', E, A, D, -, st⟩ := newO X B.x B.z B.o w wi wz eT (g := mkF m pc Ls St) rfl (B.d hd) hc hl
  exact Go.step st (K T' h' _ rfl X' e' E A D)
theorem g_newA (X : Stand p l e R s m args below meth c T locs cells slots) (B : Bdy p s m meth c Z a0 own nm bytes maxL rt tabs) {aty : ArrayType} {z : Int32} (k cap : Nat) (w : (Jvm.Cond.arrayClass (newarray.typeOf aty)).before a0 Z = true) (eT : T.heap = h) (hz : z.toInt = (k : Int)) (hcap : k ≤ cap) (hb : cap * 8 ≤ 536870912) (hd : decode bytes pc = .ok (.newarray aty, 2)) (hp : pc + 2 = pc') (hc : cells + 1 ≤ R.cells) (hl : slots + cap ≤ R.slots)
    (K : ∀ (T' : State) (h' : Heap) (a : Addr), a = h.size → Stand p l e R s m args below meth c T' locs (cells + 1) (slots + cap) → T'.heap = h' → Ext h h' → Ax Z h' a (newarray.typeOf aty) k (fun _ => defaultValue (newarray.typeOf aty)) → Go p e below s nc ns Q (T'.setTop (mkF m pc' Ls (.ref a :: St)))) : Go p e below s nc ns Q (T.setTop (mkF m pc Ls (.int z :: St))) := by
  subst hp
  have e1 : z.toNatClampNeg = k := by show z.toInt.toNat = k; omega
  have e0 : (0 : Int32).toInt = 0 := rfl
  have hlt := z.toInt_lt
  obtain ⟨T', h', cA, X', e', E, A, st⟩ := newP X B.x B.z w eT (g := mkF m pc Ls (.int z :: St)) rfl (B.d hd) rfl (by rw [Int32.lt_iff_toInt_lt, e0]; omega) (cap := cap) (by omega) hb hc hl
  refine Go.step st (K T' h' _ rfl X' e' E ⟨by omega, _, A, (sz_new _ _ _).trans e1, fun j hj => ?_⟩)
  simp [newA, e1, hj]
theorem g_arrlen (X : Stand p l e R s m args below meth c T locs cells slots) (B : Bdy p s m meth c Z a0 own nm bytes maxL rt tabs) {a : Addr} {ty : FieldType} {n : Nat} {w : Nat → Value} (z : Int32) (eT : T.heap = h) (F : Ax Z h a ty n w) (hz : z.toInt = (n : Int)) (hd : decode bytes pc = .ok (.arraylength, 1)) (hp : pc + 1 = pc') (K : Go p e below s nc ns Q (T.setTop (mkF m pc' Ls (.int z :: St)))) : Go p e below s nc ns Q (T.setTop (mkF m pc Ls (.ref a :: St))) := by
  subst hp
  obtain ⟨h0, c, A, r1, -⟩ := F
  have ez : c.slots.size.toInt32 = z := by
    apply Int32.toInt_inj.mp; rw [hz, r1]; exact Int32.toInt_ofNat_small (by omega)
  refine Go.step (fun t q => X.arraylength B.x (by rw [eT]; exact A.1) (State.isArrayOf_alike B.z.alike A.2.1) (g := mkF m pc Ls (.ref a :: St)) rfl rfl (B.d hd) t (by rw [ez]; exact q)) K
theorem g_iaload (X : Stand p l e R s m args below meth c T locs cells slots) (B : Bdy p s m meth c Z a0 own nm bytes maxL rt tabs) {a : Addr} {n : Nat} {w : Nat → Value} {j : Int32} {v : Value} (k : Nat) (eT : T.heap = h) (F : Ax Z h a .int n w) (hk : j.toInt = (k : Int)) (hn : k < n) (hv : w k = v) (hd : decode bytes pc = .ok (.iaload, 1)) (hp : pc + 1 = pc') (K : Go p e below s nc ns Q (T.setTop (mkF m pc' Ls (v :: St)))) : Go p e below s nc ns Q (T.setTop (mkF m pc Ls (.int j :: .ref a :: St))) := by
  subst hp
  obtain ⟨h0, c, A, r1, r2⟩ := F
  obtain ⟨q1, q2⟩ := own_idx hk hn
  exact Go.step (fun t q => X.iaload B.x (v := v) (by rw [eT]; exact A.1) (State.isArrayOf_alike B.z.alike A.2.1) A.2.2 (by rw [r1]; exact q1) (by rw [q2, ← hv]; exact r2 k hn) (g := mkF m pc Ls (.int j :: .ref a :: St)) rfl rfl (B.d hd) t q) K
theorem g_laload (X : Stand p l e R s m args below meth c T locs cells slots) (B : Bdy p s m meth c Z a0 own nm bytes maxL rt tabs) {a : Addr} {n : Nat} {w : Nat → Value} {j : Int32} {v : Value} (k : Nat) (eT : T.heap = h) (F : Ax Z h a .long n w) (hk : j.toInt = (k : Int)) (hn : k < n) (hv : w k = v) (hd : decode bytes pc = .ok (.laload, 1)) (hp : pc + 1 = pc') (K : Go p e below s nc ns Q (T.setTop (mkF m pc' Ls (v :: St)))) : Go p e below s nc ns Q (T.setTop (mkF m pc Ls (.int j :: .ref a :: St))) := by
  subst hp
  obtain ⟨h0, c, A, r1, r2⟩ := F
  obtain ⟨q1, q2⟩ := own_idx hk hn
  exact Go.step (fun t q => X.laload B.x (v := v) (by rw [eT]; exact A.1) (State.isArrayOf_alike B.z.alike A.2.1) A.2.2 (by rw [r1]; exact q1) (by rw [q2, ← hv]; exact r2 k hn) (g := mkF m pc Ls (.int j :: .ref a :: St)) rfl rfl (B.d hd) t q) K
theorem g_baloadB (X : Stand p l e R s m args below meth c T locs cells slots) (B : Bdy p s m meth c Z a0 own nm bytes maxL rt tabs) {a : Addr} {n : Nat} {w : Nat → Value} {j : Int32} {v : Value} (k : Nat) (eT : T.heap = h) (F : Ax Z h a .byte n w) (hk : j.toInt = (k : Int)) (hn : k < n) (hv : w k = v) (hd : decode bytes pc = .ok (.baload, 1)) (hp : pc + 1 = pc') (K : Go p e below s nc ns Q (T.setTop (mkF m pc' Ls (v :: St)))) : Go p e below s nc ns Q (T.setTop (mkF m pc Ls (.int j :: .ref a :: St))) := by
  subst hp
  obtain ⟨h0, c, A, r1, r2⟩ := F
  obtain ⟨q1, q2⟩ := own_idx hk hn
  exact Go.step (fun t q => X.baloadBytes B.x (v := v) (by rw [eT]; exact A.1) (State.isArrayOf_alike B.z.alike A.2.1) A.2.2 (by rw [r1]; exact q1) (by rw [q2, ← hv]; exact r2 k hn) (g := mkF m pc Ls (.int j :: .ref a :: St)) rfl rfl (B.d hd) t q) K
theorem g_baloadZ (X : Stand p l e R s m args below meth c T locs cells slots) (B : Bdy p s m meth c Z a0 own nm bytes maxL rt tabs) {a : Addr} {n : Nat} {w : Nat → Value} {j : Int32} {v : Value} (k : Nat) (eT : T.heap = h) (F : Ax Z h a .boolean n w) (hk : j.toInt = (k : Int)) (hn : k < n) (hv : w k = v) (hd : decode bytes pc = .ok (.baload, 1)) (hp : pc + 1 = pc') (K : Go p e below s nc ns Q (T.setTop (mkF m pc' Ls (v :: St)))) : Go p e below s nc ns Q (T.setTop (mkF m pc Ls (.int j :: .ref a :: St))) := by
  subst hp
  obtain ⟨h0, c, A, r1, r2⟩ := F
  obtain ⟨q1, q2⟩ := own_idx hk hn
  exact Go.step (fun t q => X.baloadBooleans B.x (v := v) (by rw [eT]; exact A.1) (State.isArrayOf_alike B.z.alike A.2.1) A.2.2 (by rw [r1]; exact q1) (by rw [q2, ← hv]; exact r2 k hn) (g := mkF m pc Ls (.int j :: .ref a :: St)) rfl rfl (B.d hd) t q) K
theorem g_iastore (X : Stand p l e R s m args below meth c T locs cells slots) (B : Bdy p s m meth c Z a0 own nm bytes maxL rt tabs) {a : Addr} {n : Nat} {w : Nat → Value} {j x : Int32} (k : Nat) (eT : T.heap = h) (F : Ax Z h a .int n w) (hk : j.toInt = (k : Int)) (hn : k < n) (hd : decode bytes pc = .ok (.iastore, 1)) (hp : pc + 1 = pc')
    (K : ∀ (T' : State) (h' : Heap), Stand p l e R s m args below meth c T' (locs ++ [⟨a, k⟩]) cells slots → T'.heap = h' → Wr h h' a k (.int x) → Go p e below s nc ns Q (T'.setTop (mkF m pc' Ls St))) : Go p e below s nc ns Q (T.setTop (mkF m pc Ls (.int x :: .int j :: .ref a :: St))) := by
  subst hp
  obtain ⟨h0, c, A, r1, r2⟩ := F
  obtain ⟨q1, q2⟩ := own_idx hk hn
  obtain ⟨T', h', X', e', W, st⟩ := stI X B.x B.z eT A (j := j) (x := x) (by rw [r1]; exact q1) (g := mkF m pc Ls (.int x :: .int j :: .ref a :: St)) rfl rfl (B.d hd)
  rw [q2] at X' W
  exact Go.step st (K T' h' X' e' W)
theorem g_lastore (X : Stand p l e R s m args below meth c T locs cells slots) (B : Bdy p s m meth c Z a0 own nm bytes maxL rt tabs) {a : Addr} {n : Nat} {w : Nat → Value} {j : Int32} {x : Int64} (k : Nat) (eT : T.heap = h) (F : Ax Z h a .long n w) (hk : j.toInt = (k : Int)) (hn : k < n) (hd : decode bytes pc = .ok (.lastore, 1)) (hp : pc + 1 = pc')
    (K : ∀ (T' : State) (h' : Heap), Stand p l e R s m args below meth c T' (locs ++ [⟨a, k⟩]) cells slots → T'.heap = h' → Wr h h' a k (.long x) → Go p e below s nc ns Q (T'.setTop (mkF m pc' Ls St))) : Go p e below s nc ns Q (T.setTop (mkF m pc Ls (.long x :: .int j :: .ref a :: St))) := by
  subst hp
  obtain ⟨h0, c, A, r1, r2⟩ := F
  obtain ⟨q1, q2⟩ := own_idx hk hn
  obtain ⟨T', h', X', e', W, st⟩ := stJ X B.x B.z eT A (j := j) (x := x) (by rw [r1]; exact q1) (g := mkF m pc Ls (.long x :: .int j :: .ref a :: St)) rfl rfl (B.d hd)
  rw [q2] at X' W
  exact Go.step st (K T' h' X' e' W)
theorem g_bastoreB (X : Stand p l e R s m args below meth c T locs cells slots) (B : Bdy p s m meth c Z a0 own nm bytes maxL rt tabs) {a : Addr} {n : Nat} {w : Nat → Value} {j x : Int32} (k : Nat) (eT : T.heap = h) (F : Ax Z h a .byte n w) (hk : j.toInt = (k : Int)) (hn : k < n) (hd : decode bytes pc = .ok (.bastore, 1)) (hp : pc + 1 = pc')
    (K : ∀ (T' : State) (h' : Heap), Stand p l e R s m args below meth c T' (locs ++ [⟨a, k⟩]) cells slots → T'.heap = h' → Wr h h' a k (.int (nar .byte x)) → Go p e below s nc ns Q (T'.setTop (mkF m pc' Ls St))) : Go p e below s nc ns Q (T.setTop (mkF m pc Ls (.int x :: .int j :: .ref a :: St))) := by
  subst hp
  obtain ⟨h0, c, A, r1, r2⟩ := F
  obtain ⟨q1, q2⟩ := own_idx hk hn
  obtain ⟨T', h', X', e', W, st⟩ := stB X B.x B.z eT A (j := j) (x := x) (by rw [r1]; exact q1) (g := mkF m pc Ls (.int x :: .int j :: .ref a :: St)) rfl rfl (B.d hd)
  rw [q2] at X' W
  exact Go.step st (K T' h' X' e' W)
theorem g_bastoreZ (X : Stand p l e R s m args below meth c T locs cells slots) (B : Bdy p s m meth c Z a0 own nm bytes maxL rt tabs) {a : Addr} {n : Nat} {w : Nat → Value} {j x : Int32} (k : Nat) (eT : T.heap = h) (F : Ax Z h a .boolean n w) (hk : j.toInt = (k : Int)) (hn : k < n) (hd : decode bytes pc = .ok (.bastore, 1)) (hp : pc + 1 = pc')
    (K : ∀ (T' : State) (h' : Heap), Stand p l e R s m args below meth c T' (locs ++ [⟨a, k⟩]) cells slots → T'.heap = h' → Wr h h' a k (.int (nar .boolean x)) → Go p e below s nc ns Q (T'.setTop (mkF m pc' Ls St))) : Go p e below s nc ns Q (T.setTop (mkF m pc Ls (.int x :: .int j :: .ref a :: St))) := by
  subst hp
  obtain ⟨h0, c, A, r1, r2⟩ := F
  obtain ⟨q1, q2⟩ := own_idx hk hn
  obtain ⟨T', h', X', e', W, st⟩ := stZ X B.x B.z eT A (j := j) (x := x) (by rw [r1]; exact q1) (g := mkF m pc Ls (.int x :: .int j :: .ref a :: St)) rfl rfl (B.d hd)
  rw [q2] at X' W
  exact Go.step st (K T' h' X' e' W)
theorem g_castore (X : Stand p l e R s m args below meth c T locs cells slots) (B : Bdy p s m meth c Z a0 own nm bytes maxL rt tabs) {a : Addr} {n : Nat} {w : Nat → Value} {j x : Int32} (k : Nat) (eT : T.heap = h) (F : Ax Z h a .char n w) (hk : j.toInt = (k : Int)) (hn : k < n) (hd : decode bytes pc = .ok (.castore, 1)) (hp : pc + 1 = pc')
    (K : ∀ (T' : State) (h' : Heap), Stand p l e R s m args below meth c T' (locs ++ [⟨a, k⟩]) cells slots → T'.heap = h' → Wr h h' a k (.int (nar .char x)) → Go p e below s nc ns Q (T'.setTop (mkF m pc' Ls St))) : Go p e below s nc ns Q (T.setTop (mkF m pc Ls (.int x :: .int j :: .ref a :: St))) := by
  subst hp
  obtain ⟨h0, c, A, r1, r2⟩ := F
  obtain ⟨q1, q2⟩ := own_idx hk hn
  obtain ⟨T', h', X', e', W, st⟩ := stC X B.x B.z eT A (j := j) (x := x) (by rw [r1]; exact q1) (g := mkF m pc Ls (.int x :: .int j :: .ref a :: St)) rfl rfl (B.d hd)
  rw [q2] at X' W
  exact Go.step st (K T' h' X' e' W)
theorem g_sastore (X : Stand p l e R s m args below meth c T locs cells slots) (B : Bdy p s m meth c Z a0 own nm bytes maxL rt tabs) {a : Addr} {n : Nat} {w : Nat → Value} {j x : Int32} (k : Nat) (eT : T.heap = h) (F : Ax Z h a .short n w) (hk : j.toInt = (k : Int)) (hn : k < n) (hd : decode bytes pc = .ok (.sastore, 1)) (hp : pc + 1 = pc')
    (K : ∀ (T' : State) (h' : Heap), Stand p l e R s m args below meth c T' (locs ++ [⟨a, k⟩]) cells slots → T'.heap = h' → Wr h h' a k (.int (nar .short x)) → Go p e below s nc ns Q (T'.setTop (mkF m pc' Ls St))) : Go p e below s nc ns Q (T.setTop (mkF m pc Ls (.int x :: .int j :: .ref a :: St))) := by
  subst hp
  obtain ⟨h0, c, A, r1, r2⟩ := F
  obtain ⟨q1, q2⟩ := own_idx hk hn
  obtain ⟨T', h', X', e', W, st⟩ := stS X B.x B.z eT A (j := j) (x := x) (by rw [r1]; exact q1) (g := mkF m pc Ls (.int x :: .int j :: .ref a :: St)) rfl rfl (B.d hd)
  rw [q2] at X' W
  exact Go.step st (K T' h' X' e' W)
theorem g_initO (X : Stand p l e R s m args below meth c T locs cells slots) (B : Bdy p s m meth c Z a0 own nm bytes maxL rt tabs) {i : Nat} {a : Addr} (W : Nat) (w1 : (Jvm.Cond.methodLink own i Lib.objectInit).before a0 Z = true) (w2 : (Jvm.Cond.instanceMethod Lib.objectInit).before a0 Z = true) (w3 : (Jvm.Cond.code Lib.objectInit ⟨#[0xb1]⟩ 1 none).before a0 Z = true) (eT : T.heap = h) (hsz : Ls.size = maxL) (hd : decode bytes pc = .ok (.invokespecial i, 3)) (hp : pc + 3 = pc')
    (hf : 1 ≤ R.frames) (hW : (St.map fun v => v.category).sum ≤ W) (hl : W + 12 ≤ R.locals) (K : ∀ T' : State, Stand p l e R s m args below meth c T' locs cells slots → T'.heap = h → Go p e below s nc ns Q (T'.setTop (mkF m pc' Ls St))) : Go p e below s nc ns Q (T.setTop (mkF m pc Ls (.ref a :: St))) := by
  subst hp
  obtain ⟨T', X', e', st⟩ := initO X B.x B.z B.o w1 w2 w3 eT (g := mkF m pc Ls (.ref a :: St)) rfl (by rw [B.ml]; exact hsz) rfl (B.d hd) hf (W := W) (by show 2 * 0 + _ ≤ _; omega) hl
  exact Go.step st (K T' X' e')
theorem g_special (X : Stand p l e R s m args below meth c T locs cells slots) (B : Bdy p s m meth c Z a0 own nm bytes maxL rt tabs) {y : MethodName} {i : Nat} {yb : ByteArray} {ym : Nat} {rm : Room} {a : Addr} {argsL rest : List Value} {Qc : Option Value → Heap → List Loc → Prop} (eT : T.heap = h) (W : Nat) (hy1 : y.name = "<init>")
    (w1 : (Jvm.Cond.methodLink own i y).before a0 Z = true) (w2 : (Jvm.Cond.instanceMethod y).before a0 Z = true) (w3 : (Jvm.Cond.initialized y.cls).before a0 Z = true) (w4 : (Jvm.Cond.code y yb ym none).before a0 Z = true) (hy : y.cls ≠ "java/lang/invoke/MethodHandle" ∧ y.cls ≠ "java/lang/invoke/VarHandle")
    (M : Met l Z y yb ym none [] rm (.ref a :: argsL).toArray h Qc) (hf : rm.frames + 1 ≤ R.frames) (hl : W + (ym + 11) + rm.locals ≤ R.locals) (hc : cells + rm.cells ≤ R.cells) (hs : slots + rm.slots ≤ R.slots)
    (hsz : Ls.size = maxL) (hlen : ∀ sig, parseMethodDescriptor y.desc = some sig → argsL.length = sig.parameters.length) (hst : St = argsL.reverse ++ .ref a :: rest) (hW : (rest.map fun v => v.category).sum ≤ W) (hd : decode bytes pc = .ok (.invokespecial i, 3)) (hp : pc + 3 = pc')
    (K : ∀ (T' : State) (v : Option Value) (L : List Loc), Stand p l e R s m args below meth c T' (locs ++ L) (cells + rm.cells) (slots + rm.slots) → Qc v T'.heap L → Go p e below s nc ns Q (T'.setTop (mkF m pc' Ls (v.toList ++ rest)))) : Go p e below s nc ns Q (T.setTop (mkF m pc Ls St)) := by
  subst hp
  obtain ⟨v, _, ⟨T', L', k', n'⟩, -, X', ⟨Lc, hQ, l', y', z'⟩, st⟩ := X.specialBack B.x (y := y) hy1 B.o (mvT B.z w1) (mvT B.z w2) (mvT B.z w4) hy (backOf (W := W) M B.z w4 w3 hf hl) (g := mkF m pc Ls St) rfl (by rw [B.ml]; exact hsz) (Steps.refl _) (a := a) (argsL := argsL) (rest := rest) hlen hst (by show 2 * 0 + _ ≤ _; omega) (B.d hd) (fun _ _ => ⟨rfl, eT, hc, hs⟩)
  dsimp only [Pt.U, Pt.locs, Pt.cells, Pt.slots] at X' l' y' z' st hQ
  subst l' y' z'
  exact Go.step (fun t q => st.trans q) (K T' v Lc X' hQ)
theorem g_virtual (X : Stand p l e R s m args below meth c T locs cells slots) (B : Bdy p s m meth c Z a0 own nm bytes maxL rt tabs) {y : MethodName} {C : String} {i : Nat} {yb : ByteArray} {ym : Nat} {yr : Option FieldType} {rm : Room} {a : Addr} {argsL rest : List Value} {Qc : Option Value → Heap → List Loc → Prop} (eT : T.heap = h) (W : Nat) (E : Exa Z h a C)
    (w1 : (Jvm.Cond.methodLink own i y).before a0 Z = true) (wd : (Jvm.Cond.declares y).before a0 Z = true) (wsel : (Jvm.Cond.selects C y y).before a0 Z = true) (w2 : (Jvm.Cond.instanceMethod y).before a0 Z = true) (w3 : (Jvm.Cond.initialized y.cls).before a0 Z = true) (w4 : (Jvm.Cond.code y yb ym yr).before a0 Z = true) (hy : y.cls ≠ "java/lang/invoke/MethodHandle" ∧ y.cls ≠ "java/lang/invoke/VarHandle")
    (M : Met l Z y yb ym yr [] rm (.ref a :: argsL).toArray h Qc) (hf : rm.frames + 1 ≤ R.frames) (hl : W + (ym + 11) + rm.locals ≤ R.locals) (hc : cells + rm.cells ≤ R.cells) (hs : slots + rm.slots ≤ R.slots)
    (hsz : Ls.size = maxL) (hlen : ∀ sig, parseMethodDescriptor y.desc = some sig → argsL.length = sig.parameters.length) (hst : St = argsL.reverse ++ .ref a :: rest) (hW : (rest.map fun v => v.category).sum ≤ W) (hd : decode bytes pc = .ok (.invokevirtual i, 3)) (hp : pc + 3 = pc')
    (K : ∀ (T' : State) (v : Option Value) (L : List Loc), Stand p l e R s m args below meth c T' (locs ++ L) (cells + rm.cells) (slots + rm.slots) → Qc v T'.heap L → Go p e below s nc ns Q (T'.setTop (mkF m pc' Ls (v.toList ++ rest)))) : Go p e below s nc ns Q (T.setTop (mkF m pc Ls St)) := by
  subst hp
  obtain ⟨cq, kq, q1, q2, q3⟩ := isOf B.z eT E
  obtain ⟨v, _, ⟨T', L', k', n'⟩, -, X', ⟨Lc, hQ, l', y', z'⟩, st⟩ := X.virtualBack B.x (y := y) (z := y) B.o (mvT B.z w1) (mvT B.z wd) (notFace_of_selects (args := #[]) (mvT B.z wsel)) (mvT B.z wsel) (mvT B.z w2) hy (backOf (W := W) M B.z w4 w3 hf hl) q1 q3 (g := mkF m pc Ls St) rfl (by rw [B.ml]; exact hsz) (Steps.refl _) (argsL := argsL) (rest := rest) hlen hst (by show 2 * 0 + _ ≤ _; omega) (B.d hd) (fun _ _ => ⟨rfl, eT, hc, hs⟩)
  dsimp only [Pt.U, Pt.locs, Pt.cells, Pt.slots] at X' l' y' z' st hQ
  subst l' y' z'
  exact Go.step (fun t q => st.trans q) (K T' v Lc X' hQ)
theorem g_ifnullR (X : Stand p l e R s m args below meth c T locs cells slots) (B : Bdy p s m meth c Z a0 own nm bytes maxL rt tabs) {a : Addr} {o : Int} (hd : decode bytes pc = .ok (.ifnull o, 3)) (hp : pc + 3 = pc') (K : Go p e below s nc ns Q (T.setTop (mkF m pc' Ls St))) : Go p e below s nc ns Q (T.setTop (mkF m pc Ls (.ref a :: St))) := by
  subst hp; exact Go.step (fun t q => XS.ifnullNo X.here B.x (g := mkF m pc Ls (.ref a :: St)) rfl (B.d hd) rfl q) K
theorem g_ifnullN (X : Stand p l e R s m args below meth c T locs cells slots) (B : Bdy p s m meth c Z a0 own nm bytes maxL rt tabs) {o : Int} (hd : decode bytes pc = .ok (.ifnull o, 3)) (ho : 0 ≤ (pc : Int) + o) (hp : ((pc : Int) + o).toNat = pc') (K : Go p e below s nc ns Q (T.setTop (mkF m pc' Ls St))) : Go p e below s nc ns Q (T.setTop (mkF m pc Ls (.null :: St))) :=
  Go.step (fun t q => XS.ifnullYes X.here B.x (g := mkF m pc Ls (.null :: St)) rfl rfl (B.d hd) rfl ho hp q) K
theorem g_ifnonnullR (X : Stand p l e R s m args below meth c T locs cells slots) (B : Bdy p s m meth c Z a0 own nm bytes maxL rt tabs) {a : Addr} {o : Int} (hd : decode bytes pc = .ok (.ifnonnull o, 3)) (ho : 0 ≤ (pc : Int) + o) (hp : ((pc : Int) + o).toNat = pc') (K : Go p e below s nc ns Q (T.setTop (mkF m pc' Ls St))) : Go p e below s nc ns Q (T.setTop (mkF m pc Ls (.ref a :: St))) :=
  Go.step (fun t q => XS.ifnonnullYes X.here B.x (g := mkF m pc Ls (.ref a :: St)) rfl rfl (B.d hd) rfl ho hp q) K
theorem g_ifnonnullN (X : Stand p l e R s m args below meth c T locs cells slots) (B : Bdy p s m meth c Z a0 own nm bytes maxL rt tabs) {o : Int} (hd : decode bytes pc = .ok (.ifnonnull o, 3)) (hp : pc + 3 = pc') (K : Go p e below s nc ns Q (T.setTop (mkF m pc' Ls St))) : Go p e below s nc ns Q (T.setTop (mkF m pc Ls (.null :: St))) := by
  subst hp; exact Go.step (fun t q => XS.ifnonnullNo X.here B.x (g := mkF m pc Ls (.null :: St)) rfl (B.d hd) rfl q) K
theorem g_acmp_eq (X : Stand p l e R s m args below meth c T locs cells slots) (B : Bdy p s m meth c Z a0 own nm bytes maxL rt tabs) {a b : Addr} {o : Int} {pcT pcF : Nat} (hd : decode bytes pc = .ok (.if_acmp .eq o, 3)) (ho : 0 ≤ (pc : Int) + o) (hT : ((pc : Int) + o).toNat = pcT) (hF : pc + 3 = pcF) (K1 : a = b → Go p e below s nc ns Q (T.setTop (mkF m pcT Ls St))) (K2 : ¬ a = b → Go p e below s nc ns Q (T.setTop (mkF m pcF Ls St))) : Go p e below s nc ns Q (T.setTop (mkF m pc Ls (.ref b :: .ref a :: St))) := by
  by_cases q : a = b
  · exact Go.step (fun t k => XS.acmpYes X.here B.x (g := mkF m pc Ls (.ref b :: .ref a :: St)) rfl rfl (B.d hd) rfl (by simp [if_acmp.holds, q]) ho hT k) (K1 q)
  · subst hF; exact Go.step (fun t k => XS.acmpNo X.here B.x (g := mkF m pc Ls (.ref b :: .ref a :: St)) rfl (B.d hd) rfl (by simp [if_acmp.holds, q]) k) (K2 q)
theorem g_acmp_ne (X : Stand p l e R s m args below meth c T locs cells slots) (B : Bdy p s m meth c Z a0 own nm bytes maxL rt tabs) {a b : Addr} {o : Int} {pcT pcF : Nat} (hd : decode bytes pc = .ok (.if_acmp .ne o, 3)) (ho : 0 ≤ (pc : Int) + o) (hT : ((pc : Int) + o).toNat = pcT) (hF : pc + 3 = pcF) (K1 : a = b → Go p e below s nc ns Q (T.setTop (mkF m pcF Ls St))) (K2 : ¬ a = b → Go p e below s nc ns Q (T.setTop (mkF m pcT Ls St))) : Go p e below s nc ns Q (T.setTop (mkF m pc Ls (.ref b :: .ref a :: St))) := by
  by_cases q : a = b
  · subst hF; exact Go.step (fun t k => XS.acmpNo X.here B.x (g := mkF m pc Ls (.ref b :: .ref a :: St)) rfl (B.d hd) rfl (by simp [if_acmp.holds, q]) k) (K1 q)
  · exact Go.step (fun t k => XS.acmpYes X.here B.x (g := mkF m pc Ls (.ref b :: .ref a :: St)) rfl rfl (B.d hd) rfl (by simp [if_acmp.holds, q]) ho hT k) (K2 q)
theorem own_fuq {a : Addr} {C n d : String} {v w : Value} (F : Fld Z h a C n d v) (G : Fld Z h a C n d w) : v = w := by
  obtain ⟨c1, _, _, _, _, h1, h2, -, -, -, -, h3⟩ := F
  obtain ⟨c2, _, _, _, _, g1, g2, -, -, -, -, g3⟩ := G
  cases h1.symm.trans g1
  cases h2.symm.trans g2
  exact Option.some.inj (h3.symm.trans g3)
theorem own_fl {x : Addr} {t : Term} {C n d : String} {k : Int32} {as : Array Value} (ht : t.eval as s none [] s = some (.ref x)) (q : (Jvm.Cond.eq (.field t C n d) (.int k)).value as s none s [] = some true) : s.fieldOf? x C n d = some (.int k) := by
  obtain ⟨x', y', e1, e2, k1, k2⟩ := cmp_v (Or.inl q)
  have e3 : y' = .int k := (Option.some.inj ((Term.int_eval k).symm.trans e2)).symm
  subst e3
  obtain ⟨z, rfl⟩ := k2
  have e4 := gotT (Cond.eq_ints e1 e2) q
  subst e4
  rw [← fld_at (C := C) (n := n) (dd := d) ht]; exact e1
end HeapKit
theorem own_ints_nil (x : Int32) : ∀ j : Nat, ∃ v : Int32, (fun _ : Nat => Value.int x) j = .int v := fun _ => ⟨x, rfl⟩
theorem own_ints_set {w : Nat → Value} (H : ∀ j : Nat, ∃ v : Int32, w j = .int v) (k : Nat) (x : Int32) : ∀ j : Nat, ∃ v : Int32, (fun j => if j = k then Value.int x else w j) j = .int v := fun j => by
  by_cases q : j = k
  · exact ⟨x, by simp [q]⟩
  · obtain ⟨v, hv⟩ := H j; exact ⟨v, by simp [q, hv]⟩
section HeapKit2
variable {p : Program} {l : Launch} {e : Env} {R : Room} {s : State} {m : MethodId} {args : Array Value} {below : List Frame} {meth : Method} {c : Code} {T : State} {locs : List Loc} {cells slots : Nat} {Z : State} {a0 : Array Value} {h h' : Heap} {nc ns : Nat} {Q Q' : Option Value → Heap → List Loc → Prop} {pc pc' : Nat} {Ls Ls' : Array Slot} {St : List Value} {own nm : String} {bytes : ByteArray} {maxL : Nat} {rt : Option FieldType} {tabs : List Jvm.Cond}
theorem g_iaload_any (X : Stand p l e R s m args below meth c T locs cells slots) (B : Bdy p s m meth c Z a0 own nm bytes maxL rt tabs) {a : Addr} {n : Nat} {w : Nat → Value} {j : Int32} (k : Nat) (eT : T.heap = h) (F : Ax Z h a .int n w) (hk : j.toInt = (k : Int)) (hn : k < n) (hall : ∀ j : Nat, ∃ v : Int32, w j = .int v) (hd : decode bytes pc = .ok (.iaload, 1)) (hp : pc + 1 = pc') (K : ∀ v : Int32, Go p e below s nc ns Q (T.setTop (mkF m pc' Ls (.int v :: St)))) : Go p e below s nc ns Q (T.setTop (mkF m pc Ls (.int j :: .ref a :: St))) := by
  obtain ⟨v, hv⟩ := hall k
  exact g_iaload X B k eT F hk hn hv hd hp (K v)
end HeapKit2
section HeapKit3
variable {p : Program} {l : Launch} {e : Env} {R : Room} {s : State} {m : MethodId} {args : Array Value} {below : List Frame} {meth : Method} {c : Code} {T : State} {locs : List Loc} {cells slots : Nat} {Z : State} {a0 : Array Value} {h h' : Heap} {nc ns : Nat} {Q Q' : Option Value → Heap → List Loc → Prop} {pc pc' : Nat} {Ls Ls' : Array Slot} {St : List Value} {own nm : String} {bytes : ByteArray} {maxL : Nat} {rt : Option FieldType} {tabs : List Jvm.Cond}
theorem g_private (X : Stand p l e R s m args below meth c T locs cells slots) (B : Bdy p s m meth c Z a0 own nm bytes maxL rt tabs) {y : MethodName} {C : String} {i kk : Nat} {yb : ByteArray} {ym : Nat} {yr : Option FieldType} {rm : Room} {a : Addr} {argsL rest : List Value} {Qc : Option Value → Heap → List Loc → Prop} (eT : T.heap = h) (W : Nat) (E : Exa Z h a C)
    (w1 : (Jvm.Cond.methodLink own i y).before a0 Z = true) (wi : (Jvm.Cond.instantiable y.cls kk).before a0 Z = true) (wp : (Jvm.Cond.privateMethod y).before a0 Z = true) (w2 : (Jvm.Cond.instanceMethod y).before a0 Z = true) (w3 : (Jvm.Cond.initialized y.cls).before a0 Z = true) (w4 : (Jvm.Cond.code y yb ym yr).before a0 Z = true) (hy : y.cls ≠ "java/lang/invoke/MethodHandle" ∧ y.cls ≠ "java/lang/invoke/VarHandle")
    (M : Met l Z y yb ym yr [] rm (.ref a :: argsL).toArray h Qc) (hf : rm.frames + 1 ≤ R.frames) (hl : W + (ym + 11) + rm.locals ≤ R.locals) (hc : cells + rm.cells ≤ R.cells) (hs : slots + rm.slots ≤ R.slots)
    (hsz : Ls.size = maxL) (hlen : ∀ sig, parseMethodDescriptor y.desc = some sig → argsL.length = sig.parameters.length) (hst : St = argsL.reverse ++ .ref a :: rest) (hW : (rest.map fun v => v.category).sum ≤ W) (hd : decode bytes pc = .ok (.invokevirtual i, 3)) (hp : pc + 3 = pc')
    (K : ∀ (T' : State) (v : Option Value) (L : List Loc), Stand p l e R s m args below meth c T' (locs ++ L) (cells + rm.cells) (slots + rm.slots) → Qc v T'.heap L → Go p e below s nc ns Q (T'.setTop (mkF m pc' Ls (v.toList ++ rest)))) : Go p e below s nc ns Q (T.setTop (mkF m pc Ls St)) := by
  subst hp
  obtain ⟨cq, q1, q2⟩ := E.cell
  have wi' : (Jvm.Cond.instantiable y.cls kk).before args s = true := mvT B.z wi
  have w2' : (Jvm.Cond.instanceMethod y).before args s = true := mvT B.z w2
  obtain ⟨c2, k2, i1, i2, i3, i4, -⟩ := Cond.instantiable_spec wi'
  have i5 : k2.isInterface = false := by
    cases hq : k2.isInterface with
    | false => rfl
    | true => rw [hq] at i4; cases i4
  have hpv := Cond.privateMethod_at (mvP B.z wp (args := #[]))
  obtain ⟨v, _, ⟨T', L', k', n'⟩, -, X', ⟨Lc, hQ, l', y', z'⟩, st⟩ := X.privateBack B.x (y := y) B.o (mvT B.z w1) w2' (selects_self_of_private i1 i2 i5 hpv w2' hy) hpv (mvT B.z w4) hy (backOf (W := W) M B.z w4 w3 hf hl) (g := mkF m pc Ls St) rfl (by rw [B.ml]; exact hsz) (Steps.refl _) (a := a) (by rw [eT]; exact q1) q2 (argsL := argsL) (rest := rest) hlen hst (by show 2 * 0 + _ ≤ _; omega) (B.d hd) (fun _ _ => ⟨rfl, eT, hc, hs⟩)
  dsimp only [Pt.U, Pt.locs, Pt.cells, Pt.slots] at X' l' y' z' st hQ
  subst l' y' z'
  exact Go.step (fun t q => st.trans q) (K T' v Lc X' hQ)
theorem g_pop2L (X : Stand p l e R s m args below meth c T locs cells slots) (B : Bdy p s m meth c Z a0 own nm bytes maxL rt tabs) {x : Int64} (hd : decode bytes pc = .ok (.pop2, 1)) (hp : pc + 1 = pc') (K : Go p e below s nc ns Q (T.setTop (mkF m pc' Ls St))) : Go p e below s nc ns Q (T.setTop (mkF m pc Ls (.long x :: St))) := by
  subst hp
  have hd' := B.d hd
  have hx := B.x
  refine Go.step (fun t q => ?_) K
  jvm_step X.here [X.here.top, hx, hd', Value.category]
  exact q
theorem g_instY (X : Stand p l e R s m args below meth c T locs cells slots) (B : Bdy p s m meth c Z a0 own nm bytes maxL rt tabs) {i : Nat} {C : String} {a : Addr} (w : (Jvm.Cond.classLink own i C).before a0 Z = true) (eT : T.heap = h) (F : Ins Z h a C true) (hd : decode bytes pc = .ok (.instanceof i, 3)) (hp : pc + 3 = pc')
    (K : ∀ T' : State, Stand p l e R s m args below meth c T' locs cells slots → T'.heap = h → Go p e below s nc ns Q (T'.setTop (mkF m pc' Ls (.int (1 : Int32) :: St)))) : Go p e below s nc ns Q (T.setTop (mkF m pc Ls (.ref a :: St))) := by
  subst hp
  obtain ⟨T', X', e', st⟩ := instY X B.x B.z B.o w eT F (g := mkF m pc Ls (.ref a :: St)) rfl rfl (B.d hd)
  exact Go.step st (K T' X' e')
theorem g_instN (X : Stand p l e R s m args below meth c T locs cells slots) (B : Bdy p s m meth c Z a0 own nm bytes maxL rt tabs) {i : Nat} {K' C : String} {a : Addr} (w : (Jvm.Cond.classLink own i K').before a0 Z = true) (eT : T.heap = h) (E : Exa Z h a C) (F : ∃ c t, Z.vm.findClass C = some c ∧ Z.vm.findClass K' = some t ∧ Z.vm.assignable c t = false) (hd : decode bytes pc = .ok (.instanceof i, 3)) (hp : pc + 3 = pc')
    (K : ∀ T' : State, Stand p l e R s m args below meth c T' locs cells slots → T'.heap = h → Go p e below s nc ns Q (T'.setTop (mkF m pc' Ls (.int (0 : Int32) :: St)))) : Go p e below s nc ns Q (T.setTop (mkF m pc Ls (.ref a :: St))) := by
  subst hp
  obtain ⟨T', X', e', st⟩ := instNo X B.x B.z B.o w eT E F (g := mkF m pc Ls (.ref a :: St)) rfl rfl (B.d hd)
  exact Go.step st (K T' X' e')
theorem g_castY (X : Stand p l e R s m args below meth c T locs cells slots) (B : Bdy p s m meth c Z a0 own nm bytes maxL rt tabs) {i : Nat} {C : String} {a : Addr} (w : (Jvm.Cond.classLink own i C).before a0 Z = true) (eT : T.heap = h) (F : Ins Z h a C true) (hd : decode bytes pc = .ok (.checkcast i, 3)) (hp : pc + 3 = pc')
    (K : ∀ T' : State, Stand p l e R s m args below meth c T' locs cells slots → T'.heap = h → Go p e below s nc ns Q (T'.setTop (mkF m pc' Ls (.ref a :: St)))) : Go p e below s nc ns Q (T.setTop (mkF m pc Ls (.ref a :: St))) := by
  subst hp
  obtain ⟨T', X', e', st⟩ := castY X B.x B.z B.o w eT F (g := mkF m pc Ls (.ref a :: St)) rfl rfl (B.d hd)
  exact Go.step st (K T' X' e')
end HeapKit3
theorem own_pd0 : parseMethodDescriptor "(I)Z" = some ⟨[.int], some .boolean⟩ := by decide +kernel
theorem isn_d0 : decode prog_142_method_12_code 0 = .ok (.iload_n 0, 1) := by decide +kernel
theorem isn_d1 : decode prog_142_method_12_code 1 = .ok (.bipush 65, 2) := by decide +kernel
theorem isn_d3 : decode prog_142_method_12_code 3 = .ok (.if_icmp .lt 9, 3) := by decide +kernel
theorem isn_d6 : decode prog_142_method_12_code 6 = .ok (.iload_n 0, 1) := by decide +kernel
theorem isn_d7 : decode prog_142_method_12_code 7 = .ok (.bipush 90, 2) := by decide +kernel
theorem isn_d9 : decode prog_142_method_12_code 9 = .ok (.if_icmp .le 182, 3) := by decide +kernel
theorem isn_d12 : decode prog_142_method_12_code 12 = .ok (.iload_n 0, 1) := by decide +kernel
theorem isn_d13 : decode prog_142_method_12_code 13 = .ok (.bipush 97, 2) := by decide +kernel
theorem isn_d15 : decode prog_142_method_12_code 15 = .ok (.if_icmp .lt 9, 3) := by decide +kernel
theorem isn_d18 : decode prog_142_method_12_code 18 = .ok (.iload_n 0, 1) := by decide +kernel
theorem isn_d19 : decode prog_142_method_12_code 19 = .ok (.bipush 122, 2) := by decide +kernel
theorem isn_d21 : decode prog_142_method_12_code 21 = .ok (.if_icmp .le 170, 3) := by decide +kernel
theorem isn_d24 : decode prog_142_method_12_code 24 = .ok (.iload_n 0, 1) := by decide +kernel
theorem isn_d25 : decode prog_142_method_12_code 25 = .ok (.bipush 95, 2) := by decide +kernel
theorem isn_d27 : decode prog_142_method_12_code 27 = .ok (.if_icmp .eq 164, 3) := by decide +kernel
theorem isn_d30 : decode prog_142_method_12_code 30 = .ok (.iload_n 0, 1) := by decide +kernel
theorem isn_d31 : decode prog_142_method_12_code 31 = .ok (.sipush 192, 3) := by decide +kernel
theorem isn_d34 : decode prog_142_method_12_code 34 = .ok (.if_icmp .lt 10, 3) := by decide +kernel
theorem isn_d37 : decode prog_142_method_12_code 37 = .ok (.iload_n 0, 1) := by decide +kernel
theorem isn_d38 : decode prog_142_method_12_code 38 = .ok (.sipush 214, 3) := by decide +kernel
theorem isn_d41 : decode prog_142_method_12_code 41 = .ok (.if_icmp .le 150, 3) := by decide +kernel
theorem isn_d44 : decode prog_142_method_12_code 44 = .ok (.iload_n 0, 1) := by decide +kernel
theorem isn_d45 : decode prog_142_method_12_code 45 = .ok (.sipush 216, 3) := by decide +kernel
theorem isn_d48 : decode prog_142_method_12_code 48 = .ok (.if_icmp .lt 10, 3) := by decide +kernel
theorem isn_d51 : decode prog_142_method_12_code 51 = .ok (.iload_n 0, 1) := by decide +kernel
theorem isn_d52 : decode prog_142_method_12_code 52 = .ok (.sipush 246, 3) := by decide +kernel
theorem isn_d55 : decode prog_142_method_12_code 55 = .ok (.if_icmp .le 136, 3) := by decide +kernel
theorem isn_d58 : decode prog_142_method_12_code 58 = .ok (.iload_n 0, 1) := by decide +kernel
theorem isn_d59 : decode prog_142_method_12_code 59 = .ok (.sipush 248, 3) := by decide +kernel
theorem isn_d62 : decode prog_142_method_12_code 62 = .ok (.if_icmp .lt 10, 3) := by decide +kernel
theorem isn_d65 : decode prog_142_method_12_code 65 = .ok (.iload_n 0, 1) := by decide +kernel
theorem isn_d66 : decode prog_142_method_12_code 66 = .ok (.sipush 767, 3) := by decide +kernel
theorem isn_d69 : decode prog_142_method_12_code 69 = .ok (.if_icmp .le 122, 3) := by decide +kernel
theorem isn_d72 : decode prog_142_method_12_code 72 = .ok (.iload_n 0, 1) := by decide +kernel
theorem isn_d73 : decode prog_142_method_12_code 73 = .ok (.sipush 880, 3) := by decide +kernel
theorem isn_d76 : decode prog_142_method_12_code 76 = .ok (.if_icmp .lt 10, 3) := by decide +kernel
theorem isn_d79 : decode prog_142_method_12_code 79 = .ok (.iload_n 0, 1) := by decide +kernel
theorem isn_d80 : decode prog_142_method_12_code 80 = .ok (.sipush 893, 3) := by decide +kernel
theorem isn_d83 : decode prog_142_method_12_code 83 = .ok (.if_icmp .le 108, 3) := by decide +kernel
theorem isn_d86 : decode prog_142_method_12_code 86 = .ok (.iload_n 0, 1) := by decide +kernel
theorem isn_d87 : decode prog_142_method_12_code 87 = .ok (.sipush 895, 3) := by decide +kernel
theorem isn_d90 : decode prog_142_method_12_code 90 = .ok (.if_icmp .lt 10, 3) := by decide +kernel
theorem isn_d93 : decode prog_142_method_12_code 93 = .ok (.iload_n 0, 1) := by decide +kernel
theorem isn_d94 : decode prog_142_method_12_code 94 = .ok (.sipush 8191, 3) := by decide +kernel
theorem isn_d97 : decode prog_142_method_12_code 97 = .ok (.if_icmp .le 94, 3) := by decide +kernel
theorem isn_d100 : decode prog_142_method_12_code 100 = .ok (.iload_n 0, 1) := by decide +kernel
theorem isn_d101 : decode prog_142_method_12_code 101 = .ok (.sipush 8204, 3) := by decide +kernel
theorem isn_d104 : decode prog_142_method_12_code 104 = .ok (.if_icmp .lt 10, 3) := by decide +kernel
theorem isn_d107 : decode prog_142_method_12_code 107 = .ok (.iload_n 0, 1) := by decide +kernel
theorem isn_d108 : decode prog_142_method_12_code 108 = .ok (.sipush 8205, 3) := by decide +kernel
theorem isn_d111 : decode prog_142_method_12_code 111 = .ok (.if_icmp .le 80, 3) := by decide +kernel
theorem isn_d114 : decode prog_142_method_12_code 114 = .ok (.iload_n 0, 1) := by decide +kernel
theorem isn_d115 : decode prog_142_method_12_code 115 = .ok (.sipush 8304, 3) := by decide +kernel
theorem isn_d118 : decode prog_142_method_12_code 118 = .ok (.if_icmp .lt 10, 3) := by decide +kernel
theorem isn_d121 : decode prog_142_method_12_code 121 = .ok (.iload_n 0, 1) := by decide +kernel
theorem isn_d122 : decode prog_142_method_12_code 122 = .ok (.sipush 8591, 3) := by decide +kernel
theorem isn_d125 : decode prog_142_method_12_code 125 = .ok (.if_icmp .le 66, 3) := by decide +kernel
theorem isn_d128 : decode prog_142_method_12_code 128 = .ok (.iload_n 0, 1) := by decide +kernel
theorem isn_d129 : decode prog_142_method_12_code 129 = .ok (.sipush 11264, 3) := by decide +kernel
theorem isn_d132 : decode prog_142_method_12_code 132 = .ok (.if_icmp .lt 10, 3) := by decide +kernel
theorem isn_d135 : decode prog_142_method_12_code 135 = .ok (.iload_n 0, 1) := by decide +kernel
theorem isn_d136 : decode prog_142_method_12_code 136 = .ok (.sipush 12271, 3) := by decide +kernel
theorem isn_d139 : decode prog_142_method_12_code 139 = .ok (.if_icmp .le 52, 3) := by decide +kernel
theorem isn_d142 : decode prog_142_method_12_code 142 = .ok (.iload_n 0, 1) := by decide +kernel
theorem isn_d143 : decode prog_142_method_12_code 143 = .ok (.sipush 12289, 3) := by decide +kernel
theorem isn_d146 : decode prog_142_method_12_code 146 = .ok (.if_icmp .lt 9, 3) := by decide +kernel
theorem isn_d149 : decode prog_142_method_12_code 149 = .ok (.iload_n 0, 1) := by decide +kernel
theorem isn_d150 : decode prog_142_method_12_code 150 = .ok (.ldc 177, 2) := by decide +kernel
theorem isn_d152 : decode prog_142_method_12_code 152 = .ok (.if_icmp .le 39, 3) := by decide +kernel
theorem isn_d155 : decode prog_142_method_12_code 155 = .ok (.iload_n 0, 1) := by decide +kernel
theorem isn_d156 : decode prog_142_method_12_code 156 = .ok (.ldc 197, 2) := by decide +kernel
theorem isn_d158 : decode prog_142_method_12_code 158 = .ok (.if_icmp .lt 9, 3) := by decide +kernel
theorem isn_d161 : decode prog_142_method_12_code 161 = .ok (.iload_n 0, 1) := by decide +kernel
theorem isn_d162 : decode prog_142_method_12_code 162 = .ok (.ldc 198, 2) := by decide +kernel
theorem isn_d164 : decode prog_142_method_12_code 164 = .ok (.if_icmp .le 27, 3) := by decide +kernel
theorem isn_d167 : decode prog_142_method_12_code 167 = .ok (.iload_n 0, 1) := by decide +kernel
theorem isn_d168 : decode prog_142_method_12_code 168 = .ok (.ldc 199, 2) := by decide +kernel
theorem isn_d170 : decode prog_142_method_12_code 170 = .ok (.if_icmp .lt 9, 3) := by decide +kernel
theorem isn_d173 : decode prog_142_method_12_code 173 = .ok (.iload_n 0, 1) := by decide +kernel
theorem isn_d174 : decode prog_142_method_12_code 174 = .ok (.ldc 179, 2) := by decide +kernel
theorem isn_d176 : decode prog_142_method_12_code 176 = .ok (.if_icmp .le 15, 3) := by decide +kernel
theorem isn_d179 : decode prog_142_method_12_code 179 = .ok (.iload_n 0, 1) := by decide +kernel
theorem isn_d180 : decode prog_142_method_12_code 180 = .ok (.ldc 180, 2) := by decide +kernel
theorem isn_d182 : decode prog_142_method_12_code 182 = .ok (.if_icmp .lt 13, 3) := by decide +kernel
theorem isn_d185 : decode prog_142_method_12_code 185 = .ok (.iload_n 0, 1) := by decide +kernel
theorem isn_d186 : decode prog_142_method_12_code 186 = .ok (.ldc 200, 2) := by decide +kernel
theorem isn_d188 : decode prog_142_method_12_code 188 = .ok (.if_icmp .gt 7, 3) := by decide +kernel
theorem isn_d191 : decode prog_142_method_12_code 191 = .ok (.iconst 1, 1) := by decide +kernel
theorem isn_d192 : decode prog_142_method_12_code 192 = .ok (.goto 4, 3) := by decide +kernel
theorem isn_d195 : decode prog_142_method_12_code 195 = .ok (.iconst 0, 1) := by decide +kernel
theorem isn_d196 : decode prog_142_method_12_code 196 = .ok (.ireturn, 1) := by decide +kernel
def isn_f196 (t0 : Int32) : Int32 := (nar .boolean t0)
theorem isn_b196 {p : Program} {l : Launch} {e : Env} {s : State} {m : MethodId} {args : Array Value} {below : List Frame} {meth : Method} {c : Code} {T : State} {Z : State} {a0 : Array Value} {h : Heap} {locs : List Loc} {cells slots : Nat} (X : Stand p l e (⟨0, 0, 0, 0⟩ : Room) s m args below meth c T locs cells slots) (hc : cells ≤ ((⟨0, 0, 0, 0⟩ : Room)).cells) (hs : slots ≤ ((⟨0, 0, 0, 0⟩ : Room)).slots) (B : Bdy p s m meth c Z a0 "com/example/unseen_nodes/unseennodes/XmlText" "isNameStart" prog_142_method_12_code 1 (some .boolean) tables_1) (eT : T.heap = h) (i0 : Int32) (t0 : Int32)  :
    Go p e below s cells slots (PQ (some (.int (isn_f196 t0))) h locs) (T.setTop (mkF m 196 #[.val (.int i0)] [(.int t0)])) := by
  exact g_retN X B (t := .boolean) rfl (by simp) isn_d196 (Nat.le_refl _) (Nat.le_refl _) ⟨congrArg (fun z => some (Value.int z)) (Eq.symm (by rw [isn_f196])), eT, rfl⟩
def isn_f195  : Int32 := (isn_f196 (0 : Int32))
theorem isn_b195 {p : Program} {l : Launch} {e : Env} {s : State} {m : MethodId} {args : Array Value} {below : List Frame} {meth : Method} {c : Code} {T : State} {Z : State} {a0 : Array Value} {h : Heap} {locs : List Loc} {cells slots : Nat} (X : Stand p l e (⟨0, 0, 0, 0⟩ : Room) s m args below meth c T locs cells slots) (hc : cells ≤ ((⟨0, 0, 0, 0⟩ : Room)).cells) (hs : slots ≤ ((⟨0, 0, 0, 0⟩ : Room)).slots) (B : Bdy p s m meth c Z a0 "com/example/unseen_nodes/unseennodes/XmlText" "isNameStart" prog_142_method_12_code 1 (some .boolean) tables_1) (eT : T.heap = h) (i0 : Int32)  :
    Go p e below s cells slots (PQ (some (.int isn_f195)) h locs) (T.setTop (mkF m 195 #[.val (.int i0)] [])) := by
  refine g_iconst X B isn_d195 (pc' := 196) rfl (v := (0 : Int32)) (by decide) ?_
  exact Go.cw (congrArg (fun z => some (Value.int z)) (Eq.symm (by rw [isn_f195]))) (isn_b196 X hc hs B eT i0 (0 : Int32))
def isn_f191  : Int32 := (isn_f196 (1 : Int32))
theorem isn_b191 {p : Program} {l : Launch} {e : Env} {s : State} {m : MethodId} {args : Array Value} {below : List Frame} {meth : Method} {c : Code} {T : State} {Z : State} {a0 : Array Value} {h : Heap} {locs : List Loc} {cells slots : Nat} (X : Stand p l e (⟨0, 0, 0, 0⟩ : Room) s m args below meth c T locs cells slots) (hc : cells ≤ ((⟨0, 0, 0, 0⟩ : Room)).cells) (hs : slots ≤ ((⟨0, 0, 0, 0⟩ : Room)).slots) (B : Bdy p s m meth c Z a0 "com/example/unseen_nodes/unseennodes/XmlText" "isNameStart" prog_142_method_12_code 1 (some .boolean) tables_1) (eT : T.heap = h) (i0 : Int32)  :
    Go p e below s cells slots (PQ (some (.int isn_f191)) h locs) (T.setTop (mkF m 191 #[.val (.int i0)] [])) := by
  refine g_iconst X B isn_d191 (pc' := 192) rfl (v := (1 : Int32)) (by decide) ?_
  refine g_goto X B isn_d192 (pc' := 196) (by decide) rfl ?_
  exact Go.cw (congrArg (fun z => some (Value.int z)) (Eq.symm (by rw [isn_f191]))) (isn_b196 X hc hs B eT i0 (1 : Int32))
def isn_f179 (i0 : Int32) : Int32 := (if i0 < (65536 : Int32) then isn_f195 else (if (983039 : Int32) < i0 then isn_f195 else isn_f191))
theorem isn_b179 {p : Program} {l : Launch} {e : Env} {s : State} {m : MethodId} {args : Array Value} {below : List Frame} {meth : Method} {c : Code} {T : State} {Z : State} {a0 : Array Value} {h : Heap} {locs : List Loc} {cells slots : Nat} (X : Stand p l e (⟨0, 0, 0, 0⟩ : Room) s m args below meth c T locs cells slots) (hc : cells ≤ ((⟨0, 0, 0, 0⟩ : Room)).cells) (hs : slots ≤ ((⟨0, 0, 0, 0⟩ : Room)).slots) (B : Bdy p s m meth c Z a0 "com/example/unseen_nodes/unseennodes/XmlText" "isNameStart" prog_142_method_12_code 1 (some .boolean) tables_1) (eT : T.heap = h) (i0 : Int32)  :
    Go p e below s cells slots (PQ (some (.int (isn_f179 i0))) h locs) (T.setTop (mkF m 179 #[.val (.int i0)] [])) := by
  refine g_iloadN X B isn_d179 (pc' := 180) rfl (v := i0) rfl ?_
  refine g_ldc X B (B.w 19 rfl) isn_d180 (pc' := 182) rfl ?_
  refine g_icmp_lt X B isn_d182 (pcT := 195) (pcF := 185) (by decide) rfl rfl (fun c182_0 => ?_) (fun c182_0 => ?_)
  · exact Go.cw (congrArg (fun z => some (Value.int z)) (Eq.symm (by rw [isn_f179, if_pos c182_0]))) (isn_b195 X hc hs B eT i0)
  · refine g_iloadN X B isn_d185 (pc' := 186) rfl (v := i0) rfl ?_
    refine g_ldc X B (B.w 31 rfl) isn_d186 (pc' := 188) rfl ?_
    refine g_icmp_gt X B isn_d188 (pcT := 195) (pcF := 191) (by decide) rfl rfl (fun c188_1 => ?_) (fun c188_1 => ?_)
    · exact Go.cw (congrArg (fun z => some (Value.int z)) (Eq.symm (by rw [isn_f179, if_neg c182_0, if_pos c188_1]))) (isn_b195 X hc hs B eT i0)
    · exact Go.cw (congrArg (fun z => some (Value.int z)) (Eq.symm (by rw [isn_f179, if_neg c182_0, if_neg c188_1]))) (isn_b191 X hc hs B eT i0)
def isn_f167 (i0 : Int32) : Int32 := (if i0 < (65008 : Int32) then (isn_f179 i0) else (if (65533 : Int32) < i0 then (isn_f179 i0) else isn_f191))
theorem isn_b167 {p : Program} {l : Launch} {e : Env} {s : State} {m : MethodId} {args : Array Value} {below : List Frame} {meth : Method} {c : Code} {T : State} {Z : State} {a0 : Array Value} {h : Heap} {locs : List Loc} {cells slots : Nat} (X : Stand p l e (⟨0, 0, 0, 0⟩ : Room) s m args below meth c T locs cells slots) (hc : cells ≤ ((⟨0, 0, 0, 0⟩ : Room)).cells) (hs : slots ≤ ((⟨0, 0, 0, 0⟩ : Room)).slots) (B : Bdy p s m meth c Z a0 "com/example/unseen_nodes/unseennodes/XmlText" "isNameStart" prog_142_method_12_code 1 (some .boolean) tables_1) (eT : T.heap = h) (i0 : Int32)  :
    Go p e below s cells slots (PQ (some (.int (isn_f167 i0))) h locs) (T.setTop (mkF m 167 #[.val (.int i0)] [])) := by
  refine g_iloadN X B isn_d167 (pc' := 168) rfl (v := i0) rfl ?_
  refine g_ldc X B (B.w 18 rfl) isn_d168 (pc' := 170) rfl ?_
  refine g_icmp_lt X B isn_d170 (pcT := 179) (pcF := 173) (by decide) rfl rfl (fun c170_0 => ?_) (fun c170_0 => ?_)
  · exact Go.cw (congrArg (fun z => some (Value.int z)) (Eq.symm (by rw [isn_f167, if_pos c170_0]))) (isn_b179 X hc hs B eT i0)
  · refine g_iloadN X B isn_d173 (pc' := 174) rfl (v := i0) rfl ?_
    refine g_ldc X B (B.w 30 rfl) isn_d174 (pc' := 176) rfl ?_
    refine g_icmp_le X B isn_d176 (pcT := 191) (pcF := 179) (by decide) rfl rfl (fun c176_1 => ?_) (fun c176_1 => ?_)
    · exact Go.cw (congrArg (fun z => some (Value.int z)) (Eq.symm (by rw [isn_f167, if_neg c170_0, if_pos c176_1]))) (isn_b179 X hc hs B eT i0)
    · exact Go.cw (congrArg (fun z => some (Value.int z)) (Eq.symm (by rw [isn_f167, if_neg c170_0, if_neg c176_1]))) (isn_b191 X hc hs B eT i0)
def isn_f155 (i0 : Int32) : Int32 := (if i0 < (63744 : Int32) then (isn_f167 i0) else (if (64975 : Int32) < i0 then (isn_f167 i0) else isn_f191))
theorem isn_b155 {p : Program} {l : Launch} {e : Env} {s : State} {m : MethodId} {args : Array Value} {below : List Frame} {meth : Method} {c : Code} {T : State} {Z : State} {a0 : Array Value} {h : Heap} {locs : List Loc} {cells slots : Nat} (X : Stand p l e (⟨0, 0, 0, 0⟩ : Room) s m args below meth c T locs cells slots) (hc : cells ≤ ((⟨0, 0, 0, 0⟩ : Room)).cells) (hs : slots ≤ ((⟨0, 0, 0, 0⟩ : Room)).slots) (B : Bdy p s m meth c Z a0 "com/example/unseen_nodes/unseennodes/XmlText" "isNameStart" prog_142_method_12_code 1 (some .boolean) tables_1) (eT : T.heap = h) (i0 : Int32)  :
    Go p e below s cells slots (PQ (some (.int (isn_f155 i0))) h locs) (T.setTop (mkF m 155 #[.val (.int i0)] [])) := by
  refine g_iloadN X B isn_d155 (pc' := 156) rfl (v := i0) rfl ?_
  refine g_ldc X B (B.w 17 rfl) isn_d156 (pc' := 158) rfl ?_
  refine g_icmp_lt X B isn_d158 (pcT := 167) (pcF := 161) (by decide) rfl rfl (fun c158_0 => ?_) (fun c158_0 => ?_)
  · exact Go.cw (congrArg (fun z => some (Value.int z)) (Eq.symm (by rw [isn_f155, if_pos c158_0]))) (isn_b167 X hc hs B eT i0)
  · refine g_iloadN X B isn_d161 (pc' := 162) rfl (v := i0) rfl ?_
    refine g_ldc X B (B.w 29 rfl) isn_d162 (pc' := 164) rfl ?_
    refine g_icmp_le X B isn_d164 (pcT := 191) (pcF := 167) (by decide) rfl rfl (fun c164_1 => ?_) (fun c164_1 => ?_)
    · exact Go.cw (congrArg (fun z => some (Value.int z)) (Eq.symm (by rw [isn_f155, if_neg c158_0, if_pos c164_1]))) (isn_b167 X hc hs B eT i0)
    · exact Go.cw (congrArg (fun z => some (Value.int z)) (Eq.symm (by rw [isn_f155, if_neg c158_0, if_neg c164_1]))) (isn_b191 X hc hs B eT i0)
def isn_f142 (i0 : Int32) : Int32 := (if i0 < (12289 : Int32) then (isn_f155 i0) else (if (55295 : Int32) < i0 then (isn_f155 i0) else isn_f191))
theorem isn_b142 {p : Program} {l : Launch} {e : Env} {s : State} {m : MethodId} {args : Array Value} {below : List Frame} {meth : Method} {c : Code} {T : State} {Z : State} {a0 : Array Value} {h : Heap} {locs : List Loc} {cells slots : Nat} (X : Stand p l e (⟨0, 0, 0, 0⟩ : Room) s m args below meth c T locs cells slots) (hc : cells ≤ ((⟨0, 0, 0, 0⟩ : Room)).cells) (hs : slots ≤ ((⟨0, 0, 0, 0⟩ : Room)).slots) (B : Bdy p s m meth c Z a0 "com/example/unseen_nodes/unseennodes/XmlText" "isNameStart" prog_142_method_12_code 1 (some .boolean) tables_1) (eT : T.heap = h) (i0 : Int32)  :
    Go p e below s cells slots (PQ (some (.int (isn_f142 i0))) h locs) (T.setTop (mkF m 142 #[.val (.int i0)] [])) := by
  refine g_iloadN X B isn_d142 (pc' := 143) rfl (v := i0) rfl ?_
  refine g_sipush X B isn_d143 (pc' := 146) rfl (v := (12289 : Int32)) (by decide) ?_
  refine g_icmp_lt X B isn_d146 (pcT := 155) (pcF := 149) (by decide) rfl rfl (fun c146_0 => ?_) (fun c146_0 => ?_)
  · exact Go.cw (congrArg (fun z => some (Value.int z)) (Eq.symm (by rw [isn_f142, if_pos c146_0]))) (isn_b155 X hc hs B eT i0)
  · refine g_iloadN X B isn_d149 (pc' := 150) rfl (v := i0) rfl ?_
    refine g_ldc X B (B.w 28 rfl) isn_d150 (pc' := 152) rfl ?_
    refine g_icmp_le X B isn_d152 (pcT := 191) (pcF := 155) (by decide) rfl rfl (fun c152_1 => ?_) (fun c152_1 => ?_)
    · exact Go.cw (congrArg (fun z => some (Value.int z)) (Eq.symm (by rw [isn_f142, if_neg c146_0, if_pos c152_1]))) (isn_b155 X hc hs B eT i0)
    · exact Go.cw (congrArg (fun z => some (Value.int z)) (Eq.symm (by rw [isn_f142, if_neg c146_0, if_neg c152_1]))) (isn_b191 X hc hs B eT i0)
def isn_f128 (i0 : Int32) : Int32 := (if i0 < (11264 : Int32) then (isn_f142 i0) else (if (12271 : Int32) < i0 then (isn_f142 i0) else isn_f191))
theorem isn_b128 {p : Program} {l : Launch} {e : Env} {s : State} {m : MethodId} {args : Array Value} {below : List Frame} {meth : Method} {c : Code} {T : State} {Z : State} {a0 : Array Value} {h : Heap} {locs : List Loc} {cells slots : Nat} (X : Stand p l e (⟨0, 0, 0, 0⟩ : Room) s m args below meth c T locs cells slots) (hc : cells ≤ ((⟨0, 0, 0, 0⟩ : Room)).cells) (hs : slots ≤ ((⟨0, 0, 0, 0⟩ : Room)).slots) (B : Bdy p s m meth c Z a0 "com/example/unseen_nodes/unseennodes/XmlText" "isNameStart" prog_142_method_12_code 1 (some .boolean) tables_1) (eT : T.heap = h) (i0 : Int32)  :
    Go p e below s cells slots (PQ (some (.int (isn_f128 i0))) h locs) (T.setTop (mkF m 128 #[.val (.int i0)] [])) := by
  refine g_iloadN X B isn_d128 (pc' := 129) rfl (v := i0) rfl ?_
  refine g_sipush X B isn_d129 (pc' := 132) rfl (v := (11264 : Int32)) (by decide) ?_
  refine g_icmp_lt X B isn_d132 (pcT := 142) (pcF := 135) (by decide) rfl rfl (fun c132_0 => ?_) (fun c132_0 => ?_)
  · exact Go.cw (congrArg (fun z => some (Value.int z)) (Eq.symm (by rw [isn_f128, if_pos c132_0]))) (isn_b142 X hc hs B eT i0)
  · refine g_iloadN X B isn_d135 (pc' := 136) rfl (v := i0) rfl ?_
    refine g_sipush X B isn_d136 (pc' := 139) rfl (v := (12271 : Int32)) (by decide) ?_
    refine g_icmp_le X B isn_d139 (pcT := 191) (pcF := 142) (by decide) rfl rfl (fun c139_1 => ?_) (fun c139_1 => ?_)
    · exact Go.cw (congrArg (fun z => some (Value.int z)) (Eq.symm (by rw [isn_f128, if_neg c132_0, if_pos c139_1]))) (isn_b142 X hc hs B eT i0)
    · exact Go.cw (congrArg (fun z => some (Value.int z)) (Eq.symm (by rw [isn_f128, if_neg c132_0, if_neg c139_1]))) (isn_b191 X hc hs B eT i0)
def isn_f114 (i0 : Int32) : Int32 := (if i0 < (8304 : Int32) then (isn_f128 i0) else (if (8591 : Int32) < i0 then (isn_f128 i0) else isn_f191))
theorem isn_b114 {p : Program} {l : Launch} {e : Env} {s : State} {m : MethodId} {args : Array Value} {below : List Frame} {meth : Method} {c : Code} {T : State} {Z : State} {a0 : Array Value} {h : Heap} {locs : List Loc} {cells slots : Nat} (X : Stand p l e (⟨0, 0, 0, 0⟩ : Room) s m args below meth c T locs cells slots) (hc : cells ≤ ((⟨0, 0, 0, 0⟩ : Room)).cells) (hs : slots ≤ ((⟨0, 0, 0, 0⟩ : Room)).slots) (B : Bdy p s m meth c Z a0 "com/example/unseen_nodes/unseennodes/XmlText" "isNameStart" prog_142_method_12_code 1 (some .boolean) tables_1) (eT : T.heap = h) (i0 : Int32)  :
    Go p e below s cells slots (PQ (some (.int (isn_f114 i0))) h locs) (T.setTop (mkF m 114 #[.val (.int i0)] [])) := by
  refine g_iloadN X B isn_d114 (pc' := 115) rfl (v := i0) rfl ?_
  refine g_sipush X B isn_d115 (pc' := 118) rfl (v := (8304 : Int32)) (by decide) ?_
  refine g_icmp_lt X B isn_d118 (pcT := 128) (pcF := 121) (by decide) rfl rfl (fun c118_0 => ?_) (fun c118_0 => ?_)
  · exact Go.cw (congrArg (fun z => some (Value.int z)) (Eq.symm (by rw [isn_f114, if_pos c118_0]))) (isn_b128 X hc hs B eT i0)
  · refine g_iloadN X B isn_d121 (pc' := 122) rfl (v := i0) rfl ?_
    refine g_sipush X B isn_d122 (pc' := 125) rfl (v := (8591 : Int32)) (by decide) ?_
    refine g_icmp_le X B isn_d125 (pcT := 191) (pcF := 128) (by decide) rfl rfl (fun c125_1 => ?_) (fun c125_1 => ?_)
    · exact Go.cw (congrArg (fun z => some (Value.int z)) (Eq.symm (by rw [isn_f114, if_neg c118_0, if_pos c125_1]))) (isn_b128 X hc hs B eT i0)
    · exact Go.cw (congrArg (fun z => some (Value.int z)) (Eq.symm (by rw [isn_f114, if_neg c118_0, if_neg c125_1]))) (isn_b191 X hc hs B eT i0)
def isn_f100 (i0 : Int32) : Int32 := (if i0 < (8204 : Int32) then (isn_f114 i0) else (if (8205 : Int32) < i0 then (isn_f114 i0) else isn_f191))
theorem isn_b100 {p : Program} {l : Launch} {e : Env} {s : State} {m : MethodId} {args : Array Value} {below : List Frame} {meth : Method} {c : Code} {T : State} {Z : State} {a0 : Array Value} {h : Heap} {locs : List Loc} {cells slots : Nat} (X : Stand p l e (⟨0, 0, 0, 0⟩ : Room) s m args below meth c T locs cells slots) (hc : cells ≤ ((⟨0, 0, 0, 0⟩ : Room)).cells) (hs : slots ≤ ((⟨0, 0, 0, 0⟩ : Room)).slots) (B : Bdy p s m meth c Z a0 "com/example/unseen_nodes/unseennodes/XmlText" "isNameStart" prog_142_method_12_code 1 (some .boolean) tables_1) (eT : T.heap = h) (i0 : Int32)  :
    Go p e below s cells slots (PQ (some (.int (isn_f100 i0))) h locs) (T.setTop (mkF m 100 #[.val (.int i0)] [])) := by
  refine g_iloadN X B isn_d100 (pc' := 101) rfl (v := i0) rfl ?_
  refine g_sipush X B isn_d101 (pc' := 104) rfl (v := (8204 : Int32)) (by decide) ?_
  refine g_icmp_lt X B isn_d104 (pcT := 114) (pcF := 107) (by decide) rfl rfl (fun c104_0 => ?_) (fun c104_0 => ?_)
  · exact Go.cw (congrArg (fun z => some (Value.int z)) (Eq.symm (by rw [isn_f100, if_pos c104_0]))) (isn_b114 X hc hs B eT i0)
  · refine g_iloadN X B isn_d107 (pc' := 108) rfl (v := i0) rfl ?_
    refine g_sipush X B isn_d108 (pc' := 111) rfl (v := (8205 : Int32)) (by decide) ?_
    refine g_icmp_le X B isn_d111 (pcT := 191) (pcF := 114) (by decide) rfl rfl (fun c111_1 => ?_) (fun c111_1 => ?_)
    · exact Go.cw (congrArg (fun z => some (Value.int z)) (Eq.symm (by rw [isn_f100, if_neg c104_0, if_pos c111_1]))) (isn_b114 X hc hs B eT i0)
    · exact Go.cw (congrArg (fun z => some (Value.int z)) (Eq.symm (by rw [isn_f100, if_neg c104_0, if_neg c111_1]))) (isn_b191 X hc hs B eT i0)
def isn_f86 (i0 : Int32) : Int32 := (if i0 < (895 : Int32) then (isn_f100 i0) else (if (8191 : Int32) < i0 then (isn_f100 i0) else isn_f191))
theorem isn_b86 {p : Program} {l : Launch} {e : Env} {s : State} {m : MethodId} {args : Array Value} {below : List Frame} {meth : Method} {c : Code} {T : State} {Z : State} {a0 : Array Value} {h : Heap} {locs : List Loc} {cells slots : Nat} (X : Stand p l e (⟨0, 0, 0, 0⟩ : Room) s m args below meth c T locs cells slots) (hc : cells ≤ ((⟨0, 0, 0, 0⟩ : Room)).cells) (hs : slots ≤ ((⟨0, 0, 0, 0⟩ : Room)).slots) (B : Bdy p s m meth c Z a0 "com/example/unseen_nodes/unseennodes/XmlText" "isNameStart" prog_142_method_12_code 1 (some .boolean) tables_1) (eT : T.heap = h) (i0 : Int32)  :
    Go p e below s cells slots (PQ (some (.int (isn_f86 i0))) h locs) (T.setTop (mkF m 86 #[.val (.int i0)] [])) := by
  refine g_iloadN X B isn_d86 (pc' := 87) rfl (v := i0) rfl ?_
  refine g_sipush X B isn_d87 (pc' := 90) rfl (v := (895 : Int32)) (by decide) ?_
  refine g_icmp_lt X B isn_d90 (pcT := 100) (pcF := 93) (by decide) rfl rfl (fun c90_0 => ?_) (fun c90_0 => ?_)
  · exact Go.cw (congrArg (fun z => some (Value.int z)) (Eq.symm (by rw [isn_f86, if_pos c90_0]))) (isn_b100 X hc hs B eT i0)
  · refine g_iloadN X B isn_d93 (pc' := 94) rfl (v := i0) rfl ?_
    refine g_sipush X B isn_d94 (pc' := 97) rfl (v := (8191 : Int32)) (by decide) ?_
    refine g_icmp_le X B isn_d97 (pcT := 191) (pcF := 100) (by decide) rfl rfl (fun c97_1 => ?_) (fun c97_1 => ?_)
    · exact Go.cw (congrArg (fun z => some (Value.int z)) (Eq.symm (by rw [isn_f86, if_neg c90_0, if_pos c97_1]))) (isn_b100 X hc hs B eT i0)
    · exact Go.cw (congrArg (fun z => some (Value.int z)) (Eq.symm (by rw [isn_f86, if_neg c90_0, if_neg c97_1]))) (isn_b191 X hc hs B eT i0)
def isn_f72 (i0 : Int32) : Int32 := (if i0 < (880 : Int32) then (isn_f86 i0) else (if (893 : Int32) < i0 then (isn_f86 i0) else isn_f191))
theorem isn_b72 {p : Program} {l : Launch} {e : Env} {s : State} {m : MethodId} {args : Array Value} {below : List Frame} {meth : Method} {c : Code} {T : State} {Z : State} {a0 : Array Value} {h : Heap} {locs : List Loc} {cells slots : Nat} (X : Stand p l e (⟨0, 0, 0, 0⟩ : Room) s m args below meth c T locs cells slots) (hc : cells ≤ ((⟨0, 0, 0, 0⟩ : Room)).cells) (hs : slots ≤ ((⟨0, 0, 0, 0⟩ : Room)).slots) (B : Bdy p s m meth c Z a0 "com/example/unseen_nodes/unseennodes/XmlText" "isNameStart" prog_142_method_12_code 1 (some .boolean) tables_1) (eT : T.heap = h) (i0 : Int32)  :
    Go p e below s cells slots (PQ (some (.int (isn_f72 i0))) h locs) (T.setTop (mkF m 72 #[.val (.int i0)] [])) := by
  refine g_iloadN X B isn_d72 (pc' := 73) rfl (v := i0) rfl ?_
  refine g_sipush X B isn_d73 (pc' := 76) rfl (v := (880 : Int32)) (by decide) ?_
  refine g_icmp_lt X B isn_d76 (pcT := 86) (pcF := 79) (by decide) rfl rfl (fun c76_0 => ?_) (fun c76_0 => ?_)
  · exact Go.cw (congrArg (fun z => some (Value.int z)) (Eq.symm (by rw [isn_f72, if_pos c76_0]))) (isn_b86 X hc hs B eT i0)
  · refine g_iloadN X B isn_d79 (pc' := 80) rfl (v := i0) rfl ?_
    refine g_sipush X B isn_d80 (pc' := 83) rfl (v := (893 : Int32)) (by decide) ?_
    refine g_icmp_le X B isn_d83 (pcT := 191) (pcF := 86) (by decide) rfl rfl (fun c83_1 => ?_) (fun c83_1 => ?_)
    · exact Go.cw (congrArg (fun z => some (Value.int z)) (Eq.symm (by rw [isn_f72, if_neg c76_0, if_pos c83_1]))) (isn_b86 X hc hs B eT i0)
    · exact Go.cw (congrArg (fun z => some (Value.int z)) (Eq.symm (by rw [isn_f72, if_neg c76_0, if_neg c83_1]))) (isn_b191 X hc hs B eT i0)
def isn_f58 (i0 : Int32) : Int32 := (if i0 < (248 : Int32) then (isn_f72 i0) else (if (767 : Int32) < i0 then (isn_f72 i0) else isn_f191))
theorem isn_b58 {p : Program} {l : Launch} {e : Env} {s : State} {m : MethodId} {args : Array Value} {below : List Frame} {meth : Method} {c : Code} {T : State} {Z : State} {a0 : Array Value} {h : Heap} {locs : List Loc} {cells slots : Nat} (X : Stand p l e (⟨0, 0, 0, 0⟩ : Room) s m args below meth c T locs cells slots) (hc : cells ≤ ((⟨0, 0, 0, 0⟩ : Room)).cells) (hs : slots ≤ ((⟨0, 0, 0, 0⟩ : Room)).slots) (B : Bdy p s m meth c Z a0 "com/example/unseen_nodes/unseennodes/XmlText" "isNameStart" prog_142_method_12_code 1 (some .boolean) tables_1) (eT : T.heap = h) (i0 : Int32)  :
    Go p e below s cells slots (PQ (some (.int (isn_f58 i0))) h locs) (T.setTop (mkF m 58 #[.val (.int i0)] [])) := by
  refine g_iloadN X B isn_d58 (pc' := 59) rfl (v := i0) rfl ?_
  refine g_sipush X B isn_d59 (pc' := 62) rfl (v := (248 : Int32)) (by decide) ?_
  refine g_icmp_lt X B isn_d62 (pcT := 72) (pcF := 65) (by decide) rfl rfl (fun c62_0 => ?_) (fun c62_0 => ?_)
  · exact Go.cw (congrArg (fun z => some (Value.int z)) (Eq.symm (by rw [isn_f58, if_pos c62_0]))) (isn_b72 X hc hs B eT i0)
  · refine g_iloadN X B isn_d65 (pc' := 66) rfl (v := i0) rfl ?_
    refine g_sipush X B isn_d66 (pc' := 69) rfl (v := (767 : Int32)) (by decide) ?_
    refine g_icmp_le X B isn_d69 (pcT := 191) (pcF := 72) (by decide) rfl rfl (fun c69_1 => ?_) (fun c69_1 => ?_)
    · exact Go.cw (congrArg (fun z => some (Value.int z)) (Eq.symm (by rw [isn_f58, if_neg c62_0, if_pos c69_1]))) (isn_b72 X hc hs B eT i0)
    · exact Go.cw (congrArg (fun z => some (Value.int z)) (Eq.symm (by rw [isn_f58, if_neg c62_0, if_neg c69_1]))) (isn_b191 X hc hs B eT i0)
def isn_f44 (i0 : Int32) : Int32 := (if i0 < (216 : Int32) then (isn_f58 i0) else (if (246 : Int32) < i0 then (isn_f58 i0) else isn_f191))
theorem isn_b44 {p : Program} {l : Launch} {e : Env} {s : State} {m : MethodId} {args : Array Value} {below : List Frame} {meth : Method} {c : Code} {T : State} {Z : State} {a0 : Array Value} {h : Heap} {locs : List Loc} {cells slots : Nat} (X : Stand p l e (⟨0, 0, 0, 0⟩ : Room) s m args below meth c T locs cells slots) (hc : cells ≤ ((⟨0, 0, 0, 0⟩ : Room)).cells) (hs : slots ≤ ((⟨0, 0, 0, 0⟩ : Room)).slots) (B : Bdy p s m meth c Z a0 "com/example/unseen_nodes/unseennodes/XmlText" "isNameStart" prog_142_method_12_code 1 (some .boolean) tables_1) (eT : T.heap = h) (i0 : Int32)  :
    Go p e below s cells slots (PQ (some (.int (isn_f44 i0))) h locs) (T.setTop (mkF m 44 #[.val (.int i0)] [])) := by
  refine g_iloadN X B isn_d44 (pc' := 45) rfl (v := i0) rfl ?_
  refine g_sipush X B isn_d45 (pc' := 48) rfl (v := (216 : Int32)) (by decide) ?_
  refine g_icmp_lt X B isn_d48 (pcT := 58) (pcF := 51) (by decide) rfl rfl (fun c48_0 => ?_) (fun c48_0 => ?_)
  · exact Go.cw (congrArg (fun z => some (Value.int z)) (Eq.symm (by rw [isn_f44, if_pos c48_0]))) (isn_b58 X hc hs B eT i0)
  · refine g_iloadN X B isn_d51 (pc' := 52) rfl (v := i0) rfl ?_
    refine g_sipush X B isn_d52 (pc' := 55) rfl (v := (246 : Int32)) (by decide) ?_
    refine g_icmp_le X B isn_d55 (pcT := 191) (pcF := 58) (by decide) rfl rfl (fun c55_1 => ?_) (fun c55_1 => ?_)
    · exact Go.cw (congrArg (fun z => some (Value.int z)) (Eq.symm (by rw [isn_f44, if_neg c48_0, if_pos c55_1]))) (isn_b58 X hc hs B eT i0)
    · exact Go.cw (congrArg (fun z => some (Value.int z)) (Eq.symm (by rw [isn_f44, if_neg c48_0, if_neg c55_1]))) (isn_b191 X hc hs B eT i0)
def isn_f24 (i0 : Int32) : Int32 := (if i0 = (95 : Int32) then isn_f191 else (if i0 < (192 : Int32) then (isn_f44 i0) else (if (214 : Int32) < i0 then (isn_f44 i0) else isn_f191)))
theorem isn_b24 {p : Program} {l : Launch} {e : Env} {s : State} {m : MethodId} {args : Array Value} {below : List Frame} {meth : Method} {c : Code} {T : State} {Z : State} {a0 : Array Value} {h : Heap} {locs : List Loc} {cells slots : Nat} (X : Stand p l e (⟨0, 0, 0, 0⟩ : Room) s m args below meth c T locs cells slots) (hc : cells ≤ ((⟨0, 0, 0, 0⟩ : Room)).cells) (hs : slots ≤ ((⟨0, 0, 0, 0⟩ : Room)).slots) (B : Bdy p s m meth c Z a0 "com/example/unseen_nodes/unseennodes/XmlText" "isNameStart" prog_142_method_12_code 1 (some .boolean) tables_1) (eT : T.heap = h) (i0 : Int32)  :
    Go p e below s cells slots (PQ (some (.int (isn_f24 i0))) h locs) (T.setTop (mkF m 24 #[.val (.int i0)] [])) := by
  refine g_iloadN X B isn_d24 (pc' := 25) rfl (v := i0) rfl ?_
  refine g_bipush X B isn_d25 (pc' := 27) rfl (v := (95 : Int32)) (by decide) ?_
  refine g_icmp_eq X B isn_d27 (pcT := 191) (pcF := 30) (by decide) rfl rfl (fun c27_0 => ?_) (fun c27_0 => ?_)
  · exact Go.cw (congrArg (fun z => some (Value.int z)) (Eq.symm (by rw [isn_f24, if_pos c27_0]))) (isn_b191 X hc hs B eT i0)
  · refine g_iloadN X B isn_d30 (pc' := 31) rfl (v := i0) rfl ?_
    refine g_sipush X B isn_d31 (pc' := 34) rfl (v := (192 : Int32)) (by decide) ?_
    refine g_icmp_lt X B isn_d34 (pcT := 44) (pcF := 37) (by decide) rfl rfl (fun c34_1 => ?_) (fun c34_1 => ?_)
    · exact Go.cw (congrArg (fun z => some (Value.int z)) (Eq.symm (by rw [isn_f24, if_neg c27_0, if_pos c34_1]))) (isn_b44 X hc hs B eT i0)
    · refine g_iloadN X B isn_d37 (pc' := 38) rfl (v := i0) rfl ?_
      refine g_sipush X B isn_d38 (pc' := 41) rfl (v := (214 : Int32)) (by decide) ?_
      refine g_icmp_le X B isn_d41 (pcT := 191) (pcF := 44) (by decide) rfl rfl (fun c41_2 => ?_) (fun c41_2 => ?_)
      · exact Go.cw (congrArg (fun z => some (Value.int z)) (Eq.symm (by rw [isn_f24, if_neg c27_0, if_neg c34_1, if_pos c41_2]))) (isn_b44 X hc hs B eT i0)
      · exact Go.cw (congrArg (fun z => some (Value.int z)) (Eq.symm (by rw [isn_f24, if_neg c27_0, if_neg c34_1, if_neg c41_2]))) (isn_b191 X hc hs B eT i0)
def isn_f12 (i0 : Int32) : Int32 := (if i0 < (97 : Int32) then (isn_f24 i0) else (if (122 : Int32) < i0 then (isn_f24 i0) else isn_f191))
theorem isn_b12 {p : Program} {l : Launch} {e : Env} {s : State} {m : MethodId} {args : Array Value} {below : List Frame} {meth : Method} {c : Code} {T : State} {Z : State} {a0 : Array Value} {h : Heap} {locs : List Loc} {cells slots : Nat} (X : Stand p l e (⟨0, 0, 0, 0⟩ : Room) s m args below meth c T locs cells slots) (hc : cells ≤ ((⟨0, 0, 0, 0⟩ : Room)).cells) (hs : slots ≤ ((⟨0, 0, 0, 0⟩ : Room)).slots) (B : Bdy p s m meth c Z a0 "com/example/unseen_nodes/unseennodes/XmlText" "isNameStart" prog_142_method_12_code 1 (some .boolean) tables_1) (eT : T.heap = h) (i0 : Int32)  :
    Go p e below s cells slots (PQ (some (.int (isn_f12 i0))) h locs) (T.setTop (mkF m 12 #[.val (.int i0)] [])) := by
  refine g_iloadN X B isn_d12 (pc' := 13) rfl (v := i0) rfl ?_
  refine g_bipush X B isn_d13 (pc' := 15) rfl (v := (97 : Int32)) (by decide) ?_
  refine g_icmp_lt X B isn_d15 (pcT := 24) (pcF := 18) (by decide) rfl rfl (fun c15_0 => ?_) (fun c15_0 => ?_)
  · exact Go.cw (congrArg (fun z => some (Value.int z)) (Eq.symm (by rw [isn_f12, if_pos c15_0]))) (isn_b24 X hc hs B eT i0)
  · refine g_iloadN X B isn_d18 (pc' := 19) rfl (v := i0) rfl ?_
    refine g_bipush X B isn_d19 (pc' := 21) rfl (v := (122 : Int32)) (by decide) ?_
    refine g_icmp_le X B isn_d21 (pcT := 191) (pcF := 24) (by decide) rfl rfl (fun c21_1 => ?_) (fun c21_1 => ?_)
    · exact Go.cw (congrArg (fun z => some (Value.int z)) (Eq.symm (by rw [isn_f12, if_neg c15_0, if_pos c21_1]))) (isn_b24 X hc hs B eT i0)
    · exact Go.cw (congrArg (fun z => some (Value.int z)) (Eq.symm (by rw [isn_f12, if_neg c15_0, if_neg c21_1]))) (isn_b191 X hc hs B eT i0)
def isn_f0 (i0 : Int32) : Int32 := (if i0 < (65 : Int32) then (isn_f12 i0) else (if (90 : Int32) < i0 then (isn_f12 i0) else isn_f191))
theorem isn_b0 {p : Program} {l : Launch} {e : Env} {s : State} {m : MethodId} {args : Array Value} {below : List Frame} {meth : Method} {c : Code} {T : State} {Z : State} {a0 : Array Value} {h : Heap} {locs : List Loc} {cells slots : Nat} (X : Stand p l e (⟨0, 0, 0, 0⟩ : Room) s m args below meth c T locs cells slots) (hc : cells ≤ ((⟨0, 0, 0, 0⟩ : Room)).cells) (hs : slots ≤ ((⟨0, 0, 0, 0⟩ : Room)).slots) (B : Bdy p s m meth c Z a0 "com/example/unseen_nodes/unseennodes/XmlText" "isNameStart" prog_142_method_12_code 1 (some .boolean) tables_1) (eT : T.heap = h) (i0 : Int32)  :
    Go p e below s cells slots (PQ (some (.int (isn_f0 i0))) h locs) (T.setTop (mkF m 0 #[.val (.int i0)] [])) := by
  refine g_iloadN X B isn_d0 (pc' := 1) rfl (v := i0) rfl ?_
  refine g_bipush X B isn_d1 (pc' := 3) rfl (v := (65 : Int32)) (by decide) ?_
  refine g_icmp_lt X B isn_d3 (pcT := 12) (pcF := 6) (by decide) rfl rfl (fun c3_0 => ?_) (fun c3_0 => ?_)
  · exact Go.cw (congrArg (fun z => some (Value.int z)) (Eq.symm (by rw [isn_f0, if_pos c3_0]))) (isn_b12 X hc hs B eT i0)
  · refine g_iloadN X B isn_d6 (pc' := 7) rfl (v := i0) rfl ?_
    refine g_bipush X B isn_d7 (pc' := 9) rfl (v := (90 : Int32)) (by decide) ?_
    refine g_icmp_le X B isn_d9 (pcT := 191) (pcF := 12) (by decide) rfl rfl (fun c9_1 => ?_) (fun c9_1 => ?_)
    · exact Go.cw (congrArg (fun z => some (Value.int z)) (Eq.symm (by rw [isn_f0, if_neg c3_0, if_pos c9_1]))) (isn_b12 X hc hs B eT i0)
    · exact Go.cw (congrArg (fun z => some (Value.int z)) (Eq.symm (by rw [isn_f0, if_neg c3_0, if_neg c9_1]))) (isn_b191 X hc hs B eT i0)
theorem own_pn_isn : plainFor (⟨"com/example/unseen_nodes/unseennodes/XmlText", "isNameStart", "(I)Z"⟩ : MethodName) = true := plainFor_of_name (by first | (simp [plainName, overriddenIn]; done) | decide +kernel)
theorem own_ef_isn (m : MethodId) (i0 : Int32) : entryFrame m #[(.int i0)] 1 = (mkF m 0 #[.val (.int i0)] []) := by first | (simp [entryFrame, mkF, argsToLocals, Value.category]; done) | rfl
theorem isn_met (l : Launch) (Z : State) (a0 : Array Value) (hw : ∀ d ∈ tables_1, d.before a0 Z = true) (ws : List Jvm.Cond) (h : Heap) (i0 : Int32)  :
    Met l Z (⟨"com/example/unseen_nodes/unseennodes/XmlText", "isNameStart", "(I)Z"⟩ : MethodName) prog_142_method_12_code 1 (some .boolean) ws (⟨0, 0, 0, 0⟩ : Room) #[(.int i0)] h (PQ (some (.int (isn_f0 i0))) h []) :=
  met_of own_pn_isn hw fun p e s m below meth c T X B eT => Go.top (own_ef_isn m i0) (isn_b0 X (Nat.zero_le _) (Nat.zero_le _) B eT i0)
theorem ref_d0 : decode method_2_code 0 = .ok (.iload_n 0, 1) := by decide +kernel
theorem ref_d1 : decode method_2_code 1 = .ok (.ifCond .lt 9, 3) := by decide +kernel
theorem ref_d4 : decode method_2_code 4 = .ok (.iload_n 0, 1) := by decide +kernel
theorem ref_d5 : decode method_2_code 5 = .ok (.ldc 7, 2) := by decide +kernel
theorem ref_d7 : decode method_2_code 7 = .ok (.if_icmp .le 5, 3) := by decide +kernel
theorem ref_d10 : decode method_2_code 10 = .ok (.iconst 0, 1) := by decide +kernel
theorem ref_d11 : decode method_2_code 11 = .ok (.ireturn, 1) := by decide +kernel
theorem ref_d12 : decode method_2_code 12 = .ok (.iload_n 0, 1) := by decide +kernel
theorem ref_d13 : decode method_2_code 13 = .ok (.bipush 65, 2) := by decide +kernel
theorem ref_d15 : decode method_2_code 15 = .ok (.if_icmp .ge 5, 3) := by decide +kernel
theorem ref_d18 : decode method_2_code 18 = .ok (.iconst 0, 1) := by decide +kernel
theorem ref_d19 : decode method_2_code 19 = .ok (.ireturn, 1) := by decide +kernel
theorem ref_d20 : decode method_2_code 20 = .ok (.iload_n 0, 1) := by decide +kernel
theorem ref_d21 : decode method_2_code 21 = .ok (.bipush 91, 2) := by decide +kernel
theorem ref_d23 : decode method_2_code 23 = .ok (.if_icmp .lt 11, 3) := by decide +kernel
theorem ref_d26 : decode method_2_code 26 = .ok (.iload_n 0, 1) := by decide +kernel
theorem ref_d27 : decode method_2_code 27 = .ok (.bipush 94, 2) := by decide +kernel
theorem ref_d29 : decode method_2_code 29 = .ok (.if_icmp .gt 5, 3) := by decide +kernel
theorem ref_d32 : decode method_2_code 32 = .ok (.iconst 0, 1) := by decide +kernel
theorem ref_d33 : decode method_2_code 33 = .ok (.ireturn, 1) := by decide +kernel
theorem ref_d34 : decode method_2_code 34 = .ok (.iload_n 0, 1) := by decide +kernel
theorem ref_d35 : decode method_2_code 35 = .ok (.bipush 96, 2) := by decide +kernel
theorem ref_d37 : decode method_2_code 37 = .ok (.if_icmp .ne 5, 3) := by decide +kernel
theorem ref_d40 : decode method_2_code 40 = .ok (.iconst 0, 1) := by decide +kernel
theorem ref_d41 : decode method_2_code 41 = .ok (.ireturn, 1) := by decide +kernel
theorem ref_d42 : decode method_2_code 42 = .ok (.iload_n 0, 1) := by decide +kernel
theorem ref_d43 : decode method_2_code 43 = .ok (.bipush 123, 2) := by decide +kernel
theorem ref_d45 : decode method_2_code 45 = .ok (.if_icmp .lt 12, 3) := by decide +kernel
theorem ref_d48 : decode method_2_code 48 = .ok (.iload_n 0, 1) := by decide +kernel
theorem ref_d49 : decode method_2_code 49 = .ok (.sipush 191, 3) := by decide +kernel
theorem ref_d52 : decode method_2_code 52 = .ok (.if_icmp .gt 5, 3) := by decide +kernel
theorem ref_d55 : decode method_2_code 55 = .ok (.iconst 0, 1) := by decide +kernel
theorem ref_d56 : decode method_2_code 56 = .ok (.ireturn, 1) := by decide +kernel
theorem ref_d57 : decode method_2_code 57 = .ok (.iload_n 0, 1) := by decide +kernel
theorem ref_d58 : decode method_2_code 58 = .ok (.sipush 215, 3) := by decide +kernel
theorem ref_d61 : decode method_2_code 61 = .ok (.if_icmp .eq 10, 3) := by decide +kernel
theorem ref_d64 : decode method_2_code 64 = .ok (.iload_n 0, 1) := by decide +kernel
theorem ref_d65 : decode method_2_code 65 = .ok (.sipush 247, 3) := by decide +kernel
theorem ref_d68 : decode method_2_code 68 = .ok (.if_icmp .ne 5, 3) := by decide +kernel
theorem ref_d71 : decode method_2_code 71 = .ok (.iconst 0, 1) := by decide +kernel
theorem ref_d72 : decode method_2_code 72 = .ok (.ireturn, 1) := by decide +kernel
theorem ref_d73 : decode method_2_code 73 = .ok (.iload_n 0, 1) := by decide +kernel
theorem ref_d74 : decode method_2_code 74 = .ok (.sipush 768, 3) := by decide +kernel
theorem ref_d77 : decode method_2_code 77 = .ok (.if_icmp .lt 12, 3) := by decide +kernel
theorem ref_d80 : decode method_2_code 80 = .ok (.iload_n 0, 1) := by decide +kernel
theorem ref_d81 : decode method_2_code 81 = .ok (.sipush 879, 3) := by decide +kernel
theorem ref_d84 : decode method_2_code 84 = .ok (.if_icmp .gt 5, 3) := by decide +kernel
theorem ref_d87 : decode method_2_code 87 = .ok (.iconst 0, 1) := by decide +kernel
theorem ref_d88 : decode method_2_code 88 = .ok (.ireturn, 1) := by decide +kernel
theorem ref_d89 : decode method_2_code 89 = .ok (.iload_n 0, 1) := by decide +kernel
theorem ref_d90 : decode method_2_code 90 = .ok (.sipush 894, 3) := by decide +kernel
theorem ref_d93 : decode method_2_code 93 = .ok (.if_icmp .ne 5, 3) := by decide +kernel
theorem ref_d96 : decode method_2_code 96 = .ok (.iconst 0, 1) := by decide +kernel
theorem ref_d97 : decode method_2_code 97 = .ok (.ireturn, 1) := by decide +kernel
theorem ref_d98 : decode method_2_code 98 = .ok (.iload_n 0, 1) := by decide +kernel
theorem ref_d99 : decode method_2_code 99 = .ok (.sipush 8192, 3) := by decide +kernel
theorem ref_d102 : decode method_2_code 102 = .ok (.if_icmp .lt 12, 3) := by decide +kernel
theorem ref_d105 : decode method_2_code 105 = .ok (.iload_n 0, 1) := by decide +kernel
theorem ref_d106 : decode method_2_code 106 = .ok (.sipush 8203, 3) := by decide +kernel
theorem ref_d109 : decode method_2_code 109 = .ok (.if_icmp .gt 5, 3) := by decide +kernel
theorem ref_d112 : decode method_2_code 112 = .ok (.iconst 0, 1) := by decide +kernel
theorem ref_d113 : decode method_2_code 113 = .ok (.ireturn, 1) := by decide +kernel
theorem ref_d114 : decode method_2_code 114 = .ok (.iload_n 0, 1) := by decide +kernel
theorem ref_d115 : decode method_2_code 115 = .ok (.sipush 8206, 3) := by decide +kernel
theorem ref_d118 : decode method_2_code 118 = .ok (.if_icmp .lt 12, 3) := by decide +kernel
theorem ref_d121 : decode method_2_code 121 = .ok (.iload_n 0, 1) := by decide +kernel
theorem ref_d122 : decode method_2_code 122 = .ok (.sipush 8303, 3) := by decide +kernel
theorem ref_d125 : decode method_2_code 125 = .ok (.if_icmp .gt 5, 3) := by decide +kernel
theorem ref_d128 : decode method_2_code 128 = .ok (.iconst 0, 1) := by decide +kernel
theorem ref_d129 : decode method_2_code 129 = .ok (.ireturn, 1) := by decide +kernel
theorem ref_d130 : decode method_2_code 130 = .ok (.iload_n 0, 1) := by decide +kernel
theorem ref_d131 : decode method_2_code 131 = .ok (.sipush 8592, 3) := by decide +kernel
theorem ref_d134 : decode method_2_code 134 = .ok (.if_icmp .lt 12, 3) := by decide +kernel
theorem ref_d137 : decode method_2_code 137 = .ok (.iload_n 0, 1) := by decide +kernel
theorem ref_d138 : decode method_2_code 138 = .ok (.sipush 11263, 3) := by decide +kernel
theorem ref_d141 : decode method_2_code 141 = .ok (.if_icmp .gt 5, 3) := by decide +kernel
theorem ref_d144 : decode method_2_code 144 = .ok (.iconst 0, 1) := by decide +kernel
theorem ref_d145 : decode method_2_code 145 = .ok (.ireturn, 1) := by decide +kernel
theorem ref_d146 : decode method_2_code 146 = .ok (.iload_n 0, 1) := by decide +kernel
theorem ref_d147 : decode method_2_code 147 = .ok (.sipush 12272, 3) := by decide +kernel
theorem ref_d150 : decode method_2_code 150 = .ok (.if_icmp .lt 12, 3) := by decide +kernel
theorem ref_d153 : decode method_2_code 153 = .ok (.iload_n 0, 1) := by decide +kernel
theorem ref_d154 : decode method_2_code 154 = .ok (.sipush 12288, 3) := by decide +kernel
theorem ref_d157 : decode method_2_code 157 = .ok (.if_icmp .gt 5, 3) := by decide +kernel
theorem ref_d160 : decode method_2_code 160 = .ok (.iconst 0, 1) := by decide +kernel
theorem ref_d161 : decode method_2_code 161 = .ok (.ireturn, 1) := by decide +kernel
theorem ref_d162 : decode method_2_code 162 = .ok (.iload_n 0, 1) := by decide +kernel
theorem ref_d163 : decode method_2_code 163 = .ok (.ldc 8, 2) := by decide +kernel
theorem ref_d165 : decode method_2_code 165 = .ok (.if_icmp .lt 11, 3) := by decide +kernel
theorem ref_d168 : decode method_2_code 168 = .ok (.iload_n 0, 1) := by decide +kernel
theorem ref_d169 : decode method_2_code 169 = .ok (.ldc 9, 2) := by decide +kernel
theorem ref_d171 : decode method_2_code 171 = .ok (.if_icmp .gt 5, 3) := by decide +kernel
theorem ref_d174 : decode method_2_code 174 = .ok (.iconst 0, 1) := by decide +kernel
theorem ref_d175 : decode method_2_code 175 = .ok (.ireturn, 1) := by decide +kernel
theorem ref_d176 : decode method_2_code 176 = .ok (.iload_n 0, 1) := by decide +kernel
theorem ref_d177 : decode method_2_code 177 = .ok (.ldc 10, 2) := by decide +kernel
theorem ref_d179 : decode method_2_code 179 = .ok (.if_icmp .lt 11, 3) := by decide +kernel
theorem ref_d182 : decode method_2_code 182 = .ok (.iload_n 0, 1) := by decide +kernel
theorem ref_d183 : decode method_2_code 183 = .ok (.ldc 11, 2) := by decide +kernel
theorem ref_d185 : decode method_2_code 185 = .ok (.if_icmp .gt 5, 3) := by decide +kernel
theorem ref_d188 : decode method_2_code 188 = .ok (.iconst 0, 1) := by decide +kernel
theorem ref_d189 : decode method_2_code 189 = .ok (.ireturn, 1) := by decide +kernel
theorem ref_d190 : decode method_2_code 190 = .ok (.iload_n 0, 1) := by decide +kernel
theorem ref_d191 : decode method_2_code 191 = .ok (.ldc 12, 2) := by decide +kernel
theorem ref_d193 : decode method_2_code 193 = .ok (.if_icmp .lt 11, 3) := by decide +kernel
theorem ref_d196 : decode method_2_code 196 = .ok (.iload_n 0, 1) := by decide +kernel
theorem ref_d197 : decode method_2_code 197 = .ok (.ldc 13, 2) := by decide +kernel
theorem ref_d199 : decode method_2_code 199 = .ok (.if_icmp .gt 5, 3) := by decide +kernel
theorem ref_d202 : decode method_2_code 202 = .ok (.iconst 0, 1) := by decide +kernel
theorem ref_d203 : decode method_2_code 203 = .ok (.ireturn, 1) := by decide +kernel
theorem ref_d204 : decode method_2_code 204 = .ok (.iconst 1, 1) := by decide +kernel
theorem ref_d205 : decode method_2_code 205 = .ok (.ireturn, 1) := by decide +kernel
def ref_f204  : Int32 := (1 : Int32)
theorem ref_b204 {p : Program} {l : Launch} {e : Env} {s : State} {m : MethodId} {args : Array Value} {below : List Frame} {meth : Method} {c : Code} {T : State} {Z : State} {a0 : Array Value} {h : Heap} {locs : List Loc} {cells slots : Nat} (X : Stand p l e (⟨0, 0, 0, 0⟩ : Room) s m args below meth c T locs cells slots) (hc : cells ≤ ((⟨0, 0, 0, 0⟩ : Room)).cells) (hs : slots ≤ ((⟨0, 0, 0, 0⟩ : Room)).slots) (B : Bdy p s m meth c Z a0 "com/example/unseen_nodes/unseennodes/XmlTextIsNameStartPinLaw" "reference" method_2_code 1 (some .boolean) tables_1) (eT : T.heap = h) (i0 : Int32)  :
    Go p e below s cells slots (PQ (some (.int ref_f204)) h locs) (T.setTop (mkF m 204 #[.val (.int i0)] [])) := by
  refine g_iconst X B ref_d204 (pc' := 205) rfl (v := (1 : Int32)) (by decide) ?_
  exact g_retN X B (t := .boolean) rfl (by simp) ref_d205 (Nat.le_refl _) (Nat.le_refl _) ⟨congrArg (fun z => some (Value.int z)) (Eq.symm (by rw [ref_f204]; decide)), eT, rfl⟩
def ref_f190 (i0 : Int32) : Int32 := (if i0 < (65534 : Int32) then ref_f204 else (if (65535 : Int32) < i0 then ref_f204 else (0 : Int32)))
theorem ref_b190 {p : Program} {l : Launch} {e : Env} {s : State} {m : MethodId} {args : Array Value} {below : List Frame} {meth : Method} {c : Code} {T : State} {Z : State} {a0 : Array Value} {h : Heap} {locs : List Loc} {cells slots : Nat} (X : Stand p l e (⟨0, 0, 0, 0⟩ : Room) s m args below meth c T locs cells slots) (hc : cells ≤ ((⟨0, 0, 0, 0⟩ : Room)).cells) (hs : slots ≤ ((⟨0, 0, 0, 0⟩ : Room)).slots) (B : Bdy p s m meth c Z a0 "com/example/unseen_nodes/unseennodes/XmlTextIsNameStartPinLaw" "reference" method_2_code 1 (some .boolean) tables_1) (eT : T.heap = h) (i0 : Int32)  :
    Go p e below s cells slots (PQ (some (.int (ref_f190 i0))) h locs) (T.setTop (mkF m 190 #[.val (.int i0)] [])) := by
  refine g_iloadN X B ref_d190 (pc' := 191) rfl (v := i0) rfl ?_
  refine g_ldc X B (B.w 27 rfl) ref_d191 (pc' := 193) rfl ?_
  refine g_icmp_lt X B ref_d193 (pcT := 204) (pcF := 196) (by decide) rfl rfl (fun c193_0 => ?_) (fun c193_0 => ?_)
  · exact Go.cw (congrArg (fun z => some (Value.int z)) (Eq.symm (by rw [ref_f190, if_pos c193_0]))) (ref_b204 X hc hs B eT i0)
  · refine g_iloadN X B ref_d196 (pc' := 197) rfl (v := i0) rfl ?_
    refine g_ldc X B (B.w 24 rfl) ref_d197 (pc' := 199) rfl ?_
    refine g_icmp_gt X B ref_d199 (pcT := 204) (pcF := 202) (by decide) rfl rfl (fun c199_1 => ?_) (fun c199_1 => ?_)
    · exact Go.cw (congrArg (fun z => some (Value.int z)) (Eq.symm (by rw [ref_f190, if_neg c193_0, if_pos c199_1]))) (ref_b204 X hc hs B eT i0)
    · refine g_iconst X B ref_d202 (pc' := 203) rfl (v := (0 : Int32)) (by decide) ?_
      exact g_retN X B (t := .boolean) rfl (by simp) ref_d203 (Nat.le_refl _) (Nat.le_refl _) ⟨congrArg (fun z => some (Value.int z)) (Eq.symm (by rw [ref_f190, if_neg c193_0, if_neg c199_1]; decide)), eT, rfl⟩
def ref_f176 (i0 : Int32) : Int32 := (if i0 < (64976 : Int32) then (ref_f190 i0) else (if (65007 : Int32) < i0 then (ref_f190 i0) else (0 : Int32)))
theorem ref_b176 {p : Program} {l : Launch} {e : Env} {s : State} {m : MethodId} {args : Array Value} {below : List Frame} {meth : Method} {c : Code} {T : State} {Z : State} {a0 : Array Value} {h : Heap} {locs : List Loc} {cells slots : Nat} (X : Stand p l e (⟨0, 0, 0, 0⟩ : Room) s m args below meth c T locs cells slots) (hc : cells ≤ ((⟨0, 0, 0, 0⟩ : Room)).cells) (hs : slots ≤ ((⟨0, 0, 0, 0⟩ : Room)).slots) (B : Bdy p s m meth c Z a0 "com/example/unseen_nodes/unseennodes/XmlTextIsNameStartPinLaw" "reference" method_2_code 1 (some .boolean) tables_1) (eT : T.heap = h) (i0 : Int32)  :
    Go p e below s cells slots (PQ (some (.int (ref_f176 i0))) h locs) (T.setTop (mkF m 176 #[.val (.int i0)] [])) := by
  refine g_iloadN X B ref_d176 (pc' := 177) rfl (v := i0) rfl ?_
  refine g_ldc X B (B.w 26 rfl) ref_d177 (pc' := 179) rfl ?_
  refine g_icmp_lt X B ref_d179 (pcT := 190) (pcF := 182) (by decide) rfl rfl (fun c179_0 => ?_) (fun c179_0 => ?_)
  · exact Go.cw (congrArg (fun z => some (Value.int z)) (Eq.symm (by rw [ref_f176, if_pos c179_0]))) (ref_b190 X hc hs B eT i0)
  · refine g_iloadN X B ref_d182 (pc' := 183) rfl (v := i0) rfl ?_
    refine g_ldc X B (B.w 33 rfl) ref_d183 (pc' := 185) rfl ?_
    refine g_icmp_gt X B ref_d185 (pcT := 190) (pcF := 188) (by decide) rfl rfl (fun c185_1 => ?_) (fun c185_1 => ?_)
    · exact Go.cw (congrArg (fun z => some (Value.int z)) (Eq.symm (by rw [ref_f176, if_neg c179_0, if_pos c185_1]))) (ref_b190 X hc hs B eT i0)
    · refine g_iconst X B ref_d188 (pc' := 189) rfl (v := (0 : Int32)) (by decide) ?_
      exact g_retN X B (t := .boolean) rfl (by simp) ref_d189 (Nat.le_refl _) (Nat.le_refl _) ⟨congrArg (fun z => some (Value.int z)) (Eq.symm (by rw [ref_f176, if_neg c179_0, if_neg c185_1]; decide)), eT, rfl⟩
def ref_f162 (i0 : Int32) : Int32 := (if i0 < (55296 : Int32) then (ref_f176 i0) else (if (63743 : Int32) < i0 then (ref_f176 i0) else (0 : Int32)))
theorem ref_b162 {p : Program} {l : Launch} {e : Env} {s : State} {m : MethodId} {args : Array Value} {below : List Frame} {meth : Method} {c : Code} {T : State} {Z : State} {a0 : Array Value} {h : Heap} {locs : List Loc} {cells slots : Nat} (X : Stand p l e (⟨0, 0, 0, 0⟩ : Room) s m args below meth c T locs cells slots) (hc : cells ≤ ((⟨0, 0, 0, 0⟩ : Room)).cells) (hs : slots ≤ ((⟨0, 0, 0, 0⟩ : Room)).slots) (B : Bdy p s m meth c Z a0 "com/example/unseen_nodes/unseennodes/XmlTextIsNameStartPinLaw" "reference" method_2_code 1 (some .boolean) tables_1) (eT : T.heap = h) (i0 : Int32)  :
    Go p e below s cells slots (PQ (some (.int (ref_f162 i0))) h locs) (T.setTop (mkF m 162 #[.val (.int i0)] [])) := by
  refine g_iloadN X B ref_d162 (pc' := 163) rfl (v := i0) rfl ?_
  refine g_ldc X B (B.w 25 rfl) ref_d163 (pc' := 165) rfl ?_
  refine g_icmp_lt X B ref_d165 (pcT := 176) (pcF := 168) (by decide) rfl rfl (fun c165_0 => ?_) (fun c165_0 => ?_)
  · exact Go.cw (congrArg (fun z => some (Value.int z)) (Eq.symm (by rw [ref_f162, if_pos c165_0]))) (ref_b176 X hc hs B eT i0)
  · refine g_iloadN X B ref_d168 (pc' := 169) rfl (v := i0) rfl ?_
    refine g_ldc X B (B.w 32 rfl) ref_d169 (pc' := 171) rfl ?_
    refine g_icmp_gt X B ref_d171 (pcT := 176) (pcF := 174) (by decide) rfl rfl (fun c171_1 => ?_) (fun c171_1 => ?_)
    · exact Go.cw (congrArg (fun z => some (Value.int z)) (Eq.symm (by rw [ref_f162, if_neg c165_0, if_pos c171_1]))) (ref_b176 X hc hs B eT i0)
    · refine g_iconst X B ref_d174 (pc' := 175) rfl (v := (0 : Int32)) (by decide) ?_
      exact g_retN X B (t := .boolean) rfl (by simp) ref_d175 (Nat.le_refl _) (Nat.le_refl _) ⟨congrArg (fun z => some (Value.int z)) (Eq.symm (by rw [ref_f162, if_neg c165_0, if_neg c171_1]; decide)), eT, rfl⟩
def ref_f146 (i0 : Int32) : Int32 := (if i0 < (12272 : Int32) then (ref_f162 i0) else (if (12288 : Int32) < i0 then (ref_f162 i0) else (0 : Int32)))
theorem ref_b146 {p : Program} {l : Launch} {e : Env} {s : State} {m : MethodId} {args : Array Value} {below : List Frame} {meth : Method} {c : Code} {T : State} {Z : State} {a0 : Array Value} {h : Heap} {locs : List Loc} {cells slots : Nat} (X : Stand p l e (⟨0, 0, 0, 0⟩ : Room) s m args below meth c T locs cells slots) (hc : cells ≤ ((⟨0, 0, 0, 0⟩ : Room)).cells) (hs : slots ≤ ((⟨0, 0, 0, 0⟩ : Room)).slots) (B : Bdy p s m meth c Z a0 "com/example/unseen_nodes/unseennodes/XmlTextIsNameStartPinLaw" "reference" method_2_code 1 (some .boolean) tables_1) (eT : T.heap = h) (i0 : Int32)  :
    Go p e below s cells slots (PQ (some (.int (ref_f146 i0))) h locs) (T.setTop (mkF m 146 #[.val (.int i0)] [])) := by
  refine g_iloadN X B ref_d146 (pc' := 147) rfl (v := i0) rfl ?_
  refine g_sipush X B ref_d147 (pc' := 150) rfl (v := (12272 : Int32)) (by decide) ?_
  refine g_icmp_lt X B ref_d150 (pcT := 162) (pcF := 153) (by decide) rfl rfl (fun c150_0 => ?_) (fun c150_0 => ?_)
  · exact Go.cw (congrArg (fun z => some (Value.int z)) (Eq.symm (by rw [ref_f146, if_pos c150_0]))) (ref_b162 X hc hs B eT i0)
  · refine g_iloadN X B ref_d153 (pc' := 154) rfl (v := i0) rfl ?_
    refine g_sipush X B ref_d154 (pc' := 157) rfl (v := (12288 : Int32)) (by decide) ?_
    refine g_icmp_gt X B ref_d157 (pcT := 162) (pcF := 160) (by decide) rfl rfl (fun c157_1 => ?_) (fun c157_1 => ?_)
    · exact Go.cw (congrArg (fun z => some (Value.int z)) (Eq.symm (by rw [ref_f146, if_neg c150_0, if_pos c157_1]))) (ref_b162 X hc hs B eT i0)
    · refine g_iconst X B ref_d160 (pc' := 161) rfl (v := (0 : Int32)) (by decide) ?_
      exact g_retN X B (t := .boolean) rfl (by simp) ref_d161 (Nat.le_refl _) (Nat.le_refl _) ⟨congrArg (fun z => some (Value.int z)) (Eq.symm (by rw [ref_f146, if_neg c150_0, if_neg c157_1]; decide)), eT, rfl⟩
def ref_f130 (i0 : Int32) : Int32 := (if i0 < (8592 : Int32) then (ref_f146 i0) else (if (11263 : Int32) < i0 then (ref_f146 i0) else (0 : Int32)))
theorem ref_b130 {p : Program} {l : Launch} {e : Env} {s : State} {m : MethodId} {args : Array Value} {below : List Frame} {meth : Method} {c : Code} {T : State} {Z : State} {a0 : Array Value} {h : Heap} {locs : List Loc} {cells slots : Nat} (X : Stand p l e (⟨0, 0, 0, 0⟩ : Room) s m args below meth c T locs cells slots) (hc : cells ≤ ((⟨0, 0, 0, 0⟩ : Room)).cells) (hs : slots ≤ ((⟨0, 0, 0, 0⟩ : Room)).slots) (B : Bdy p s m meth c Z a0 "com/example/unseen_nodes/unseennodes/XmlTextIsNameStartPinLaw" "reference" method_2_code 1 (some .boolean) tables_1) (eT : T.heap = h) (i0 : Int32)  :
    Go p e below s cells slots (PQ (some (.int (ref_f130 i0))) h locs) (T.setTop (mkF m 130 #[.val (.int i0)] [])) := by
  refine g_iloadN X B ref_d130 (pc' := 131) rfl (v := i0) rfl ?_
  refine g_sipush X B ref_d131 (pc' := 134) rfl (v := (8592 : Int32)) (by decide) ?_
  refine g_icmp_lt X B ref_d134 (pcT := 146) (pcF := 137) (by decide) rfl rfl (fun c134_0 => ?_) (fun c134_0 => ?_)
  · exact Go.cw (congrArg (fun z => some (Value.int z)) (Eq.symm (by rw [ref_f130, if_pos c134_0]))) (ref_b146 X hc hs B eT i0)
  · refine g_iloadN X B ref_d137 (pc' := 138) rfl (v := i0) rfl ?_
    refine g_sipush X B ref_d138 (pc' := 141) rfl (v := (11263 : Int32)) (by decide) ?_
    refine g_icmp_gt X B ref_d141 (pcT := 146) (pcF := 144) (by decide) rfl rfl (fun c141_1 => ?_) (fun c141_1 => ?_)
    · exact Go.cw (congrArg (fun z => some (Value.int z)) (Eq.symm (by rw [ref_f130, if_neg c134_0, if_pos c141_1]))) (ref_b146 X hc hs B eT i0)
    · refine g_iconst X B ref_d144 (pc' := 145) rfl (v := (0 : Int32)) (by decide) ?_
      exact g_retN X B (t := .boolean) rfl (by simp) ref_d145 (Nat.le_refl _) (Nat.le_refl _) ⟨congrArg (fun z => some (Value.int z)) (Eq.symm (by rw [ref_f130, if_neg c134_0, if_neg c141_1]; decide)), eT, rfl⟩
def ref_f114 (i0 : Int32) : Int32 := (if i0 < (8206 : Int32) then (ref_f130 i0) else (if (8303 : Int32) < i0 then (ref_f130 i0) else (0 : Int32)))
theorem ref_b114 {p : Program} {l : Launch} {e : Env} {s : State} {m : MethodId} {args : Array Value} {below : List Frame} {meth : Method} {c : Code} {T : State} {Z : State} {a0 : Array Value} {h : Heap} {locs : List Loc} {cells slots : Nat} (X : Stand p l e (⟨0, 0, 0, 0⟩ : Room) s m args below meth c T locs cells slots) (hc : cells ≤ ((⟨0, 0, 0, 0⟩ : Room)).cells) (hs : slots ≤ ((⟨0, 0, 0, 0⟩ : Room)).slots) (B : Bdy p s m meth c Z a0 "com/example/unseen_nodes/unseennodes/XmlTextIsNameStartPinLaw" "reference" method_2_code 1 (some .boolean) tables_1) (eT : T.heap = h) (i0 : Int32)  :
    Go p e below s cells slots (PQ (some (.int (ref_f114 i0))) h locs) (T.setTop (mkF m 114 #[.val (.int i0)] [])) := by
  refine g_iloadN X B ref_d114 (pc' := 115) rfl (v := i0) rfl ?_
  refine g_sipush X B ref_d115 (pc' := 118) rfl (v := (8206 : Int32)) (by decide) ?_
  refine g_icmp_lt X B ref_d118 (pcT := 130) (pcF := 121) (by decide) rfl rfl (fun c118_0 => ?_) (fun c118_0 => ?_)
  · exact Go.cw (congrArg (fun z => some (Value.int z)) (Eq.symm (by rw [ref_f114, if_pos c118_0]))) (ref_b130 X hc hs B eT i0)
  · refine g_iloadN X B ref_d121 (pc' := 122) rfl (v := i0) rfl ?_
    refine g_sipush X B ref_d122 (pc' := 125) rfl (v := (8303 : Int32)) (by decide) ?_
    refine g_icmp_gt X B ref_d125 (pcT := 130) (pcF := 128) (by decide) rfl rfl (fun c125_1 => ?_) (fun c125_1 => ?_)
    · exact Go.cw (congrArg (fun z => some (Value.int z)) (Eq.symm (by rw [ref_f114, if_neg c118_0, if_pos c125_1]))) (ref_b130 X hc hs B eT i0)
    · refine g_iconst X B ref_d128 (pc' := 129) rfl (v := (0 : Int32)) (by decide) ?_
      exact g_retN X B (t := .boolean) rfl (by simp) ref_d129 (Nat.le_refl _) (Nat.le_refl _) ⟨congrArg (fun z => some (Value.int z)) (Eq.symm (by rw [ref_f114, if_neg c118_0, if_neg c125_1]; decide)), eT, rfl⟩
def ref_f89 (i0 : Int32) : Int32 := (if i0 = (894 : Int32) then (0 : Int32) else (if i0 < (8192 : Int32) then (ref_f114 i0) else (if (8203 : Int32) < i0 then (ref_f114 i0) else (0 : Int32))))
theorem ref_b89 {p : Program} {l : Launch} {e : Env} {s : State} {m : MethodId} {args : Array Value} {below : List Frame} {meth : Method} {c : Code} {T : State} {Z : State} {a0 : Array Value} {h : Heap} {locs : List Loc} {cells slots : Nat} (X : Stand p l e (⟨0, 0, 0, 0⟩ : Room) s m args below meth c T locs cells slots) (hc : cells ≤ ((⟨0, 0, 0, 0⟩ : Room)).cells) (hs : slots ≤ ((⟨0, 0, 0, 0⟩ : Room)).slots) (B : Bdy p s m meth c Z a0 "com/example/unseen_nodes/unseennodes/XmlTextIsNameStartPinLaw" "reference" method_2_code 1 (some .boolean) tables_1) (eT : T.heap = h) (i0 : Int32)  :
    Go p e below s cells slots (PQ (some (.int (ref_f89 i0))) h locs) (T.setTop (mkF m 89 #[.val (.int i0)] [])) := by
  refine g_iloadN X B ref_d89 (pc' := 90) rfl (v := i0) rfl ?_
  refine g_sipush X B ref_d90 (pc' := 93) rfl (v := (894 : Int32)) (by decide) ?_
  refine g_icmp_ne X B ref_d93 (pcT := 98) (pcF := 96) (by decide) rfl rfl (fun c93_0 => ?_) (fun c93_0 => ?_)
  · refine g_iconst X B ref_d96 (pc' := 97) rfl (v := (0 : Int32)) (by decide) ?_
    exact g_retN X B (t := .boolean) rfl (by simp) ref_d97 (Nat.le_refl _) (Nat.le_refl _) ⟨congrArg (fun z => some (Value.int z)) (Eq.symm (by rw [ref_f89, if_pos c93_0]; decide)), eT, rfl⟩
  · refine g_iloadN X B ref_d98 (pc' := 99) rfl (v := i0) rfl ?_
    refine g_sipush X B ref_d99 (pc' := 102) rfl (v := (8192 : Int32)) (by decide) ?_
    refine g_icmp_lt X B ref_d102 (pcT := 114) (pcF := 105) (by decide) rfl rfl (fun c102_1 => ?_) (fun c102_1 => ?_)
    · exact Go.cw (congrArg (fun z => some (Value.int z)) (Eq.symm (by rw [ref_f89, if_neg c93_0, if_pos c102_1]))) (ref_b114 X hc hs B eT i0)
    · refine g_iloadN X B ref_d105 (pc' := 106) rfl (v := i0) rfl ?_
      refine g_sipush X B ref_d106 (pc' := 109) rfl (v := (8203 : Int32)) (by decide) ?_
      refine g_icmp_gt X B ref_d109 (pcT := 114) (pcF := 112) (by decide) rfl rfl (fun c109_2 => ?_) (fun c109_2 => ?_)
      · exact Go.cw (congrArg (fun z => some (Value.int z)) (Eq.symm (by rw [ref_f89, if_neg c93_0, if_neg c102_1, if_pos c109_2]))) (ref_b114 X hc hs B eT i0)
      · refine g_iconst X B ref_d112 (pc' := 113) rfl (v := (0 : Int32)) (by decide) ?_
        exact g_retN X B (t := .boolean) rfl (by simp) ref_d113 (Nat.le_refl _) (Nat.le_refl _) ⟨congrArg (fun z => some (Value.int z)) (Eq.symm (by rw [ref_f89, if_neg c93_0, if_neg c102_1, if_neg c109_2]; decide)), eT, rfl⟩
def ref_f71  : Int32 := (0 : Int32)
theorem ref_b71 {p : Program} {l : Launch} {e : Env} {s : State} {m : MethodId} {args : Array Value} {below : List Frame} {meth : Method} {c : Code} {T : State} {Z : State} {a0 : Array Value} {h : Heap} {locs : List Loc} {cells slots : Nat} (X : Stand p l e (⟨0, 0, 0, 0⟩ : Room) s m args below meth c T locs cells slots) (hc : cells ≤ ((⟨0, 0, 0, 0⟩ : Room)).cells) (hs : slots ≤ ((⟨0, 0, 0, 0⟩ : Room)).slots) (B : Bdy p s m meth c Z a0 "com/example/unseen_nodes/unseennodes/XmlTextIsNameStartPinLaw" "reference" method_2_code 1 (some .boolean) tables_1) (eT : T.heap = h) (i0 : Int32)  :
    Go p e below s cells slots (PQ (some (.int ref_f71)) h locs) (T.setTop (mkF m 71 #[.val (.int i0)] [])) := by
  refine g_iconst X B ref_d71 (pc' := 72) rfl (v := (0 : Int32)) (by decide) ?_
  exact g_retN X B (t := .boolean) rfl (by simp) ref_d72 (Nat.le_refl _) (Nat.le_refl _) ⟨congrArg (fun z => some (Value.int z)) (Eq.symm (by rw [ref_f71]; decide)), eT, rfl⟩
def ref_f57 (i0 : Int32) : Int32 := (if i0 = (215 : Int32) then ref_f71 else (if i0 = (247 : Int32) then ref_f71 else (if i0 < (768 : Int32) then (ref_f89 i0) else (if (879 : Int32) < i0 then (ref_f89 i0) else (0 : Int32)))))
theorem ref_b57 {p : Program} {l : Launch} {e : Env} {s : State} {m : MethodId} {args : Array Value} {below : List Frame} {meth : Method} {c : Code} {T : State} {Z : State} {a0 : Array Value} {h : Heap} {locs : List Loc} {cells slots : Nat} (X : Stand p l e (⟨0, 0, 0, 0⟩ : Room) s m args below meth c T locs cells slots) (hc : cells ≤ ((⟨0, 0, 0, 0⟩ : Room)).cells) (hs : slots ≤ ((⟨0, 0, 0, 0⟩ : Room)).slots) (B : Bdy p s m meth c Z a0 "com/example/unseen_nodes/unseennodes/XmlTextIsNameStartPinLaw" "reference" method_2_code 1 (some .boolean) tables_1) (eT : T.heap = h) (i0 : Int32)  :
    Go p e below s cells slots (PQ (some (.int (ref_f57 i0))) h locs) (T.setTop (mkF m 57 #[.val (.int i0)] [])) := by
  refine g_iloadN X B ref_d57 (pc' := 58) rfl (v := i0) rfl ?_
  refine g_sipush X B ref_d58 (pc' := 61) rfl (v := (215 : Int32)) (by decide) ?_
  refine g_icmp_eq X B ref_d61 (pcT := 71) (pcF := 64) (by decide) rfl rfl (fun c61_0 => ?_) (fun c61_0 => ?_)
  · exact Go.cw (congrArg (fun z => some (Value.int z)) (Eq.symm (by rw [ref_f57, if_pos c61_0]))) (ref_b71 X hc hs B eT i0)
  · refine g_iloadN X B ref_d64 (pc' := 65) rfl (v := i0) rfl ?_
    refine g_sipush X B ref_d65 (pc' := 68) rfl (v := (247 : Int32)) (by decide) ?_
    refine g_icmp_ne X B ref_d68 (pcT := 73) (pcF := 71) (by decide) rfl rfl (fun c68_1 => ?_) (fun c68_1 => ?_)
    · exact Go.cw (congrArg (fun z => some (Value.int z)) (Eq.symm (by rw [ref_f57, if_neg c61_0, if_pos c68_1]))) (ref_b71 X hc hs B eT i0)
    · refine g_iloadN X B ref_d73 (pc' := 74) rfl (v := i0) rfl ?_
      refine g_sipush X B ref_d74 (pc' := 77) rfl (v := (768 : Int32)) (by decide) ?_
      refine g_icmp_lt X B ref_d77 (pcT := 89) (pcF := 80) (by decide) rfl rfl (fun c77_2 => ?_) (fun c77_2 => ?_)
      · exact Go.cw (congrArg (fun z => some (Value.int z)) (Eq.symm (by rw [ref_f57, if_neg c61_0, if_neg c68_1, if_pos c77_2]))) (ref_b89 X hc hs B eT i0)
      · refine g_iloadN X B ref_d80 (pc' := 81) rfl (v := i0) rfl ?_
        refine g_sipush X B ref_d81 (pc' := 84) rfl (v := (879 : Int32)) (by decide) ?_
        refine g_icmp_gt X B ref_d84 (pcT := 89) (pcF := 87) (by decide) rfl rfl (fun c84_3 => ?_) (fun c84_3 => ?_)
        · exact Go.cw (congrArg (fun z => some (Value.int z)) (Eq.symm (by rw [ref_f57, if_neg c61_0, if_neg c68_1, if_neg c77_2, if_pos c84_3]))) (ref_b89 X hc hs B eT i0)
        · refine g_iconst X B ref_d87 (pc' := 88) rfl (v := (0 : Int32)) (by decide) ?_
          exact g_retN X B (t := .boolean) rfl (by simp) ref_d88 (Nat.le_refl _) (Nat.le_refl _) ⟨congrArg (fun z => some (Value.int z)) (Eq.symm (by rw [ref_f57, if_neg c61_0, if_neg c68_1, if_neg c77_2, if_neg c84_3]; decide)), eT, rfl⟩
def ref_f34 (i0 : Int32) : Int32 := (if i0 = (96 : Int32) then (0 : Int32) else (if i0 < (123 : Int32) then (ref_f57 i0) else (if (191 : Int32) < i0 then (ref_f57 i0) else (0 : Int32))))
theorem ref_b34 {p : Program} {l : Launch} {e : Env} {s : State} {m : MethodId} {args : Array Value} {below : List Frame} {meth : Method} {c : Code} {T : State} {Z : State} {a0 : Array Value} {h : Heap} {locs : List Loc} {cells slots : Nat} (X : Stand p l e (⟨0, 0, 0, 0⟩ : Room) s m args below meth c T locs cells slots) (hc : cells ≤ ((⟨0, 0, 0, 0⟩ : Room)).cells) (hs : slots ≤ ((⟨0, 0, 0, 0⟩ : Room)).slots) (B : Bdy p s m meth c Z a0 "com/example/unseen_nodes/unseennodes/XmlTextIsNameStartPinLaw" "reference" method_2_code 1 (some .boolean) tables_1) (eT : T.heap = h) (i0 : Int32)  :
    Go p e below s cells slots (PQ (some (.int (ref_f34 i0))) h locs) (T.setTop (mkF m 34 #[.val (.int i0)] [])) := by
  refine g_iloadN X B ref_d34 (pc' := 35) rfl (v := i0) rfl ?_
  refine g_bipush X B ref_d35 (pc' := 37) rfl (v := (96 : Int32)) (by decide) ?_
  refine g_icmp_ne X B ref_d37 (pcT := 42) (pcF := 40) (by decide) rfl rfl (fun c37_0 => ?_) (fun c37_0 => ?_)
  · refine g_iconst X B ref_d40 (pc' := 41) rfl (v := (0 : Int32)) (by decide) ?_
    exact g_retN X B (t := .boolean) rfl (by simp) ref_d41 (Nat.le_refl _) (Nat.le_refl _) ⟨congrArg (fun z => some (Value.int z)) (Eq.symm (by rw [ref_f34, if_pos c37_0]; decide)), eT, rfl⟩
  · refine g_iloadN X B ref_d42 (pc' := 43) rfl (v := i0) rfl ?_
    refine g_bipush X B ref_d43 (pc' := 45) rfl (v := (123 : Int32)) (by decide) ?_
    refine g_icmp_lt X B ref_d45 (pcT := 57) (pcF := 48) (by decide) rfl rfl (fun c45_1 => ?_) (fun c45_1 => ?_)
    · exact Go.cw (congrArg (fun z => some (Value.int z)) (Eq.symm (by rw [ref_f34, if_neg c37_0, if_pos c45_1]))) (ref_b57 X hc hs B eT i0)
    · refine g_iloadN X B ref_d48 (pc' := 49) rfl (v := i0) rfl ?_
      refine g_sipush X B ref_d49 (pc' := 52) rfl (v := (191 : Int32)) (by decide) ?_
      refine g_icmp_gt X B ref_d52 (pcT := 57) (pcF := 55) (by decide) rfl rfl (fun c52_2 => ?_) (fun c52_2 => ?_)
      · exact Go.cw (congrArg (fun z => some (Value.int z)) (Eq.symm (by rw [ref_f34, if_neg c37_0, if_neg c45_1, if_pos c52_2]))) (ref_b57 X hc hs B eT i0)
      · refine g_iconst X B ref_d55 (pc' := 56) rfl (v := (0 : Int32)) (by decide) ?_
        exact g_retN X B (t := .boolean) rfl (by simp) ref_d56 (Nat.le_refl _) (Nat.le_refl _) ⟨congrArg (fun z => some (Value.int z)) (Eq.symm (by rw [ref_f34, if_neg c37_0, if_neg c45_1, if_neg c52_2]; decide)), eT, rfl⟩
def ref_f10  : Int32 := (0 : Int32)
theorem ref_b10 {p : Program} {l : Launch} {e : Env} {s : State} {m : MethodId} {args : Array Value} {below : List Frame} {meth : Method} {c : Code} {T : State} {Z : State} {a0 : Array Value} {h : Heap} {locs : List Loc} {cells slots : Nat} (X : Stand p l e (⟨0, 0, 0, 0⟩ : Room) s m args below meth c T locs cells slots) (hc : cells ≤ ((⟨0, 0, 0, 0⟩ : Room)).cells) (hs : slots ≤ ((⟨0, 0, 0, 0⟩ : Room)).slots) (B : Bdy p s m meth c Z a0 "com/example/unseen_nodes/unseennodes/XmlTextIsNameStartPinLaw" "reference" method_2_code 1 (some .boolean) tables_1) (eT : T.heap = h) (i0 : Int32)  :
    Go p e below s cells slots (PQ (some (.int ref_f10)) h locs) (T.setTop (mkF m 10 #[.val (.int i0)] [])) := by
  refine g_iconst X B ref_d10 (pc' := 11) rfl (v := (0 : Int32)) (by decide) ?_
  exact g_retN X B (t := .boolean) rfl (by simp) ref_d11 (Nat.le_refl _) (Nat.le_refl _) ⟨congrArg (fun z => some (Value.int z)) (Eq.symm (by rw [ref_f10]; decide)), eT, rfl⟩
def ref_f0 (i0 : Int32) : Int32 := (if i0 < (0 : Int32) then ref_f10 else (if (983039 : Int32) < i0 then ref_f10 else (if i0 < (65 : Int32) then (0 : Int32) else (if i0 < (91 : Int32) then (ref_f34 i0) else (if (94 : Int32) < i0 then (ref_f34 i0) else (0 : Int32))))))
theorem ref_b0 {p : Program} {l : Launch} {e : Env} {s : State} {m : MethodId} {args : Array Value} {below : List Frame} {meth : Method} {c : Code} {T : State} {Z : State} {a0 : Array Value} {h : Heap} {locs : List Loc} {cells slots : Nat} (X : Stand p l e (⟨0, 0, 0, 0⟩ : Room) s m args below meth c T locs cells slots) (hc : cells ≤ ((⟨0, 0, 0, 0⟩ : Room)).cells) (hs : slots ≤ ((⟨0, 0, 0, 0⟩ : Room)).slots) (B : Bdy p s m meth c Z a0 "com/example/unseen_nodes/unseennodes/XmlTextIsNameStartPinLaw" "reference" method_2_code 1 (some .boolean) tables_1) (eT : T.heap = h) (i0 : Int32)  :
    Go p e below s cells slots (PQ (some (.int (ref_f0 i0))) h locs) (T.setTop (mkF m 0 #[.val (.int i0)] [])) := by
  refine g_iloadN X B ref_d0 (pc' := 1) rfl (v := i0) rfl ?_
  refine g_if_lt X B ref_d1 (pcT := 10) (pcF := 4) (by decide) rfl rfl (fun c1_0 => ?_) (fun c1_0 => ?_)
  · exact Go.cw (congrArg (fun z => some (Value.int z)) (Eq.symm (by rw [ref_f0, if_pos c1_0]))) (ref_b10 X hc hs B eT i0)
  · refine g_iloadN X B ref_d4 (pc' := 5) rfl (v := i0) rfl ?_
    refine g_ldc X B (B.w 7 rfl) ref_d5 (pc' := 7) rfl ?_
    refine g_icmp_le X B ref_d7 (pcT := 12) (pcF := 10) (by decide) rfl rfl (fun c7_1 => ?_) (fun c7_1 => ?_)
    · exact Go.cw (congrArg (fun z => some (Value.int z)) (Eq.symm (by rw [ref_f0, if_neg c1_0, if_pos c7_1]))) (ref_b10 X hc hs B eT i0)
    · refine g_iloadN X B ref_d12 (pc' := 13) rfl (v := i0) rfl ?_
      refine g_bipush X B ref_d13 (pc' := 15) rfl (v := (65 : Int32)) (by decide) ?_
      refine g_icmp_ge X B ref_d15 (pcT := 20) (pcF := 18) (by decide) rfl rfl (fun c15_2 => ?_) (fun c15_2 => ?_)
      · refine g_iconst X B ref_d18 (pc' := 19) rfl (v := (0 : Int32)) (by decide) ?_
        exact g_retN X B (t := .boolean) rfl (by simp) ref_d19 (Nat.le_refl _) (Nat.le_refl _) ⟨congrArg (fun z => some (Value.int z)) (Eq.symm (by rw [ref_f0, if_neg c1_0, if_neg c7_1, if_pos c15_2]; decide)), eT, rfl⟩
      · refine g_iloadN X B ref_d20 (pc' := 21) rfl (v := i0) rfl ?_
        refine g_bipush X B ref_d21 (pc' := 23) rfl (v := (91 : Int32)) (by decide) ?_
        refine g_icmp_lt X B ref_d23 (pcT := 34) (pcF := 26) (by decide) rfl rfl (fun c23_3 => ?_) (fun c23_3 => ?_)
        · exact Go.cw (congrArg (fun z => some (Value.int z)) (Eq.symm (by rw [ref_f0, if_neg c1_0, if_neg c7_1, if_neg c15_2, if_pos c23_3]))) (ref_b34 X hc hs B eT i0)
        · refine g_iloadN X B ref_d26 (pc' := 27) rfl (v := i0) rfl ?_
          refine g_bipush X B ref_d27 (pc' := 29) rfl (v := (94 : Int32)) (by decide) ?_
          refine g_icmp_gt X B ref_d29 (pcT := 34) (pcF := 32) (by decide) rfl rfl (fun c29_4 => ?_) (fun c29_4 => ?_)
          · exact Go.cw (congrArg (fun z => some (Value.int z)) (Eq.symm (by rw [ref_f0, if_neg c1_0, if_neg c7_1, if_neg c15_2, if_neg c23_3, if_pos c29_4]))) (ref_b34 X hc hs B eT i0)
          · refine g_iconst X B ref_d32 (pc' := 33) rfl (v := (0 : Int32)) (by decide) ?_
            exact g_retN X B (t := .boolean) rfl (by simp) ref_d33 (Nat.le_refl _) (Nat.le_refl _) ⟨congrArg (fun z => some (Value.int z)) (Eq.symm (by rw [ref_f0, if_neg c1_0, if_neg c7_1, if_neg c15_2, if_neg c23_3, if_neg c29_4]; decide)), eT, rfl⟩
theorem own_pn_ref : plainFor (⟨"com/example/unseen_nodes/unseennodes/XmlTextIsNameStartPinLaw", "reference", "(I)Z"⟩ : MethodName) = true := plainFor_of_name (by first | (simp [plainName, overriddenIn]; done) | decide +kernel)
theorem own_ef_ref (m : MethodId) (i0 : Int32) : entryFrame m #[(.int i0)] 1 = (mkF m 0 #[.val (.int i0)] []) := by first | (simp [entryFrame, mkF, argsToLocals, Value.category]; done) | rfl
theorem ref_met (l : Launch) (Z : State) (a0 : Array Value) (hw : ∀ d ∈ tables_1, d.before a0 Z = true) (ws : List Jvm.Cond) (h : Heap) (i0 : Int32)  :
    Met l Z (⟨"com/example/unseen_nodes/unseennodes/XmlTextIsNameStartPinLaw", "reference", "(I)Z"⟩ : MethodName) method_2_code 1 (some .boolean) ws (⟨0, 0, 0, 0⟩ : Room) #[(.int i0)] h (PQ (some (.int (ref_f0 i0))) h []) :=
  met_of own_pn_ref hw fun p e s m below meth c T X B eT => Go.top (own_ef_ref m i0) (ref_b0 X (Nat.zero_le _) (Nat.zero_le _) B eT i0)
theorem agr_d0 : decode method_3_code 0 = .ok (.iload_n 0, 1) := by decide +kernel
theorem agr_d1 : decode method_3_code 1 = .ok (.invokestatic 14, 3) := by decide +kernel
theorem agr_d4 : decode method_3_code 4 = .ok (.iload_n 0, 1) := by decide +kernel
theorem agr_d5 : decode method_3_code 5 = .ok (.invokestatic 20, 3) := by decide +kernel
theorem agr_d8 : decode method_3_code 8 = .ok (.if_icmp .ne 7, 3) := by decide +kernel
theorem agr_d11 : decode method_3_code 11 = .ok (.iconst 1, 1) := by decide +kernel
theorem agr_d12 : decode method_3_code 12 = .ok (.goto 4, 3) := by decide +kernel
theorem agr_d15 : decode method_3_code 15 = .ok (.iconst 0, 1) := by decide +kernel
theorem agr_d16 : decode method_3_code 16 = .ok (.ireturn, 1) := by decide +kernel
def agr_f16 (t0 : Int32) : Int32 := (nar .boolean t0)
theorem agr_b16 {p : Program} {l : Launch} {e : Env} {s : State} {m : MethodId} {args : Array Value} {below : List Frame} {meth : Method} {c : Code} {T : State} {Z : State} {a0 : Array Value} {h : Heap} {locs : List Loc} {cells slots : Nat} (X : Stand p l e (⟨1, 0, 0, 16⟩ : Room) s m args below meth c T locs cells slots) (hc : cells ≤ ((⟨1, 0, 0, 16⟩ : Room)).cells) (hs : slots ≤ ((⟨1, 0, 0, 16⟩ : Room)).slots) (B : Bdy p s m meth c Z a0 "com/example/unseen_nodes/unseennodes/XmlTextIsNameStartPinLaw" "agrees" method_3_code 1 (some .boolean) tables_1) (eT : T.heap = h) (i0 : Int32) (t0 : Int32)  :
    Go p e below s cells slots (PQ (some (.int (agr_f16 t0))) h locs) (T.setTop (mkF m 16 #[.val (.int i0)] [(.int t0)])) := by
  exact g_retN X B (t := .boolean) rfl (by simp) agr_d16 (Nat.le_refl _) (Nat.le_refl _) ⟨congrArg (fun z => some (Value.int z)) (Eq.symm (by rw [agr_f16])), eT, rfl⟩
def agr_f0 (i0 : Int32) : Int32 := (if (isn_f0 i0) = (ref_f0 i0) then (agr_f16 (1 : Int32)) else (agr_f16 (0 : Int32)))
theorem agr_b0 {p : Program} {l : Launch} {e : Env} {s : State} {m : MethodId} {args : Array Value} {below : List Frame} {meth : Method} {c : Code} {T : State} {Z : State} {a0 : Array Value} {h : Heap} {locs : List Loc} {cells slots : Nat} (X : Stand p l e (⟨1, 0, 0, 16⟩ : Room) s m args below meth c T locs cells slots) (hc : cells ≤ ((⟨1, 0, 0, 16⟩ : Room)).cells) (hs : slots ≤ ((⟨1, 0, 0, 16⟩ : Room)).slots) (B : Bdy p s m meth c Z a0 "com/example/unseen_nodes/unseennodes/XmlTextIsNameStartPinLaw" "agrees" method_3_code 1 (some .boolean) tables_1) (eT : T.heap = h) (i0 : Int32)  :
    Go p e below s cells slots (PQ (some (.int (agr_f0 i0))) h locs) (T.setTop (mkF m 0 #[.val (.int i0)] [])) := by
  refine g_iloadN X B agr_d0 (pc' := 1) rfl (v := i0) rfl ?_
  refine g_callP X B eT 0 (y := (⟨"com/example/unseen_nodes/unseennodes/XmlText", "isNameStart", "(I)Z"⟩ : MethodName)) (argsL := [(.int i0)]) (rest := []) (w := (.int (isn_f0 i0))) (B.w 13 rfl) (B.w 14 rfl) (B.w 15 rfl) (B.w 16 rfl) (by decide) (isn_met l Z a0 B.2.2.1 [] h i0) (by decide) (by decide) hc hs rfl (lenOf own_pd0 rfl) rfl (Nat.le_of_eq rfl) agr_d1 (pc' := 4) rfl (fun T1 X1 e1 => ?_)
  refine g_iloadN X1 B agr_d4 (pc' := 5) rfl (v := i0) rfl ?_
  refine g_callP X1 B e1 1 (y := (⟨"com/example/unseen_nodes/unseennodes/XmlTextIsNameStartPinLaw", "reference", "(I)Z"⟩ : MethodName)) (argsL := [(.int i0)]) (rest := [(.int (isn_f0 i0))]) (w := (.int (ref_f0 i0))) (B.w 20 rfl) (B.w 21 rfl) (B.w 11 rfl) (B.w 22 rfl) (by decide) (ref_met l Z a0 B.2.2.1 [] h i0) (by decide) (by decide) hc hs rfl (lenOf own_pd0 rfl) rfl (Nat.le_of_eq rfl) agr_d5 (pc' := 8) rfl (fun T2 X2 e2 => ?_)
  refine g_icmp_ne X2 B agr_d8 (pcT := 15) (pcF := 11) (by decide) rfl rfl (fun c8_0 => ?_) (fun c8_0 => ?_)
  · refine g_iconst X2 B agr_d11 (pc' := 12) rfl (v := (1 : Int32)) (by decide) ?_
    refine g_goto X2 B agr_d12 (pc' := 16) (by decide) rfl ?_
    exact Go.cw (congrArg (fun z => some (Value.int z)) (Eq.symm (by rw [agr_f0, if_pos c8_0]))) (agr_b16 X2 hc hs B e2 i0 (1 : Int32))
  · refine g_iconst X2 B agr_d15 (pc' := 16) rfl (v := (0 : Int32)) (by decide) ?_
    exact Go.cw (congrArg (fun z => some (Value.int z)) (Eq.symm (by rw [agr_f0, if_neg c8_0]))) (agr_b16 X2 hc hs B e2 i0 (0 : Int32))
theorem own_pn_agr : plainFor (⟨"com/example/unseen_nodes/unseennodes/XmlTextIsNameStartPinLaw", "agrees", "(I)Z"⟩ : MethodName) = true := plainFor_of_name (by first | (simp [plainName, overriddenIn]; done) | decide +kernel)
theorem own_ef_agr (m : MethodId) (i0 : Int32) : entryFrame m #[(.int i0)] 1 = (mkF m 0 #[.val (.int i0)] []) := by first | (simp [entryFrame, mkF, argsToLocals, Value.category]; done) | rfl
theorem agr_met (l : Launch) (Z : State) (a0 : Array Value) (hw : ∀ d ∈ tables_1, d.before a0 Z = true) (ws : List Jvm.Cond) (h : Heap) (i0 : Int32)  :
    Met l Z (⟨"com/example/unseen_nodes/unseennodes/XmlTextIsNameStartPinLaw", "agrees", "(I)Z"⟩ : MethodName) method_3_code 1 (some .boolean) ws (⟨1, 0, 0, 16⟩ : Room) #[(.int i0)] h (PQ (some (.int (agr_f0 i0))) h []) :=
  met_of own_pn_agr hw fun p e s m below meth c T X B eT => Go.top (own_ef_agr m i0) (agr_b0 X (Nat.zero_le _) (Nat.zero_le _) B eT i0)
theorem own_ch {c a b y n : Int32} {P : Prop} [Decidable P] : (if c < a then (if P then y else n) else (if b < c then (if P then y else n) else y)) = if (¬ c < a ∧ ¬ b < c) ∨ P then y else n := by
  by_cases h1 : c < a <;> by_cases h2 : b < c <;> simp [h1, h2]
theorem own_eq {c a y n : Int32} {P : Prop} [Decidable P] : (if c = a then y else (if P then y else n)) = if c = a ∨ P then y else n := by
  by_cases h1 : c = a <;> simp [h1]
theorem own_eq2 {c a b y n : Int32} {P : Prop} [Decidable P] : (if c = a then y else (if c = b then y else (if P then y else n))) = if c = a ∨ (c = b ∨ P) then y else n := by
  by_cases h1 : c = a <;> by_cases h2 : c = b <;> simp [h1, h2]
theorem own_isn_191 : isn_f191 = 1 := by decide
theorem own_isn_195 : isn_f195 = if False then 1 else 0 := by decide
theorem own_ref_204 : ref_f204 = if False then 0 else 1 := by decide
theorem own_isn_179 (c : Int32) : isn_f179 c = if ((¬ c < (65536 : Int32) ∧ ¬ (983039 : Int32) < c) ∨ False) then 1 else 0 := by
  rw [isn_f179, own_isn_195, own_isn_191, own_ch]
theorem own_isn_167 (c : Int32) : isn_f167 c = if ((¬ c < (65008 : Int32) ∧ ¬ (65533 : Int32) < c) ∨ ((¬ c < (65536 : Int32) ∧ ¬ (983039 : Int32) < c) ∨ False)) then 1 else 0 := by
  rw [isn_f167, own_isn_179, own_isn_191, own_ch]
theorem own_isn_155 (c : Int32) : isn_f155 c = if ((¬ c < (63744 : Int32) ∧ ¬ (64975 : Int32) < c) ∨ ((¬ c < (65008 : Int32) ∧ ¬ (65533 : Int32) < c) ∨ ((¬ c < (65536 : Int32) ∧ ¬ (983039 : Int32) < c) ∨ False))) then 1 else 0 := by
  rw [isn_f155, own_isn_167, own_isn_191, own_ch]
theorem own_isn_142 (c : Int32) : isn_f142 c = if ((¬ c < (12289 : Int32) ∧ ¬ (55295 : Int32) < c) ∨ ((¬ c < (63744 : Int32) ∧ ¬ (64975 : Int32) < c) ∨ ((¬ c < (65008 : Int32) ∧ ¬ (65533 : Int32) < c) ∨ ((¬ c < (65536 : Int32) ∧ ¬ (983039 : Int32) < c) ∨ False)))) then 1 else 0 := by
  rw [isn_f142, own_isn_155, own_isn_191, own_ch]
theorem own_isn_128 (c : Int32) : isn_f128 c = if ((¬ c < (11264 : Int32) ∧ ¬ (12271 : Int32) < c) ∨ ((¬ c < (12289 : Int32) ∧ ¬ (55295 : Int32) < c) ∨ ((¬ c < (63744 : Int32) ∧ ¬ (64975 : Int32) < c) ∨ ((¬ c < (65008 : Int32) ∧ ¬ (65533 : Int32) < c) ∨ ((¬ c < (65536 : Int32) ∧ ¬ (983039 : Int32) < c) ∨ False))))) then 1 else 0 := by
  rw [isn_f128, own_isn_142, own_isn_191, own_ch]
theorem own_isn_114 (c : Int32) : isn_f114 c = if ((¬ c < (8304 : Int32) ∧ ¬ (8591 : Int32) < c) ∨ ((¬ c < (11264 : Int32) ∧ ¬ (12271 : Int32) < c) ∨ ((¬ c < (12289 : Int32) ∧ ¬ (55295 : Int32) < c) ∨ ((¬ c < (63744 : Int32) ∧ ¬ (64975 : Int32) < c) ∨ ((¬ c < (65008 : Int32) ∧ ¬ (65533 : Int32) < c) ∨ ((¬ c < (65536 : Int32) ∧ ¬ (983039 : Int32) < c) ∨ False)))))) then 1 else 0 := by
  rw [isn_f114, own_isn_128, own_isn_191, own_ch]
theorem own_isn_100 (c : Int32) : isn_f100 c = if ((¬ c < (8204 : Int32) ∧ ¬ (8205 : Int32) < c) ∨ ((¬ c < (8304 : Int32) ∧ ¬ (8591 : Int32) < c) ∨ ((¬ c < (11264 : Int32) ∧ ¬ (12271 : Int32) < c) ∨ ((¬ c < (12289 : Int32) ∧ ¬ (55295 : Int32) < c) ∨ ((¬ c < (63744 : Int32) ∧ ¬ (64975 : Int32) < c) ∨ ((¬ c < (65008 : Int32) ∧ ¬ (65533 : Int32) < c) ∨ ((¬ c < (65536 : Int32) ∧ ¬ (983039 : Int32) < c) ∨ False))))))) then 1 else 0 := by
  rw [isn_f100, own_isn_114, own_isn_191, own_ch]
theorem own_isn_86 (c : Int32) : isn_f86 c = if ((¬ c < (895 : Int32) ∧ ¬ (8191 : Int32) < c) ∨ ((¬ c < (8204 : Int32) ∧ ¬ (8205 : Int32) < c) ∨ ((¬ c < (8304 : Int32) ∧ ¬ (8591 : Int32) < c) ∨ ((¬ c < (11264 : Int32) ∧ ¬ (12271 : Int32) < c) ∨ ((¬ c < (12289 : Int32) ∧ ¬ (55295 : Int32) < c) ∨ ((¬ c < (63744 : Int32) ∧ ¬ (64975 : Int32) < c) ∨ ((¬ c < (65008 : Int32) ∧ ¬ (65533 : Int32) < c) ∨ ((¬ c < (65536 : Int32) ∧ ¬ (983039 : Int32) < c) ∨ False)))))))) then 1 else 0 := by
  rw [isn_f86, own_isn_100, own_isn_191, own_ch]
theorem own_isn_72 (c : Int32) : isn_f72 c = if ((¬ c < (880 : Int32) ∧ ¬ (893 : Int32) < c) ∨ ((¬ c < (895 : Int32) ∧ ¬ (8191 : Int32) < c) ∨ ((¬ c < (8204 : Int32) ∧ ¬ (8205 : Int32) < c) ∨ ((¬ c < (8304 : Int32) ∧ ¬ (8591 : Int32) < c) ∨ ((¬ c < (11264 : Int32) ∧ ¬ (12271 : Int32) < c) ∨ ((¬ c < (12289 : Int32) ∧ ¬ (55295 : Int32) < c) ∨ ((¬ c < (63744 : Int32) ∧ ¬ (64975 : Int32) < c) ∨ ((¬ c < (65008 : Int32) ∧ ¬ (65533 : Int32) < c) ∨ ((¬ c < (65536 : Int32) ∧ ¬ (983039 : Int32) < c) ∨ False))))))))) then 1 else 0 := by
  rw [isn_f72, own_isn_86, own_isn_191, own_ch]
theorem own_isn_58 (c : Int32) : isn_f58 c = if ((¬ c < (248 : Int32) ∧ ¬ (767 : Int32) < c) ∨ ((¬ c < (880 : Int32) ∧ ¬ (893 : Int32) < c) ∨ ((¬ c < (895 : Int32) ∧ ¬ (8191 : Int32) < c) ∨ ((¬ c < (8204 : Int32) ∧ ¬ (8205 : Int32) < c) ∨ ((¬ c < (8304 : Int32) ∧ ¬ (8591 : Int32) < c) ∨ ((¬ c < (11264 : Int32) ∧ ¬ (12271 : Int32) < c) ∨ ((¬ c < (12289 : Int32) ∧ ¬ (55295 : Int32) < c) ∨ ((¬ c < (63744 : Int32) ∧ ¬ (64975 : Int32) < c) ∨ ((¬ c < (65008 : Int32) ∧ ¬ (65533 : Int32) < c) ∨ ((¬ c < (65536 : Int32) ∧ ¬ (983039 : Int32) < c) ∨ False)))))))))) then 1 else 0 := by
  rw [isn_f58, own_isn_72, own_isn_191, own_ch]
theorem own_isn_44 (c : Int32) : isn_f44 c = if ((¬ c < (216 : Int32) ∧ ¬ (246 : Int32) < c) ∨ ((¬ c < (248 : Int32) ∧ ¬ (767 : Int32) < c) ∨ ((¬ c < (880 : Int32) ∧ ¬ (893 : Int32) < c) ∨ ((¬ c < (895 : Int32) ∧ ¬ (8191 : Int32) < c) ∨ ((¬ c < (8204 : Int32) ∧ ¬ (8205 : Int32) < c) ∨ ((¬ c < (8304 : Int32) ∧ ¬ (8591 : Int32) < c) ∨ ((¬ c < (11264 : Int32) ∧ ¬ (12271 : Int32) < c) ∨ ((¬ c < (12289 : Int32) ∧ ¬ (55295 : Int32) < c) ∨ ((¬ c < (63744 : Int32) ∧ ¬ (64975 : Int32) < c) ∨ ((¬ c < (65008 : Int32) ∧ ¬ (65533 : Int32) < c) ∨ ((¬ c < (65536 : Int32) ∧ ¬ (983039 : Int32) < c) ∨ False))))))))))) then 1 else 0 := by
  rw [isn_f44, own_isn_58, own_isn_191, own_ch]
theorem own_isn_24 (c : Int32) : isn_f24 c = if (c = (95 : Int32) ∨ ((¬ c < (192 : Int32) ∧ ¬ (214 : Int32) < c) ∨ ((¬ c < (216 : Int32) ∧ ¬ (246 : Int32) < c) ∨ ((¬ c < (248 : Int32) ∧ ¬ (767 : Int32) < c) ∨ ((¬ c < (880 : Int32) ∧ ¬ (893 : Int32) < c) ∨ ((¬ c < (895 : Int32) ∧ ¬ (8191 : Int32) < c) ∨ ((¬ c < (8204 : Int32) ∧ ¬ (8205 : Int32) < c) ∨ ((¬ c < (8304 : Int32) ∧ ¬ (8591 : Int32) < c) ∨ ((¬ c < (11264 : Int32) ∧ ¬ (12271 : Int32) < c) ∨ ((¬ c < (12289 : Int32) ∧ ¬ (55295 : Int32) < c) ∨ ((¬ c < (63744 : Int32) ∧ ¬ (64975 : Int32) < c) ∨ ((¬ c < (65008 : Int32) ∧ ¬ (65533 : Int32) < c) ∨ ((¬ c < (65536 : Int32) ∧ ¬ (983039 : Int32) < c) ∨ False))))))))))))) then 1 else 0 := by
  rw [isn_f24, own_isn_44, own_isn_191, own_ch, own_eq]
theorem own_isn_12 (c : Int32) : isn_f12 c = if ((¬ c < (97 : Int32) ∧ ¬ (122 : Int32) < c) ∨ (c = (95 : Int32) ∨ ((¬ c < (192 : Int32) ∧ ¬ (214 : Int32) < c) ∨ ((¬ c < (216 : Int32) ∧ ¬ (246 : Int32) < c) ∨ ((¬ c < (248 : Int32) ∧ ¬ (767 : Int32) < c) ∨ ((¬ c < (880 : Int32) ∧ ¬ (893 : Int32) < c) ∨ ((¬ c < (895 : Int32) ∧ ¬ (8191 : Int32) < c) ∨ ((¬ c < (8204 : Int32) ∧ ¬ (8205 : Int32) < c) ∨ ((¬ c < (8304 : Int32) ∧ ¬ (8591 : Int32) < c) ∨ ((¬ c < (11264 : Int32) ∧ ¬ (12271 : Int32) < c) ∨ ((¬ c < (12289 : Int32) ∧ ¬ (55295 : Int32) < c) ∨ ((¬ c < (63744 : Int32) ∧ ¬ (64975 : Int32) < c) ∨ ((¬ c < (65008 : Int32) ∧ ¬ (65533 : Int32) < c) ∨ ((¬ c < (65536 : Int32) ∧ ¬ (983039 : Int32) < c) ∨ False)))))))))))))) then 1 else 0 := by
  rw [isn_f12, own_isn_24, own_isn_191, own_ch]
theorem own_isn_0 (c : Int32) : isn_f0 c = if ((¬ c < (65 : Int32) ∧ ¬ (90 : Int32) < c) ∨ ((¬ c < (97 : Int32) ∧ ¬ (122 : Int32) < c) ∨ (c = (95 : Int32) ∨ ((¬ c < (192 : Int32) ∧ ¬ (214 : Int32) < c) ∨ ((¬ c < (216 : Int32) ∧ ¬ (246 : Int32) < c) ∨ ((¬ c < (248 : Int32) ∧ ¬ (767 : Int32) < c) ∨ ((¬ c < (880 : Int32) ∧ ¬ (893 : Int32) < c) ∨ ((¬ c < (895 : Int32) ∧ ¬ (8191 : Int32) < c) ∨ ((¬ c < (8204 : Int32) ∧ ¬ (8205 : Int32) < c) ∨ ((¬ c < (8304 : Int32) ∧ ¬ (8591 : Int32) < c) ∨ ((¬ c < (11264 : Int32) ∧ ¬ (12271 : Int32) < c) ∨ ((¬ c < (12289 : Int32) ∧ ¬ (55295 : Int32) < c) ∨ ((¬ c < (63744 : Int32) ∧ ¬ (64975 : Int32) < c) ∨ ((¬ c < (65008 : Int32) ∧ ¬ (65533 : Int32) < c) ∨ ((¬ c < (65536 : Int32) ∧ ¬ (983039 : Int32) < c) ∨ False))))))))))))))) then 1 else 0 := by
  rw [isn_f0, own_isn_12, own_isn_191, own_ch]
theorem own_ref_190 (c : Int32) : ref_f190 c = if ((¬ c < (65534 : Int32) ∧ ¬ (65535 : Int32) < c) ∨ False) then 0 else 1 := by
  rw [ref_f190, own_ref_204, own_ch]
theorem own_ref_176 (c : Int32) : ref_f176 c = if ((¬ c < (64976 : Int32) ∧ ¬ (65007 : Int32) < c) ∨ ((¬ c < (65534 : Int32) ∧ ¬ (65535 : Int32) < c) ∨ False)) then 0 else 1 := by
  rw [ref_f176, own_ref_190, own_ch]
theorem own_ref_162 (c : Int32) : ref_f162 c = if ((¬ c < (55296 : Int32) ∧ ¬ (63743 : Int32) < c) ∨ ((¬ c < (64976 : Int32) ∧ ¬ (65007 : Int32) < c) ∨ ((¬ c < (65534 : Int32) ∧ ¬ (65535 : Int32) < c) ∨ False))) then 0 else 1 := by
  rw [ref_f162, own_ref_176, own_ch]
theorem own_ref_146 (c : Int32) : ref_f146 c = if ((¬ c < (12272 : Int32) ∧ ¬ (12288 : Int32) < c) ∨ ((¬ c < (55296 : Int32) ∧ ¬ (63743 : Int32) < c) ∨ ((¬ c < (64976 : Int32) ∧ ¬ (65007 : Int32) < c) ∨ ((¬ c < (65534 : Int32) ∧ ¬ (65535 : Int32) < c) ∨ False)))) then 0 else 1 := by
  rw [ref_f146, own_ref_162, own_ch]
theorem own_ref_130 (c : Int32) : ref_f130 c = if ((¬ c < (8592 : Int32) ∧ ¬ (11263 : Int32) < c) ∨ ((¬ c < (12272 : Int32) ∧ ¬ (12288 : Int32) < c) ∨ ((¬ c < (55296 : Int32) ∧ ¬ (63743 : Int32) < c) ∨ ((¬ c < (64976 : Int32) ∧ ¬ (65007 : Int32) < c) ∨ ((¬ c < (65534 : Int32) ∧ ¬ (65535 : Int32) < c) ∨ False))))) then 0 else 1 := by
  rw [ref_f130, own_ref_146, own_ch]
theorem own_ref_114 (c : Int32) : ref_f114 c = if ((¬ c < (8206 : Int32) ∧ ¬ (8303 : Int32) < c) ∨ ((¬ c < (8592 : Int32) ∧ ¬ (11263 : Int32) < c) ∨ ((¬ c < (12272 : Int32) ∧ ¬ (12288 : Int32) < c) ∨ ((¬ c < (55296 : Int32) ∧ ¬ (63743 : Int32) < c) ∨ ((¬ c < (64976 : Int32) ∧ ¬ (65007 : Int32) < c) ∨ ((¬ c < (65534 : Int32) ∧ ¬ (65535 : Int32) < c) ∨ False)))))) then 0 else 1 := by
  rw [ref_f114, own_ref_130, own_ch]
theorem own_ref_89 (c : Int32) : ref_f89 c = if (c = (894 : Int32) ∨ ((¬ c < (8192 : Int32) ∧ ¬ (8203 : Int32) < c) ∨ ((¬ c < (8206 : Int32) ∧ ¬ (8303 : Int32) < c) ∨ ((¬ c < (8592 : Int32) ∧ ¬ (11263 : Int32) < c) ∨ ((¬ c < (12272 : Int32) ∧ ¬ (12288 : Int32) < c) ∨ ((¬ c < (55296 : Int32) ∧ ¬ (63743 : Int32) < c) ∨ ((¬ c < (64976 : Int32) ∧ ¬ (65007 : Int32) < c) ∨ ((¬ c < (65534 : Int32) ∧ ¬ (65535 : Int32) < c) ∨ False)))))))) then 0 else 1 := by
  rw [ref_f89, own_ref_114, own_ch, own_eq]
theorem own_ref_57 (c : Int32) : ref_f57 c = if (c = (215 : Int32) ∨ (c = (247 : Int32) ∨ ((¬ c < (768 : Int32) ∧ ¬ (879 : Int32) < c) ∨ (c = (894 : Int32) ∨ ((¬ c < (8192 : Int32) ∧ ¬ (8203 : Int32) < c) ∨ ((¬ c < (8206 : Int32) ∧ ¬ (8303 : Int32) < c) ∨ ((¬ c < (8592 : Int32) ∧ ¬ (11263 : Int32) < c) ∨ ((¬ c < (12272 : Int32) ∧ ¬ (12288 : Int32) < c) ∨ ((¬ c < (55296 : Int32) ∧ ¬ (63743 : Int32) < c) ∨ ((¬ c < (64976 : Int32) ∧ ¬ (65007 : Int32) < c) ∨ ((¬ c < (65534 : Int32) ∧ ¬ (65535 : Int32) < c) ∨ False))))))))))) then 0 else 1 := by
  rw [ref_f57, ref_f71, own_ref_89, own_ch, own_eq2]
theorem own_ref_34 (c : Int32) : ref_f34 c = if (c = (96 : Int32) ∨ ((¬ c < (123 : Int32) ∧ ¬ (191 : Int32) < c) ∨ (c = (215 : Int32) ∨ (c = (247 : Int32) ∨ ((¬ c < (768 : Int32) ∧ ¬ (879 : Int32) < c) ∨ (c = (894 : Int32) ∨ ((¬ c < (8192 : Int32) ∧ ¬ (8203 : Int32) < c) ∨ ((¬ c < (8206 : Int32) ∧ ¬ (8303 : Int32) < c) ∨ ((¬ c < (8592 : Int32) ∧ ¬ (11263 : Int32) < c) ∨ ((¬ c < (12272 : Int32) ∧ ¬ (12288 : Int32) < c) ∨ ((¬ c < (55296 : Int32) ∧ ¬ (63743 : Int32) < c) ∨ ((¬ c < (64976 : Int32) ∧ ¬ (65007 : Int32) < c) ∨ ((¬ c < (65534 : Int32) ∧ ¬ (65535 : Int32) < c) ∨ False))))))))))))) then 0 else 1 := by
  rw [ref_f34, own_ref_57, own_ch, own_eq]
theorem own_ref_0 (c : Int32) : ref_f0 c = if (c < (0 : Int32) ∨ (983039 : Int32) < c ∨ c < (65 : Int32) ∨ ((¬ c < (91 : Int32) ∧ ¬ (94 : Int32) < c) ∨ (c = (96 : Int32) ∨ ((¬ c < (123 : Int32) ∧ ¬ (191 : Int32) < c) ∨ (c = (215 : Int32) ∨ (c = (247 : Int32) ∨ ((¬ c < (768 : Int32) ∧ ¬ (879 : Int32) < c) ∨ (c = (894 : Int32) ∨ ((¬ c < (8192 : Int32) ∧ ¬ (8203 : Int32) < c) ∨ ((¬ c < (8206 : Int32) ∧ ¬ (8303 : Int32) < c) ∨ ((¬ c < (8592 : Int32) ∧ ¬ (11263 : Int32) < c) ∨ ((¬ c < (12272 : Int32) ∧ ¬ (12288 : Int32) < c) ∨ ((¬ c < (55296 : Int32) ∧ ¬ (63743 : Int32) < c) ∨ ((¬ c < (64976 : Int32) ∧ ¬ (65007 : Int32) < c) ∨ ((¬ c < (65534 : Int32) ∧ ¬ (65535 : Int32) < c) ∨ False))))))))))))))) then 0 else 1 := by
  rw [ref_f0, ref_f10, own_ref_34, own_ch]
  by_cases h1 : c < (0 : Int32) <;> by_cases h2 : (983039 : Int32) < c <;> by_cases h3 : c < (65 : Int32) <;> simp only [h1, h2, h3, if_true, if_false, true_or, or_true, false_or]
theorem own_same (c : Int32) : ((¬ c < (65 : Int32) ∧ ¬ (90 : Int32) < c) ∨ ((¬ c < (97 : Int32) ∧ ¬ (122 : Int32) < c) ∨ (c = (95 : Int32) ∨ ((¬ c < (192 : Int32) ∧ ¬ (214 : Int32) < c) ∨ ((¬ c < (216 : Int32) ∧ ¬ (246 : Int32) < c) ∨ ((¬ c < (248 : Int32) ∧ ¬ (767 : Int32) < c) ∨ ((¬ c < (880 : Int32) ∧ ¬ (893 : Int32) < c) ∨ ((¬ c < (895 : Int32) ∧ ¬ (8191 : Int32) < c) ∨ ((¬ c < (8204 : Int32) ∧ ¬ (8205 : Int32) < c) ∨ ((¬ c < (8304 : Int32) ∧ ¬ (8591 : Int32) < c) ∨ ((¬ c < (11264 : Int32) ∧ ¬ (12271 : Int32) < c) ∨ ((¬ c < (12289 : Int32) ∧ ¬ (55295 : Int32) < c) ∨ ((¬ c < (63744 : Int32) ∧ ¬ (64975 : Int32) < c) ∨ ((¬ c < (65008 : Int32) ∧ ¬ (65533 : Int32) < c) ∨ ((¬ c < (65536 : Int32) ∧ ¬ (983039 : Int32) < c) ∨ False))))))))))))))) ↔ ¬ (c < (0 : Int32) ∨ (983039 : Int32) < c ∨ c < (65 : Int32) ∨ ((¬ c < (91 : Int32) ∧ ¬ (94 : Int32) < c) ∨ (c = (96 : Int32) ∨ ((¬ c < (123 : Int32) ∧ ¬ (191 : Int32) < c) ∨ (c = (215 : Int32) ∨ (c = (247 : Int32) ∨ ((¬ c < (768 : Int32) ∧ ¬ (879 : Int32) < c) ∨ (c = (894 : Int32) ∨ ((¬ c < (8192 : Int32) ∧ ¬ (8203 : Int32) < c) ∨ ((¬ c < (8206 : Int32) ∧ ¬ (8303 : Int32) < c) ∨ ((¬ c < (8592 : Int32) ∧ ¬ (11263 : Int32) < c) ∨ ((¬ c < (12272 : Int32) ∧ ¬ (12288 : Int32) < c) ∨ ((¬ c < (55296 : Int32) ∧ ¬ (63743 : Int32) < c) ∨ ((¬ c < (64976 : Int32) ∧ ¬ (65007 : Int32) < c) ∨ ((¬ c < (65534 : Int32) ∧ ¬ (65535 : Int32) < c) ∨ False))))))))))))))) := by
  have k0 : (0 : Int32).toInt = 0 := by decide
  have k65 : (65 : Int32).toInt = 65 := by decide
  have k90 : (90 : Int32).toInt = 90 := by decide
  have k91 : (91 : Int32).toInt = 91 := by decide
  have k94 : (94 : Int32).toInt = 94 := by decide
  have k95 : (95 : Int32).toInt = 95 := by decide
  have k96 : (96 : Int32).toInt = 96 := by decide
  have k97 : (97 : Int32).toInt = 97 := by decide
  have k122 : (122 : Int32).toInt = 122 := by decide
  have k123 : (123 : Int32).toInt = 123 := by decide
  have k191 : (191 : Int32).toInt = 191 := by decide
  have k192 : (192 : Int32).toInt = 192 := by decide
  have k214 : (214 : Int32).toInt = 214 := by decide
  have k215 : (215 : Int32).toInt = 215 := by decide
  have k216 : (216 : Int32).toInt = 216 := by decide
  have k246 : (246 : Int32).toInt = 246 := by decide
  have k247 : (247 : Int32).toInt = 247 := by decide
  have k248 : (248 : Int32).toInt = 248 := by decide
  have k767 : (767 : Int32).toInt = 767 := by decide
  have k768 : (768 : Int32).toInt = 768 := by decide
  have k879 : (879 : Int32).toInt = 879 := by decide
  have k880 : (880 : Int32).toInt = 880 := by decide
  have k893 : (893 : Int32).toInt = 893 := by decide
  have k894 : (894 : Int32).toInt = 894 := by decide
  have k895 : (895 : Int32).toInt = 895 := by decide
  have k8191 : (8191 : Int32).toInt = 8191 := by decide
  have k8192 : (8192 : Int32).toInt = 8192 := by decide
  have k8203 : (8203 : Int32).toInt = 8203 := by decide
  have k8204 : (8204 : Int32).toInt = 8204 := by decide
  have k8205 : (8205 : Int32).toInt = 8205 := by decide
  have k8206 : (8206 : Int32).toInt = 8206 := by decide
  have k8303 : (8303 : Int32).toInt = 8303 := by decide
  have k8304 : (8304 : Int32).toInt = 8304 := by decide
  have k8591 : (8591 : Int32).toInt = 8591 := by decide
  have k8592 : (8592 : Int32).toInt = 8592 := by decide
  have k11263 : (11263 : Int32).toInt = 11263 := by decide
  have k11264 : (11264 : Int32).toInt = 11264 := by decide
  have k12271 : (12271 : Int32).toInt = 12271 := by decide
  have k12272 : (12272 : Int32).toInt = 12272 := by decide
  have k12288 : (12288 : Int32).toInt = 12288 := by decide
  have k12289 : (12289 : Int32).toInt = 12289 := by decide
  have k55295 : (55295 : Int32).toInt = 55295 := by decide
  have k55296 : (55296 : Int32).toInt = 55296 := by decide
  have k63743 : (63743 : Int32).toInt = 63743 := by decide
  have k63744 : (63744 : Int32).toInt = 63744 := by decide
  have k64975 : (64975 : Int32).toInt = 64975 := by decide
  have k64976 : (64976 : Int32).toInt = 64976 := by decide
  have k65007 : (65007 : Int32).toInt = 65007 := by decide
  have k65008 : (65008 : Int32).toInt = 65008 := by decide
  have k65533 : (65533 : Int32).toInt = 65533 := by decide
  have k65534 : (65534 : Int32).toInt = 65534 := by decide
  have k65535 : (65535 : Int32).toInt = 65535 := by decide
  have k65536 : (65536 : Int32).toInt = 65536 := by decide
  have k983039 : (983039 : Int32).toInt = 983039 := by decide
  simp only [Int32.lt_iff_toInt_lt, ← @Int32.toInt_inj c, k0, k65, k90, k91, k94, k95, k96, k97, k122, k123, k191, k192, k214, k215, k216, k246, k247, k248, k767, k768, k879, k880, k893, k894, k895, k8191, k8192, k8203, k8204, k8205, k8206, k8303, k8304, k8591, k8592, k11263, k11264, k12271, k12272, k12288, k12289, k55295, k55296, k63743, k63744, k64975, k64976, k65007, k65008, k65533, k65534, k65535, k65536, k983039]
  generalize c.toInt = x
  constructor
  · intro h g
    rcases h with h | h | h | h | h | h | h | h | h | h | h | h | h | h | h | h <;> first | exact h.elim | (rcases g with g | g | g | g | g | g | g | g | g | g | g | g | g | g | g | g | g | g <;> first | exact g.elim | omega)
  · intro h
    refine Classical.byContradiction fun g => ?_
    simp only [not_or, Classical.not_and_iff_not_or_not, Classical.not_not] at h g
    omega
theorem own_agr (c : Int32) : agr_f0 c = 1 := by
  have n1 : nar .boolean (1 : Int32) = 1 := by decide
  have h := own_same c
  simp only [agr_f0, agr_f16, own_isn_0, own_ref_0]
  by_cases q : ((¬ c < (65 : Int32) ∧ ¬ (90 : Int32) < c) ∨ ((¬ c < (97 : Int32) ∧ ¬ (122 : Int32) < c) ∨ (c = (95 : Int32) ∨ ((¬ c < (192 : Int32) ∧ ¬ (214 : Int32) < c) ∨ ((¬ c < (216 : Int32) ∧ ¬ (246 : Int32) < c) ∨ ((¬ c < (248 : Int32) ∧ ¬ (767 : Int32) < c) ∨ ((¬ c < (880 : Int32) ∧ ¬ (893 : Int32) < c) ∨ ((¬ c < (895 : Int32) ∧ ¬ (8191 : Int32) < c) ∨ ((¬ c < (8204 : Int32) ∧ ¬ (8205 : Int32) < c) ∨ ((¬ c < (8304 : Int32) ∧ ¬ (8591 : Int32) < c) ∨ ((¬ c < (11264 : Int32) ∧ ¬ (12271 : Int32) < c) ∨ ((¬ c < (12289 : Int32) ∧ ¬ (55295 : Int32) < c) ∨ ((¬ c < (63744 : Int32) ∧ ¬ (64975 : Int32) < c) ∨ ((¬ c < (65008 : Int32) ∧ ¬ (65533 : Int32) < c) ∨ ((¬ c < (65536 : Int32) ∧ ¬ (983039 : Int32) < c) ∨ False)))))))))))))))
  · rw [if_pos q, if_neg (h.mp q), if_pos rfl, n1]
  · have g : (c < (0 : Int32) ∨ (983039 : Int32) < c ∨ c < (65 : Int32) ∨ ((¬ c < (91 : Int32) ∧ ¬ (94 : Int32) < c) ∨ (c = (96 : Int32) ∨ ((¬ c < (123 : Int32) ∧ ¬ (191 : Int32) < c) ∨ (c = (215 : Int32) ∨ (c = (247 : Int32) ∨ ((¬ c < (768 : Int32) ∧ ¬ (879 : Int32) < c) ∨ (c = (894 : Int32) ∨ ((¬ c < (8192 : Int32) ∧ ¬ (8203 : Int32) < c) ∨ ((¬ c < (8206 : Int32) ∧ ¬ (8303 : Int32) < c) ∨ ((¬ c < (8592 : Int32) ∧ ¬ (11263 : Int32) < c) ∨ ((¬ c < (12272 : Int32) ∧ ¬ (12288 : Int32) < c) ∨ ((¬ c < (55296 : Int32) ∧ ¬ (63743 : Int32) < c) ∨ ((¬ c < (64976 : Int32) ∧ ¬ (65007 : Int32) < c) ∨ ((¬ c < (65534 : Int32) ∧ ¬ (65535 : Int32) < c) ∨ False))))))))))))))) := Decidable.by_contra fun z => q (h.mpr z)
    rw [if_neg q, if_pos g, if_pos rfl, n1]
theorem own_idx31 (k : Int32) : ((k &&& (2147483647 : Int32)) % (31 : Int32)).toInt = ((((k &&& (2147483647 : Int32)) % (31 : Int32)).toInt.toNat : Nat) : Int) ∧ ((k &&& (2147483647 : Int32)) % (31 : Int32)).toInt.toNat < 31 := by
  have e1 := c_mask k 2147483647 31 (by decide) (by decide)
  have e2 := (c_irem (k &&& 2147483647) 31 31 (by decide)).1 (by omega)
  omega
set_option maxRecDepth 65536 in
set_option maxHeartbeats 40000000 in
theorem law_go {p : Program} {l : Launch} {e : Env} {s : State} {m : MethodId} {args : Array Value} {below : List Frame} {meth : Method} {c : Code} {T : State} {Z : State} {a0 : Array Value} {h : Heap} (X : Stand p l e room_1 s m args below meth c T [] 0 0) (B : Bdy p s m meth c Z a0 "com/example/unseen_nodes/unseennodes/XmlTextIsNameStartPinLaw" "law" code 5 (some .boolean) tables_1) (eT : T.heap = h) (n0 : Nat) (Zs : n0 ≤ h.size) (i0 : Int32) (i1 : Int32) (i2 : Int32)   :
    Go p e below s room_1.cells room_1.slots (fun v _ L => v = some (.int 1) ∧ Fr n0 L) (T.setTop (mkF m 0 #[.val (.int i0), .val (.int i1), .val (.int i2), .unset, .unset] [])) := by
  have N := Fr.nil n0
  refine g_bipush X B at_0 (pc' := 2) rfl (v := (31 : Int32)) (by decide) ?_
  refine g_newA X B (aty := .int) 31 31 (B.w 0 rfl) eT (by decide) (by decide) (by decide) at_2 (pc' := 4) rfl (by decide) (by decide) (fun T1 h1 o1 q1 X1 e1 E1 A1 => ?_)
  have G_o1 : n0 ≤ o1 := by rw [q1]; exact Zs
  have Zs_1 := Nat.le_trans Zs E1.1
  have A_o1 : Ax Z h1 o1 .int 31 (fun _ => (.int (0 : Int32))) := A1
  refine g_dup X1 B at_4 (pc' := 5) rfl rfl ?_
  refine g_iconst X1 B at_5 (pc' := 6) rfl (v := (0 : Int32)) (by decide) ?_
  refine g_bipush X1 B at_6 (pc' := 8) rfl (v := (65 : Int32)) (by decide) ?_
  refine g_iastore X1 B 0 e1 A_o1 (by decide) (by decide) at_8 (pc' := 9) rfl (fun T2 h2 X2 e2 W2 => ?_)
  have N2 := Fr.snoc X2 N G_o1
  have A_o1_2 := A_o1.set W2
  have Zs_2 := Nat.le_trans Zs_1 (Keep.of_wr W2).1
  refine g_dup X2 B at_9 (pc' := 10) rfl rfl ?_
  refine g_iconst X2 B at_10 (pc' := 11) rfl (v := (1 : Int32)) (by decide) ?_
  refine g_bipush X2 B at_11 (pc' := 13) rfl (v := (90 : Int32)) (by decide) ?_
  refine g_iastore X2 B 1 e2 A_o1_2 (by decide) (by decide) at_13 (pc' := 14) rfl (fun T3 h3 X3 e3 W3 => ?_)
  have N3 := Fr.snoc X3 N2 G_o1
  have A_o1_3 := A_o1_2.set W3
  have Zs_3 := Nat.le_trans Zs_2 (Keep.of_wr W3).1
  refine g_dup X3 B at_14 (pc' := 15) rfl rfl ?_
  refine g_iconst X3 B at_15 (pc' := 16) rfl (v := (2 : Int32)) (by decide) ?_
  refine g_bipush X3 B at_16 (pc' := 18) rfl (v := (97 : Int32)) (by decide) ?_
  refine g_iastore X3 B 2 e3 A_o1_3 (by decide) (by decide) at_18 (pc' := 19) rfl (fun T4 h4 X4 e4 W4 => ?_)
  have N4 := Fr.snoc X4 N3 G_o1
  have A_o1_4 := A_o1_3.set W4
  have Zs_4 := Nat.le_trans Zs_3 (Keep.of_wr W4).1
  refine g_dup X4 B at_19 (pc' := 20) rfl rfl ?_
  refine g_iconst X4 B at_20 (pc' := 21) rfl (v := (3 : Int32)) (by decide) ?_
  refine g_bipush X4 B at_21 (pc' := 23) rfl (v := (122 : Int32)) (by decide) ?_
  refine g_iastore X4 B 3 e4 A_o1_4 (by decide) (by decide) at_23 (pc' := 24) rfl (fun T5 h5 X5 e5 W5 => ?_)
  have N5 := Fr.snoc X5 N4 G_o1
  have A_o1_5 := A_o1_4.set W5
  have Zs_5 := Nat.le_trans Zs_4 (Keep.of_wr W5).1
  refine g_dup X5 B at_24 (pc' := 25) rfl rfl ?_
  refine g_iconst X5 B at_25 (pc' := 26) rfl (v := (4 : Int32)) (by decide) ?_
  refine g_bipush X5 B at_26 (pc' := 28) rfl (v := (95 : Int32)) (by decide) ?_
  refine g_iastore X5 B 4 e5 A_o1_5 (by decide) (by decide) at_28 (pc' := 29) rfl (fun T6 h6 X6 e6 W6 => ?_)
  have N6 := Fr.snoc X6 N5 G_o1
  have A_o1_6 := A_o1_5.set W6
  have Zs_6 := Nat.le_trans Zs_5 (Keep.of_wr W6).1
  refine g_dup X6 B at_29 (pc' := 30) rfl rfl ?_
  refine g_iconst X6 B at_30 (pc' := 31) rfl (v := (5 : Int32)) (by decide) ?_
  refine g_sipush X6 B at_31 (pc' := 34) rfl (v := (192 : Int32)) (by decide) ?_
  refine g_iastore X6 B 5 e6 A_o1_6 (by decide) (by decide) at_34 (pc' := 35) rfl (fun T7 h7 X7 e7 W7 => ?_)
  have N7 := Fr.snoc X7 N6 G_o1
  have A_o1_7 := A_o1_6.set W7
  have Zs_7 := Nat.le_trans Zs_6 (Keep.of_wr W7).1
  refine g_dup X7 B at_35 (pc' := 36) rfl rfl ?_
  refine g_bipush X7 B at_36 (pc' := 38) rfl (v := (6 : Int32)) (by decide) ?_
  refine g_sipush X7 B at_38 (pc' := 41) rfl (v := (214 : Int32)) (by decide) ?_
  refine g_iastore X7 B 6 e7 A_o1_7 (by decide) (by decide) at_41 (pc' := 42) rfl (fun T8 h8 X8 e8 W8 => ?_)
  have N8 := Fr.snoc X8 N7 G_o1
  have A_o1_8 := A_o1_7.set W8
  have Zs_8 := Nat.le_trans Zs_7 (Keep.of_wr W8).1
  refine g_dup X8 B at_42 (pc' := 43) rfl rfl ?_
  refine g_bipush X8 B at_43 (pc' := 45) rfl (v := (7 : Int32)) (by decide) ?_
  refine g_sipush X8 B at_45 (pc' := 48) rfl (v := (216 : Int32)) (by decide) ?_
  refine g_iastore X8 B 7 e8 A_o1_8 (by decide) (by decide) at_48 (pc' := 49) rfl (fun T9 h9 X9 e9 W9 => ?_)
  have N9 := Fr.snoc X9 N8 G_o1
  have A_o1_9 := A_o1_8.set W9
  have Zs_9 := Nat.le_trans Zs_8 (Keep.of_wr W9).1
  refine g_dup X9 B at_49 (pc' := 50) rfl rfl ?_
  refine g_bipush X9 B at_50 (pc' := 52) rfl (v := (8 : Int32)) (by decide) ?_
  refine g_sipush X9 B at_52 (pc' := 55) rfl (v := (246 : Int32)) (by decide) ?_
  refine g_iastore X9 B 8 e9 A_o1_9 (by decide) (by decide) at_55 (pc' := 56) rfl (fun T10 h10 X10 e10 W10 => ?_)
  have N10 := Fr.snoc X10 N9 G_o1
  have A_o1_10 := A_o1_9.set W10
  have Zs_10 := Nat.le_trans Zs_9 (Keep.of_wr W10).1
  refine g_dup X10 B at_56 (pc' := 57) rfl rfl ?_
  refine g_bipush X10 B at_57 (pc' := 59) rfl (v := (9 : Int32)) (by decide) ?_
  refine g_sipush X10 B at_59 (pc' := 62) rfl (v := (248 : Int32)) (by decide) ?_
  refine g_iastore X10 B 9 e10 A_o1_10 (by decide) (by decide) at_62 (pc' := 63) rfl (fun T11 h11 X11 e11 W11 => ?_)
  have N11 := Fr.snoc X11 N10 G_o1
  have A_o1_11 := A_o1_10.set W11
  have Zs_11 := Nat.le_trans Zs_10 (Keep.of_wr W11).1
  refine g_dup X11 B at_63 (pc' := 64) rfl rfl ?_
  refine g_bipush X11 B at_64 (pc' := 66) rfl (v := (10 : Int32)) (by decide) ?_
  refine g_sipush X11 B at_66 (pc' := 69) rfl (v := (767 : Int32)) (by decide) ?_
  refine g_iastore X11 B 10 e11 A_o1_11 (by decide) (by decide) at_69 (pc' := 70) rfl (fun T12 h12 X12 e12 W12 => ?_)
  have N12 := Fr.snoc X12 N11 G_o1
  have A_o1_12 := A_o1_11.set W12
  have Zs_12 := Nat.le_trans Zs_11 (Keep.of_wr W12).1
  refine g_dup X12 B at_70 (pc' := 71) rfl rfl ?_
  refine g_bipush X12 B at_71 (pc' := 73) rfl (v := (11 : Int32)) (by decide) ?_
  refine g_sipush X12 B at_73 (pc' := 76) rfl (v := (880 : Int32)) (by decide) ?_
  refine g_iastore X12 B 11 e12 A_o1_12 (by decide) (by decide) at_76 (pc' := 77) rfl (fun T13 h13 X13 e13 W13 => ?_)
  have N13 := Fr.snoc X13 N12 G_o1
  have A_o1_13 := A_o1_12.set W13
  have Zs_13 := Nat.le_trans Zs_12 (Keep.of_wr W13).1
  refine g_dup X13 B at_77 (pc' := 78) rfl rfl ?_
  refine g_bipush X13 B at_78 (pc' := 80) rfl (v := (12 : Int32)) (by decide) ?_
  refine g_sipush X13 B at_80 (pc' := 83) rfl (v := (893 : Int32)) (by decide) ?_
  refine g_iastore X13 B 12 e13 A_o1_13 (by decide) (by decide) at_83 (pc' := 84) rfl (fun T14 h14 X14 e14 W14 => ?_)
  have N14 := Fr.snoc X14 N13 G_o1
  have A_o1_14 := A_o1_13.set W14
  have Zs_14 := Nat.le_trans Zs_13 (Keep.of_wr W14).1
  refine g_dup X14 B at_84 (pc' := 85) rfl rfl ?_
  refine g_bipush X14 B at_85 (pc' := 87) rfl (v := (13 : Int32)) (by decide) ?_
  refine g_sipush X14 B at_87 (pc' := 90) rfl (v := (895 : Int32)) (by decide) ?_
  refine g_iastore X14 B 13 e14 A_o1_14 (by decide) (by decide) at_90 (pc' := 91) rfl (fun T15 h15 X15 e15 W15 => ?_)
  have N15 := Fr.snoc X15 N14 G_o1
  have A_o1_15 := A_o1_14.set W15
  have Zs_15 := Nat.le_trans Zs_14 (Keep.of_wr W15).1
  refine g_dup X15 B at_91 (pc' := 92) rfl rfl ?_
  refine g_bipush X15 B at_92 (pc' := 94) rfl (v := (14 : Int32)) (by decide) ?_
  refine g_sipush X15 B at_94 (pc' := 97) rfl (v := (8191 : Int32)) (by decide) ?_
  refine g_iastore X15 B 14 e15 A_o1_15 (by decide) (by decide) at_97 (pc' := 98) rfl (fun T16 h16 X16 e16 W16 => ?_)
  have N16 := Fr.snoc X16 N15 G_o1
  have A_o1_16 := A_o1_15.set W16
  have Zs_16 := Nat.le_trans Zs_15 (Keep.of_wr W16).1
  refine g_dup X16 B at_98 (pc' := 99) rfl rfl ?_
  refine g_bipush X16 B at_99 (pc' := 101) rfl (v := (15 : Int32)) (by decide) ?_
  refine g_sipush X16 B at_101 (pc' := 104) rfl (v := (8204 : Int32)) (by decide) ?_
  refine g_iastore X16 B 15 e16 A_o1_16 (by decide) (by decide) at_104 (pc' := 105) rfl (fun T17 h17 X17 e17 W17 => ?_)
  have N17 := Fr.snoc X17 N16 G_o1
  have A_o1_17 := A_o1_16.set W17
  have Zs_17 := Nat.le_trans Zs_16 (Keep.of_wr W17).1
  refine g_dup X17 B at_105 (pc' := 106) rfl rfl ?_
  refine g_bipush X17 B at_106 (pc' := 108) rfl (v := (16 : Int32)) (by decide) ?_
  refine g_sipush X17 B at_108 (pc' := 111) rfl (v := (8205 : Int32)) (by decide) ?_
  refine g_iastore X17 B 16 e17 A_o1_17 (by decide) (by decide) at_111 (pc' := 112) rfl (fun T18 h18 X18 e18 W18 => ?_)
  have N18 := Fr.snoc X18 N17 G_o1
  have A_o1_18 := A_o1_17.set W18
  have Zs_18 := Nat.le_trans Zs_17 (Keep.of_wr W18).1
  refine g_dup X18 B at_112 (pc' := 113) rfl rfl ?_
  refine g_bipush X18 B at_113 (pc' := 115) rfl (v := (17 : Int32)) (by decide) ?_
  refine g_sipush X18 B at_115 (pc' := 118) rfl (v := (8304 : Int32)) (by decide) ?_
  refine g_iastore X18 B 17 e18 A_o1_18 (by decide) (by decide) at_118 (pc' := 119) rfl (fun T19 h19 X19 e19 W19 => ?_)
  have N19 := Fr.snoc X19 N18 G_o1
  have A_o1_19 := A_o1_18.set W19
  have Zs_19 := Nat.le_trans Zs_18 (Keep.of_wr W19).1
  refine g_dup X19 B at_119 (pc' := 120) rfl rfl ?_
  refine g_bipush X19 B at_120 (pc' := 122) rfl (v := (18 : Int32)) (by decide) ?_
  refine g_sipush X19 B at_122 (pc' := 125) rfl (v := (8591 : Int32)) (by decide) ?_
  refine g_iastore X19 B 18 e19 A_o1_19 (by decide) (by decide) at_125 (pc' := 126) rfl (fun T20 h20 X20 e20 W20 => ?_)
  have N20 := Fr.snoc X20 N19 G_o1
  have A_o1_20 := A_o1_19.set W20
  have Zs_20 := Nat.le_trans Zs_19 (Keep.of_wr W20).1
  refine g_dup X20 B at_126 (pc' := 127) rfl rfl ?_
  refine g_bipush X20 B at_127 (pc' := 129) rfl (v := (19 : Int32)) (by decide) ?_
  refine g_sipush X20 B at_129 (pc' := 132) rfl (v := (11264 : Int32)) (by decide) ?_
  refine g_iastore X20 B 19 e20 A_o1_20 (by decide) (by decide) at_132 (pc' := 133) rfl (fun T21 h21 X21 e21 W21 => ?_)
  have N21 := Fr.snoc X21 N20 G_o1
  have A_o1_21 := A_o1_20.set W21
  have Zs_21 := Nat.le_trans Zs_20 (Keep.of_wr W21).1
  refine g_dup X21 B at_133 (pc' := 134) rfl rfl ?_
  refine g_bipush X21 B at_134 (pc' := 136) rfl (v := (20 : Int32)) (by decide) ?_
  refine g_sipush X21 B at_136 (pc' := 139) rfl (v := (12271 : Int32)) (by decide) ?_
  refine g_iastore X21 B 20 e21 A_o1_21 (by decide) (by decide) at_139 (pc' := 140) rfl (fun T22 h22 X22 e22 W22 => ?_)
  have N22 := Fr.snoc X22 N21 G_o1
  have A_o1_22 := A_o1_21.set W22
  have Zs_22 := Nat.le_trans Zs_21 (Keep.of_wr W22).1
  refine g_dup X22 B at_140 (pc' := 141) rfl rfl ?_
  refine g_bipush X22 B at_141 (pc' := 143) rfl (v := (21 : Int32)) (by decide) ?_
  refine g_sipush X22 B at_143 (pc' := 146) rfl (v := (12289 : Int32)) (by decide) ?_
  refine g_iastore X22 B 21 e22 A_o1_22 (by decide) (by decide) at_146 (pc' := 147) rfl (fun T23 h23 X23 e23 W23 => ?_)
  have N23 := Fr.snoc X23 N22 G_o1
  have A_o1_23 := A_o1_22.set W23
  have Zs_23 := Nat.le_trans Zs_22 (Keep.of_wr W23).1
  refine g_dup X23 B at_147 (pc' := 148) rfl rfl ?_
  refine g_bipush X23 B at_148 (pc' := 150) rfl (v := (22 : Int32)) (by decide) ?_
  refine g_ldc X23 B (B.w 1 rfl) at_150 (pc' := 152) rfl ?_
  refine g_iastore X23 B 22 e23 A_o1_23 (by decide) (by decide) at_152 (pc' := 153) rfl (fun T24 h24 X24 e24 W24 => ?_)
  have N24 := Fr.snoc X24 N23 G_o1
  have A_o1_24 := A_o1_23.set W24
  have Zs_24 := Nat.le_trans Zs_23 (Keep.of_wr W24).1
  refine g_dup X24 B at_153 (pc' := 154) rfl rfl ?_
  refine g_bipush X24 B at_154 (pc' := 156) rfl (v := (23 : Int32)) (by decide) ?_
  refine g_ldc X24 B (B.w 2 rfl) at_156 (pc' := 158) rfl ?_
  refine g_iastore X24 B 23 e24 A_o1_24 (by decide) (by decide) at_158 (pc' := 159) rfl (fun T25 h25 X25 e25 W25 => ?_)
  have N25 := Fr.snoc X25 N24 G_o1
  have A_o1_25 := A_o1_24.set W25
  have Zs_25 := Nat.le_trans Zs_24 (Keep.of_wr W25).1
  refine g_dup X25 B at_159 (pc' := 160) rfl rfl ?_
  refine g_bipush X25 B at_160 (pc' := 162) rfl (v := (24 : Int32)) (by decide) ?_
  refine g_ldc X25 B (B.w 3 rfl) at_162 (pc' := 164) rfl ?_
  refine g_iastore X25 B 24 e25 A_o1_25 (by decide) (by decide) at_164 (pc' := 165) rfl (fun T26 h26 X26 e26 W26 => ?_)
  have N26 := Fr.snoc X26 N25 G_o1
  have A_o1_26 := A_o1_25.set W26
  have Zs_26 := Nat.le_trans Zs_25 (Keep.of_wr W26).1
  refine g_dup X26 B at_165 (pc' := 166) rfl rfl ?_
  refine g_bipush X26 B at_166 (pc' := 168) rfl (v := (25 : Int32)) (by decide) ?_
  refine g_ldc X26 B (B.w 4 rfl) at_168 (pc' := 170) rfl ?_
  refine g_iastore X26 B 25 e26 A_o1_26 (by decide) (by decide) at_170 (pc' := 171) rfl (fun T27 h27 X27 e27 W27 => ?_)
  have N27 := Fr.snoc X27 N26 G_o1
  have A_o1_27 := A_o1_26.set W27
  have Zs_27 := Nat.le_trans Zs_26 (Keep.of_wr W27).1
  refine g_dup X27 B at_171 (pc' := 172) rfl rfl ?_
  refine g_bipush X27 B at_172 (pc' := 174) rfl (v := (26 : Int32)) (by decide) ?_
  refine g_ldc X27 B (B.w 5 rfl) at_174 (pc' := 176) rfl ?_
  refine g_iastore X27 B 26 e27 A_o1_27 (by decide) (by decide) at_176 (pc' := 177) rfl (fun T28 h28 X28 e28 W28 => ?_)
  have N28 := Fr.snoc X28 N27 G_o1
  have A_o1_28 := A_o1_27.set W28
  have Zs_28 := Nat.le_trans Zs_27 (Keep.of_wr W28).1
  refine g_dup X28 B at_177 (pc' := 178) rfl rfl ?_
  refine g_bipush X28 B at_178 (pc' := 180) rfl (v := (27 : Int32)) (by decide) ?_
  refine g_ldc X28 B (B.w 6 rfl) at_180 (pc' := 182) rfl ?_
  refine g_iastore X28 B 27 e28 A_o1_28 (by decide) (by decide) at_182 (pc' := 183) rfl (fun T29 h29 X29 e29 W29 => ?_)
  have N29 := Fr.snoc X29 N28 G_o1
  have A_o1_29 := A_o1_28.set W29
  have Zs_29 := Nat.le_trans Zs_28 (Keep.of_wr W29).1
  refine g_dup X29 B at_183 (pc' := 184) rfl rfl ?_
  refine g_bipush X29 B at_184 (pc' := 186) rfl (v := (28 : Int32)) (by decide) ?_
  refine g_ldc X29 B (B.w 7 rfl) at_186 (pc' := 188) rfl ?_
  refine g_iastore X29 B 28 e29 A_o1_29 (by decide) (by decide) at_188 (pc' := 189) rfl (fun T30 h30 X30 e30 W30 => ?_)
  have N30 := Fr.snoc X30 N29 G_o1
  have A_o1_30 := A_o1_29.set W30
  have Zs_30 := Nat.le_trans Zs_29 (Keep.of_wr W30).1
  refine g_dup X30 B at_189 (pc' := 190) rfl rfl ?_
  refine g_bipush X30 B at_190 (pc' := 192) rfl (v := (29 : Int32)) (by decide) ?_
  refine g_bipush X30 B at_192 (pc' := 194) rfl (v := (58 : Int32)) (by decide) ?_
  refine g_iastore X30 B 29 e30 A_o1_30 (by decide) (by decide) at_194 (pc' := 195) rfl (fun T31 h31 X31 e31 W31 => ?_)
  have N31 := Fr.snoc X31 N30 G_o1
  have A_o1_31 := A_o1_30.set W31
  have Zs_31 := Nat.le_trans Zs_30 (Keep.of_wr W31).1
  refine g_dup X31 B at_195 (pc' := 196) rfl rfl ?_
  refine g_bipush X31 B at_196 (pc' := 198) rfl (v := (30 : Int32)) (by decide) ?_
  refine g_iconst X31 B at_198 (pc' := 199) rfl (v := (0 : Int32)) (by decide) ?_
  refine g_iastore X31 B 30 e31 A_o1_31 (by decide) (by decide) at_199 (pc' := 200) rfl (fun T32 h32 X32 e32 W32 => ?_)
  have N32 := Fr.snoc X32 N31 G_o1
  have A_o1_32 := A_o1_31.set W32
  have Zs_32 := Nat.le_trans Zs_31 (Keep.of_wr W32).1
  refine g_astoreN X32 B at_200 (pc' := 201) rfl rfl (Ls' := #[.val (.int i0), .val (.int i1), .val (.int i2), .val (.ref o1), .unset]) rfl ?_
  refine g_aloadN X32 B at_201 (pc' := 202) rfl (v := (.ref o1)) rfl rfl ?_
  refine g_iloadN X32 B at_202 (pc' := 203) rfl (v := i1) rfl ?_
  refine g_ldc X32 B (B.w 8 rfl) at_203 (pc' := 205) rfl ?_
  refine g_iand X32 B at_205 (pc' := 206) rfl ?_
  refine g_aloadN X32 B at_206 (pc' := 207) rfl (v := (.ref o1)) rfl rfl ?_
  refine g_arrlen X32 B (31 : Int32) e32 A_o1_32 (by decide) at_207 (pc' := 208) rfl ?_
  refine g_irem X32 B (by decide) at_208 (pc' := 209) rfl ?_
  refine g_iaload_any X32 B ((i1 &&& (2147483647 : Int32)) % (31 : Int32)).toInt.toNat e32 A_o1_32 (own_idx31 i1).1 (own_idx31 i1).2 (by repeat' (first | exact own_ints_nil _ | refine own_ints_set ?_ _ _)) at_209 (pc' := 210) rfl (fun bv => ?_)
  refine g_iloadN X32 B at_210 (pc' := 211) rfl (v := i2) rfl ?_
  refine g_ldc X32 B (B.w 8 rfl) at_211 (pc' := 213) rfl ?_
  refine g_iand X32 B at_213 (pc' := 214) rfl ?_
  refine g_iconst X32 B at_214 (pc' := 215) rfl (v := (3 : Int32)) (by decide) ?_
  refine g_irem X32 B (by decide) at_215 (pc' := 216) rfl ?_
  refine g_iadd X32 B at_216 (pc' := 217) rfl ?_
  refine g_iconst X32 B at_217 (pc' := 218) rfl (v := (1 : Int32)) (by decide) ?_
  refine g_isub X32 B at_218 (pc' := 219) rfl ?_
  refine g_istore X32 B at_219 (pc' := 221) rfl (Ls' := #[.val (.int i0), .val (.int i1), .val (.int i2), .val (.ref o1), .val (.int ((bv + ((i2 &&& (2147483647 : Int32)) % (3 : Int32))) - (1 : Int32)))]) rfl ?_
  refine g_iloadN X32 B at_221 (pc' := 222) rfl (v := i0) rfl ?_
  refine g_callP X32 B e32 0 (y := (⟨"com/example/unseen_nodes/unseennodes/XmlTextIsNameStartPinLaw", "agrees", "(I)Z"⟩ : MethodName)) (argsL := [(.int i0)]) (rest := []) (w := (.int (agr_f0 i0))) (B.w 9 rfl) (B.w 10 rfl) (B.w 11 rfl) (B.w 12 rfl) (by decide) (agr_met l Z a0 B.2.2.1 [] h32 i0) (by decide) (by decide) (by decide) (by decide) rfl (lenOf own_pd0 rfl) rfl (Nat.le_of_eq rfl) at_222 (pc' := 225) rfl (fun T33 X33 e33 => ?_)
  refine g_if_eq X33 B at_225 (pcT := 260) (pcF := 228) (by decide) rfl rfl (fun c225_0 => ?_) (fun c225_0 => ?_)
  · exact absurd ((own_agr _).symm.trans c225_0) (by decide)
  · refine g_iloadN X33 B at_228 (pc' := 229) rfl (v := i0) rfl ?_
    refine g_ldc X33 B (B.w 23 rfl) at_229 (pc' := 231) rfl ?_
    refine g_iand X33 B at_231 (pc' := 232) rfl ?_
    refine g_callP X33 B e33 0 (y := (⟨"com/example/unseen_nodes/unseennodes/XmlTextIsNameStartPinLaw", "agrees", "(I)Z"⟩ : MethodName)) (argsL := [(.int (i0 &&& (1048575 : Int32)))]) (rest := []) (w := (.int (agr_f0 (i0 &&& (1048575 : Int32))))) (B.w 9 rfl) (B.w 10 rfl) (B.w 11 rfl) (B.w 12 rfl) (by decide) (agr_met l Z a0 B.2.2.1 [] h32 (i0 &&& (1048575 : Int32))) (by decide) (by decide) (by decide) (by decide) rfl (lenOf own_pd0 rfl) rfl (Nat.le_of_eq rfl) at_232 (pc' := 235) rfl (fun T34 X34 e34 => ?_)
    refine g_if_eq X34 B at_235 (pcT := 260) (pcF := 238) (by decide) rfl rfl (fun c235_1 => ?_) (fun c235_1 => ?_)
    · exact absurd ((own_agr _).symm.trans c235_1) (by decide)
    · refine g_iloadN X34 B at_238 (pc' := 239) rfl (v := i0) rfl ?_
      refine g_ldc X34 B (B.w 24 rfl) at_239 (pc' := 241) rfl ?_
      refine g_iand X34 B at_241 (pc' := 242) rfl ?_
      refine g_callP X34 B e34 0 (y := (⟨"com/example/unseen_nodes/unseennodes/XmlTextIsNameStartPinLaw", "agrees", "(I)Z"⟩ : MethodName)) (argsL := [(.int (i0 &&& (65535 : Int32)))]) (rest := []) (w := (.int (agr_f0 (i0 &&& (65535 : Int32))))) (B.w 9 rfl) (B.w 10 rfl) (B.w 11 rfl) (B.w 12 rfl) (by decide) (agr_met l Z a0 B.2.2.1 [] h32 (i0 &&& (65535 : Int32))) (by decide) (by decide) (by decide) (by decide) rfl (lenOf own_pd0 rfl) rfl (Nat.le_of_eq rfl) at_242 (pc' := 245) rfl (fun T35 X35 e35 => ?_)
      refine g_if_eq X35 B at_245 (pcT := 260) (pcF := 248) (by decide) rfl rfl (fun c245_2 => ?_) (fun c245_2 => ?_)
      · exact absurd ((own_agr _).symm.trans c245_2) (by decide)
      · refine g_iload X35 B at_248 (pc' := 250) rfl (v := ((bv + ((i2 &&& (2147483647 : Int32)) % (3 : Int32))) - (1 : Int32))) rfl ?_
        refine g_callP X35 B e35 0 (y := (⟨"com/example/unseen_nodes/unseennodes/XmlTextIsNameStartPinLaw", "agrees", "(I)Z"⟩ : MethodName)) (argsL := [(.int ((bv + ((i2 &&& (2147483647 : Int32)) % (3 : Int32))) - (1 : Int32)))]) (rest := []) (w := (.int (agr_f0 ((bv + ((i2 &&& (2147483647 : Int32)) % (3 : Int32))) - (1 : Int32))))) (B.w 9 rfl) (B.w 10 rfl) (B.w 11 rfl) (B.w 12 rfl) (by decide) (agr_met l Z a0 B.2.2.1 [] h32 ((bv + ((i2 &&& (2147483647 : Int32)) % (3 : Int32))) - (1 : Int32))) (by decide) (by decide) (by decide) (by decide) rfl (lenOf own_pd0 rfl) rfl (Nat.le_of_eq rfl) at_250 (pc' := 253) rfl (fun T36 X36 e36 => ?_)
        refine g_if_eq X36 B at_253 (pcT := 260) (pcF := 256) (by decide) rfl rfl (fun c253_3 => ?_) (fun c253_3 => ?_)
        · exact absurd ((own_agr _).symm.trans c253_3) (by decide)
        · refine g_iconst X36 B at_256 (pc' := 257) rfl (v := (1 : Int32)) (by decide) ?_
          refine g_goto X36 B at_257 (pc' := 261) (by decide) rfl ?_
          exact g_retN X36 B (t := .boolean) rfl (by simp) at_261 (by decide) (by decide) ⟨congrArg (fun z => some (Value.int z)) (by decide : nar .boolean (1 : Int32) = 1), N32⟩
theorem own_pn_law : plainFor (⟨"com/example/unseen_nodes/unseennodes/XmlTextIsNameStartPinLaw", "law", "(III)Z"⟩ : MethodName) = true := plainFor_of_name (by first | (simp [plainName, overriddenIn]; done) | decide +kernel)
theorem own_ef_law (m : MethodId) (i0 : Int32) (i1 : Int32) (i2 : Int32) : entryFrame m #[(.int i0), (.int i1), (.int i2)] 5 = (mkF m 0 #[.val (.int i0), .val (.int i1), .val (.int i2), .unset, .unset] []) := by first | (simp [entryFrame, mkF, argsToLocals, Value.category]; done) | rfl
theorem own_rm (l : Launch) (Z : State) (a0 : Array Value) (hw : ∀ d ∈ tables_1, d.before a0 Z = true) (ws : List Jvm.Cond) (h : Heap) (n0 : Nat) (Zs : n0 ≤ h.size) (i0 : Int32) (i1 : Int32) (i2 : Int32)   :
    Met l Z x code maxLocals ret ws room_1 #[(.int i0), (.int i1), (.int i2)] h (fun v _ L => v = some (.int 1) ∧ Fr n0 L) :=
  met_of own_pn_law hw fun p e s m below meth c T X B eT => Go.top (own_ef_law m i0 i1 i2) (law_go X B eT n0 Zs i0 i1 i2  )
set_option maxRecDepth 65536 in
set_option maxHeartbeats 40000000 in
theorem comes_1 {Post : Tables → Env → Array Value → State → Outcome → State → Prop} (hpost : ∀ tb e args s v u, (limb_1_1.after args s (.returned v) u = true ∧ limb_1_2.after args s (.returned v) u = true ∧ True) → FrameEnd s (.returned v) u (Jvm.fieldLocs frame_1_writes args s ++ Jvm.arrayLocs frame_1_arrays args s ++ Jvm.staticLocs frame_1_statics s) 16 128 → Post tb e args s (.returned v) u) :
    ArmFor flags0 classFile x code maxLocals ret World_1 tables_1 room_1 Calls_1 rest_1 Pre_1 Post := by
  intro l hfl _ _ p e ha hc hk s m args below hf hA hF happ hP
  obtain ⟨hcalls, hrest, hpre⟩ := hP
  obtain ⟨-, -, -, hnamed, -, -, -, hat⟩ := (Spec.applies_iff hf).mp happ
  obtain ⟨hg, hn⟩ := and_e (Cond.before_iff.mp (show (Jvm.Cond.and given_1 narrow_1).before args s = true from hpre))
  obtain ⟨h1, g1⟩ := and_e hg
  obtain ⟨k0, g2⟩ := and_e g1
  obtain ⟨k1, g3⟩ := and_e g2
  obtain ⟨w0, w1, w2, rfl⟩ : ∃ w0 w1 w2 : Value, args = #[w0, w1, w2] := by
    have hs : args.size = 3 := by simpa [Cond.value, given_1] using h1
    obtain ⟨L⟩ := args
    match L, hs with
    | [w0, w1, w2], _ => exact ⟨w0, w1, w2, rfl⟩
  have hw := fun d (hd : d ∈ tables_1) => atoms_spec (ws := Jvm.Cond.code x code maxLocals ret :: tables_1) hat d (List.mem_cons_of_mem _ hd)
  obtain ⟨z0, q0⟩ := is_v k0
  obtain rfl : w0 = (.int z0) := Option.some.inj q0
  obtain ⟨z1, q1⟩ := is_v k1
  obtain rfl : w1 = (.int z1) := Option.some.inj q1
  obtain ⟨z2, q2⟩ := is_v g3
  obtain rfl : w2 = (.int z2) := Option.some.inj q2
  obtain ⟨n, o, h1, h2, h3, _, L, rfl, ⟨rfl, N⟩, hq⟩ := own_rm l s _ hw tables_1 s.heap s.heap.size (Nat.le_refl _) z0 z1 z2  p e ha hc hk s m _ below hf ((Spec.applies_iff_loose hf).mp happ).1 ⟨rfl, State.Warmed39.refl s, rfl⟩ trivial
  refine ⟨n, _, h1, h2, h3, hpost _ _ _ _ _ _ ⟨Cond.after_iff.mpr rfl, Cond.after_iff.mpr (eq_i res_at (Term.int_eval (1)) rfl), trivial⟩ ⟨hq.1, hq.2.1, (hq.2.2.sift fun y hy => Or.inr (N y hy)).mono (by decide) (by decide)⟩⟩
theorem main_1_1 : Claimed_1_1 := comes_1 fun _ _ _ _ _ _ h hF => ⟨h.1, hF⟩
theorem main_1_2 : Claimed_1_2 := comes_1 fun _ _ _ _ _ _ h hF => ⟨h.2.1, hF⟩
end Jvm.Pilot.@@N@@
namespace Jvm.Pilot.@@N@@
open Jvm Jvm.ClassFile Sem Op Lib Jvm.Free Jvm.Stand Jvm.Pilot.@@N@@.Jvm.D
/-! MADE BY PROGRAM (witnessworld.py) out of the Statement's table words and the real class files: 9 classes; the members and pool entries that the words name. The judged class is class 1, her method 3. -/
namespace start1
open Jvm.ClassFile
def u (s : String) : CpInfo := .utf8 (stringToUtf16 s)
/-- a pool by its gaps: so many unusable entries, then the entry; so many at the end -/
def gap : Nat → List CpInfo → List CpInfo
  | 0, r => r
  | n + 1, r => .unusable :: gap n r
def poolList (es : List (Nat × CpInfo)) (last : Nat) : List CpInfo := es.foldr (fun e r => gap e.1 (e.2 :: r)) (gap last [])
def pool (es : List (Nat × CpInfo)) (last : Nat) : Array CpInfo := ⟨poolList es last⟩
def fileOf (pool : Array CpInfo) (this : Nat) (attrs : Array Attribute := #[]) (ms : Array MethodInfo := #[]) (fl : Nat := 33) (sup : Nat := 0) (ifs : Array Nat := #[]) (fds : Array FieldInfo := #[]) : ClassFile where
  minorVersion := 0
  majorVersion := 65
  constantPool := pool
  accessFlags := fl
  thisClass := this
  superClass := sup
  interfaces := ifs
  fields := fds
  methods := ms
  attributes := attrs
def plain (name : String) (sup : Option ClassId) : Class where
  name := name
  kind := .ordinary
  loader := none
  accessFlags := 33
  super := sup
  interfaces := #[]
  cf := none
  fields := #[]
  methods := #[]
  instanceTypes := #[]
  staticTypes := #[]
  resolved := #[]
  callSites := []
  init := .initialized
  statics := none
  mirror := none

def pool0 : Array CpInfo := pool [(5, u "<init>"), (0, u "()V"), (1, .class_ 10), (1, u "java/lang/Object")] 113

def k0m0 : Method := { name := "<init>", desc := "()V", sig := { parameters := [], returnType := none }, accessFlags := 1, code := none }
/-- java/lang/Object -/
def k0 : Class := { plain "java/lang/Object" none with
  accessFlags := 33
  interfaces := #[]
  cf := some (fileOf pool0 8 #[] #[{ accessFlags := 1, nameIndex := 5, descriptorIndex := 6, attributes := #[] }] 33 0 #[] #[])
  fields := #[]
  methods := #[k0m0]
  instanceTypes := #[]
  staticTypes := #[]
  resolved := Array.replicate 124 none
  statics := none }

def pool1 : Array CpInfo := pool [(2, .class_ 4), (1, u "java/lang/Object"), (0, u "<init>"), (0, u "()V"), (0, .integer 983039), (0, .integer 55296), (0, .integer 63743), (0, .integer 64976), (0, .integer 65007), (0, .integer 65534), (0, .integer 65535), (0, .methodref 15 16), (0, .class_ 17), (0, .nameAndType 18 19), (0, u "com/example/unseen_nodes/unseennodes/XmlText"), (0, u "isNameStart"), (0, u "(I)Z"), (0, .methodref 21 22), (0, .class_ 23), (0, .nameAndType 24 19), (0, u "com/example/unseen_nodes/unseennodes/XmlTextIsNameStartPinLaw"), (0, u "reference"), (0, .integer 55295), (0, .integer 63744), (0, .integer 64975), (0, .integer 65008), (0, .integer 65533), (0, .integer 65536), (0, .integer 2147483647), (0, .methodref 21 33), (0, .nameAndType 34 19), (0, u "agrees"), (0, .integer 1048575), (3, u "law"), (0, u "(III)Z")] 4

def k1m0 : Method := { name := "<init>", desc := "()V", sig := { parameters := [], returnType := none }, accessFlags := 2, code := none }
def k1c1 : Code := { maxStack := 2, maxLocals := 1, code := method_2_code, exceptionTable := #[], attributes := #[] }
def k1m1 : Method := { name := "reference", desc := "(I)Z", sig := { parameters := [.int], returnType := some .boolean }, accessFlags := 10, code := some k1c1 }
def k1c2 : Code := { maxStack := 2, maxLocals := 1, code := method_3_code, exceptionTable := #[], attributes := #[] }
def k1m2 : Method := { name := "agrees", desc := "(I)Z", sig := { parameters := [.int], returnType := some .boolean }, accessFlags := 10, code := some k1c2 }
def k1c3 : Code := { maxStack := 4, maxLocals := 5, code := code, exceptionTable := #[], attributes := #[] }
def k1m3 : Method := { name := "law", desc := "(III)Z", sig := { parameters := [.int, .int, .int], returnType := some .boolean }, accessFlags := 9, code := some k1c3 }
/-- com/example/unseen_nodes/unseennodes/XmlTextIsNameStartPinLaw -/
def k1 : Class := { plain "com/example/unseen_nodes/unseennodes/XmlTextIsNameStartPinLaw" (some 0) with
  accessFlags := 49
  interfaces := #[]
  cf := some (fileOf pool1 21 #[] #[{ accessFlags := 2, nameIndex := 5, descriptorIndex := 6, attributes := #[] }, { accessFlags := 10, nameIndex := 24, descriptorIndex := 19, attributes := #[] }, { accessFlags := 10, nameIndex := 34, descriptorIndex := 19, attributes := #[] }, { accessFlags := 9, nameIndex := 39, descriptorIndex := 40, attributes := #[] }] 49 2 #[] #[])
  fields := #[]
  methods := #[k1m0, k1m1, k1m2, k1m3]
  instanceTypes := #[]
  staticTypes := #[]
  resolved := Array.replicate 45 none
  statics := none }

def pool2 : Array CpInfo := pool [(2, .class_ 4), (1, u "java/lang/Object"), (0, u "<init>"), (0, u "()V"), (9, .class_ 18), (1, u "com/example/unseen_nodes/unseennodes/XmlText"), (47, .class_ 68), (1, u "com/example/unseen_nodes/unseennodes/XmlText$Start"), (24, u "DECLARED_ENCODING"), (0, u "Ljava/util/regex/Pattern;"), (66, u "isNameStart"), (0, u "(I)Z"), (14, .integer 55295), (1, .integer 65533), (0, .integer 65536), (16, .integer 63744), (0, .integer 64975), (0, .integer 65008), (0, .integer 983039), (37, u "HEAD_LENGTH"), (0, u "I"), (2, u "EBCDIC"), (0, u "Ljava/lang/String;")] 47

def k2m0 : Method := { name := "<init>", desc := "()V", sig := { parameters := [], returnType := none }, accessFlags := 2, code := none }
def k2c1 : Code := { maxStack := 2, maxLocals := 1, code := prog_142_method_12_code, exceptionTable := #[], attributes := #[] }
def k2m1 : Method := { name := "isNameStart", desc := "(I)Z", sig := { parameters := [.int], returnType := some .boolean }, accessFlags := 8, code := some k2c1 }
/-- com/example/unseen_nodes/unseennodes/XmlText -/
def k2 : Class := { plain "com/example/unseen_nodes/unseennodes/XmlText" (some 0) with
  accessFlags := 32
  interfaces := #[]
  cf := some (fileOf pool2 16 #[.nestMembers #[66]] #[{ accessFlags := 2, nameIndex := 5, descriptorIndex := 6, attributes := #[] }, { accessFlags := 8, nameIndex := 161, descriptorIndex := 162, attributes := #[] }] 32 2 #[] #[{ accessFlags := 26, nameIndex := 238, descriptorIndex := 239, attributes := #[] }, { accessFlags := 26, nameIndex := 242, descriptorIndex := 243, attributes := #[] }, { accessFlags := 26, nameIndex := 93, descriptorIndex := 94, attributes := #[] }])
  fields := #[{ name := "HEAD_LENGTH", type := .int, accessFlags := 26, slot := 0, constantValue := 0 }, { name := "EBCDIC", type := (.object "java/lang/String"), accessFlags := 26, slot := 1, constantValue := 0 }, { name := "DECLARED_ENCODING", type := (.object "java/util/regex/Pattern"), accessFlags := 26, slot := 2, constantValue := 0 }]
  methods := #[k2m0, k2m1]
  instanceTypes := #[]
  staticTypes := #[.int, (.object "java/lang/String"), (.object "java/util/regex/Pattern")]
  resolved := Array.replicate 291 none
  statics := none }

def pool3 : Array CpInfo := pool [(1, u "java/lang/Cloneable"), (0, .class_ 1), (0, u "java/lang/Object"), (0, .class_ 3)] 3

/-- java/lang/Cloneable -/
def k3 : Class := { plain "java/lang/Cloneable" (some 0) with
  accessFlags := 1537
  interfaces := #[]
  cf := some (fileOf pool3 2 #[] #[] 1537 4 #[] #[])
  fields := #[]
  methods := #[]
  instanceTypes := #[]
  staticTypes := #[]
  resolved := Array.replicate 8 none
  statics := none }

def pool4 : Array CpInfo := pool [(1, u "java/io/Serializable"), (0, .class_ 1), (0, u "java/lang/Object"), (0, .class_ 3)] 3

/-- java/io/Serializable -/
def k4 : Class := { plain "java/io/Serializable" (some 0) with
  accessFlags := 1537
  interfaces := #[]
  cf := some (fileOf pool4 2 #[] #[] 1537 4 #[] #[])
  fields := #[]
  methods := #[]
  instanceTypes := #[]
  staticTypes := #[]
  resolved := Array.replicate 8 none
  statics := none }

/-- the primitive byte -/
def k5 : Class := { plain "byte" none with kind := .primitive 'B', accessFlags := 0x411 }
/-- [B -/
def k6 : Class := { plain "[B" (some 0) with kind := .array 5 .byte, interfaces := #[3, 4], accessFlags := 1041 }

/-- the primitive int -/
def k7 : Class := { plain "int" none with kind := .primitive 'I', accessFlags := 0x411 }
/-- [I -/
def k8 : Class := { plain "[I" (some 0) with kind := .array 7 .int, interfaces := #[3, 4], accessFlags := 1041 }

def heap : Heap := #[]
def classes : Array Class := #[k0, k1, k2, k3, k4, k5, k6, k7, k8]
def interned : List (Array UInt16 × Addr) := []
def slotsUsed : Nat := 0
def theMethod : MethodId := ⟨1, 3⟩
def args0 : Array Value := #[.int 5, .int 3, .int 7]
def aboutOver (below : List Frame) : State where
  vm := { classes := classes, interned := interned.toArray }
  heap := heap
  slotsUsed := slotsUsed
  threads := #[{ frames := .invoking theMethod args0 :: below }]
def below0 : List Frame := [.native { method := ⟨0, 0⟩, args := #[] }]
def about1 : State := aboutOver below0
def p0 : Program := .bare "" "" ""
def e0 : Env := launch0.env 0 0 0
theorem w_frames : about1.frames = Frame.invoking theMethod args0 :: below0 := rfl
set_option maxRecDepth 65536 in
theorem w_args : argsFit about1.vm theMethod args0 = true := by decide +kernel
set_option maxRecDepth 65536 in
theorem w_heap : heapFits about1 = true := by decide +kernel
set_option maxRecDepth 65536 in
theorem w_runnable : about1.curStatus? = some .runnable := by decide +kernel
set_option maxRecDepth 65536 in
theorem w_alone : about1.alone = true := by decide +kernel
set_option maxRecDepth 65536 in
theorem w_named : about1.methodNamed? x = some theMethod := by decide +kernel
set_option maxRecDepth 65536 in
theorem w_hears : about1.hears theMethod below0 = true := by decide +kernel
set_option maxRecDepth 65536 in
theorem w_ripe : about1.ripe theMethod args0 below0 = true := by decide +kernel
theorem w_running : about1.status = .running := rfl
set_option maxRecDepth 65536 in
theorem w_room : about1.hasRoom e0.platform room_1 = true :=
  launch0.hasRoom_least _ room_1 (by decide +kernel) (by decide +kernel) (by decide +kernel) (by decide +kernel) (by decide +kernel) (by decide +kernel)
theorem allAtoms_all (ts : List Jvm.Cond) (a : Array Jvm.Value) (st : Jvm.State) : (allAtoms ts).before a st = ts.all (fun c => c.before a st) := by
  induction ts with
  | nil => rfl
  | cons c t ih =>
    show (Jvm.Cond.and c (allAtoms t)).before a st = _
    rw [Jvm.Cond.before_and, ih, List.all_cons]
def words1 : List Jvm.Cond := Jvm.Cond.code x code maxLocals ret :: tables_1
/-- a 'code' word, met by the world's own term for the bytes: nothing is compared byte by byte -/
theorem code_word {y : MethodName} {bytes : ByteArray} {mx : Nat} {rt : Option FieldType} {a : Array Value} {s : State} {m : MethodId} {meth : Method} {c : Code} (h1 : s.methodNamed? y = some m) (h2 : s.vm.method? m = some meth) (h3 : meth.code = some c) (h4 : c.code = bytes)
    (h5 : (c.maxLocals == mx && c.exceptionTable.isEmpty && decide (c.maxStack ≤ mostOperands) && decide (meth.sig.returnType = rt) && !meth.locks && decide (parseMethodDescriptor y.desc = some meth.sig)) = true) : (Jvm.Cond.code y bytes mx rt).before a s = true := by
  simp only [Bool.and_eq_true, beq_iff_eq, Bool.not_eq_true', decide_eq_true_eq] at h5
  obtain ⟨⟨⟨⟨⟨g1, g2⟩, g3⟩, g4⟩, g5⟩, g6⟩ := h5
  simp [Cond.before, Cond.holds, Cond.value, h1, h2, h3, h4, g1, g2, g3, g4, g5, g6]
def isCode : Jvm.Cond → Bool
  | .code _ _ _ _ => true
  | _ => false
theorem all_split {L : List Jvm.Cond} {P : Jvm.Cond → Bool} (h1 : L.all (fun c => isCode c || P c) = true) (h2 : ∀ c ∈ L.filter isCode, P c = true) : L.all P = true := by
  refine List.all_eq_true.mpr fun c hc => ?_
  have h := List.all_eq_true.mp h1 c hc
  rcases Bool.eq_false_or_eq_true (isCode c) with hi | hi
  · exact h2 c (List.mem_filter.mpr ⟨hc, hi⟩)
  · simpa [hi] using h
set_option maxRecDepth 65536 in
theorem w_c0 : (Jvm.Cond.code x code maxLocals ret).before args0 about1 = true := code_word (m := ⟨1, 3⟩) (meth := k1m3) (c := k1c3) (by decide +kernel) rfl rfl rfl (by decide +kernel)
set_option maxRecDepth 65536 in
theorem w_c1 : (Jvm.Cond.code ({ cls := "com/example/unseen_nodes/unseennodes/XmlTextIsNameStartPinLaw", name := "agrees", desc := "(I)Z" } : Jvm.MethodName) method_3_code (1 : Nat) (Option.some Jvm.ClassFile.FieldType.boolean)).before args0 about1 = true := code_word (m := ⟨1, 2⟩) (meth := k1m2) (c := k1c2) (by decide +kernel) rfl rfl rfl (by decide +kernel)
set_option maxRecDepth 65536 in
theorem w_c2 : (Jvm.Cond.code ({ cls := "com/example/unseen_nodes/unseennodes/XmlText", name := "isNameStart", desc := "(I)Z" } : Jvm.MethodName) prog_142_method_12_code (1 : Nat) (Option.some Jvm.ClassFile.FieldType.boolean)).before args0 about1 = true := code_word (m := ⟨2, 1⟩) (meth := k2m1) (c := k2c1) (by decide +kernel) rfl rfl rfl (by decide +kernel)
set_option maxRecDepth 65536 in
theorem w_c3 : (Jvm.Cond.code ({ cls := "com/example/unseen_nodes/unseennodes/XmlTextIsNameStartPinLaw", name := "reference", desc := "(I)Z" } : Jvm.MethodName) method_2_code (1 : Nat) (Option.some Jvm.ClassFile.FieldType.boolean)).before args0 about1 = true := code_word (m := ⟨1, 1⟩) (meth := k1m1) (c := k1c1) (by decide +kernel) rfl rfl rfl (by decide +kernel)
def codes1 : List Jvm.Cond := [Jvm.Cond.code x code maxLocals ret, Jvm.Cond.code ({ cls := "com/example/unseen_nodes/unseennodes/XmlTextIsNameStartPinLaw", name := "agrees", desc := "(I)Z" } : Jvm.MethodName) method_3_code (1 : Nat) (Option.some Jvm.ClassFile.FieldType.boolean), Jvm.Cond.code ({ cls := "com/example/unseen_nodes/unseennodes/XmlText", name := "isNameStart", desc := "(I)Z" } : Jvm.MethodName) prog_142_method_12_code (1 : Nat) (Option.some Jvm.ClassFile.FieldType.boolean), Jvm.Cond.code ({ cls := "com/example/unseen_nodes/unseennodes/XmlTextIsNameStartPinLaw", name := "reference", desc := "(I)Z" } : Jvm.MethodName) method_2_code (1 : Nat) (Option.some Jvm.ClassFile.FieldType.boolean)]
set_option maxRecDepth 65536 in
theorem codes_eq : words1.filter isCode = codes1 := rfl
theorem w_codes : ∀ c ∈ words1.filter isCode, c.before args0 about1 = true := by
  rw [codes_eq]
  intro c hc
  simp only [codes1, List.mem_cons, List.not_mem_nil, or_false] at hc
  rcases hc with rfl | rfl | rfl | rfl
  · exact w_c0
  · exact w_c1
  · exact w_c2
  · exact w_c3
set_option maxRecDepth 65536 in
theorem w_t1 : (words1.take 24).all (fun c => isCode c || c.before args0 about1) = true := by decide +kernel
set_option maxRecDepth 65536 in
theorem w_t2 : (words1.drop 24).all (fun c => isCode c || c.before args0 about1) = true := by decide +kernel
theorem w_tables : (allAtoms (Jvm.Cond.code x code maxLocals ret :: tables_1)).before args0 about1 = true := by
  rw [allAtoms_all]
  show words1.all (fun c => c.before args0 about1) = true
  refine all_split ?_ w_codes
  rw [← List.take_append_drop 24 words1, List.all_append, w_t1, w_t2]
  rfl
set_option maxRecDepth 65536 in
theorem w_case : (Jvm.Cond.and given_1 narrow_1).before args0 about1 = true := by decide +kernel
theorem w_applies : (headSpec (Jvm.Cond.code x code maxLocals ret :: tables_1) room_1).applies x e0.platform about1 = true :=
  (Spec.applies_iff w_frames).mpr ⟨w_running, w_runnable, w_alone, w_named, w_hears, w_ripe, w_room, w_tables⟩
theorem atStart : AtStart classFile x code maxLocals ret World_1 tables_1 room_1 Calls_1 rest_1 Pre_1 launch0 p0 e0 about1 theMethod args0 below0 :=
  ⟨lists_1, trivial, launch0.admits_env _ _ _, launch0.least_env, fairChoices_fair.cas, fairChoices_fair.clock, w_frames, w_args, w_heap, w_applies, trivial, trivial, w_case⟩
end start1
theorem witness_1 : WitnessClaimed_1 := ⟨start1.p0, start1.e0, start1.about1, start1.theMethod, start1.args0, start1.below0, start1.atStart⟩
end Jvm.Pilot.@@N@@

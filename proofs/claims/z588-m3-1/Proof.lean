import JvmDerived
import JvmDerived.Pilot.@@N@@Statement
import JvmDerived.Pilot.@@N@@Code
set_option linter.unusedVariables false
set_option linter.unusedSimpArgs false
namespace Jvm.Pilot.@@N@@
open Jvm Jvm.ClassFile Sem Op Lib Jvm.Free Jvm.Stand Jvm.LawKit Jvm.RoadKit Bundle Jvm.Pilot.@@N@@.Jvm.D
/-! own frame: 'Go': from here the run ends as Q says -/
def Go (p : Program) (e : Env) (below : List Frame) (s : State) (nc ns : Nat) (Q : Option Value → Heap → List Loc → Prop) (u : State) : Prop :=
  ∃ s₂ o, Steps p.tables e below u s₂ ∧ s₂.status = .running ∧ Ended s₂ below o ∧ ∃ v L, o = .returned v ∧ Q v s₂.heap L ∧ FrameEnd s o s₂ L nc ns
/-- what a body's walk stands on -/
def Bdy (p : Program) (s : State) (m : MethodId) (meth : Method) (c : Code) (Z : State) (a0 : Array Value) (own nm : String) (bytes : ByteArray) (maxL : Nat) (rt : Option FieldType) (tabs : List Jvm.Cond) : Prop :=
  p.tables.exec = Jvm.exec ∧ Z.Warmed39 s.vm ∧ (∀ d ∈ tabs, d.before a0 Z = true) ∧ c.code = bytes ∧ c.maxLocals = maxL ∧ s.vm.findClass own = some m.cls ∧ meth.sig.returnType = rt ∧ meth.locks = false ∧ meth.name = nm
def PQ (w : Option Value) (h : Heap) (locs : List Loc) : Option Value → Heap → List Loc → Prop := fun v h' L => v = w ∧ h' = h ∧ L = locs
section GoKit
variable {p : Program} {l : Launch} {e : Env} {R : Room} {s : State} {m : MethodId} {args : Array Value} {below : List Frame} {meth : Method} {c : Code} {T : State} {locs : List Loc} {cells slots : Nat} {Z : State} {a0 : Array Value} {h : Heap} {nc ns : Nat} {Q Q' : Option Value → Heap → List Loc → Prop} {pc pc' : Nat} {Ls Ls' : Array Slot} {St : List Value} {own nm : String} {bytes : ByteArray} {maxL : Nat} {rt : Option FieldType} {tabs : List Jvm.Cond}
theorem Go.step {u u' : State} (st : ∀ t, Steps p.tables e below u' t → Steps p.tables e below u t) (k : Go p e below s nc ns Q u') : Go p e below s nc ns Q u := by
  obtain ⟨s₂, o, h1, h2⟩ := k
  exact ⟨s₂, o, st _ h1, h2⟩
theorem Go.mono {u : State} (q : ∀ v h L, Q v h L → Q' v h L) (k : Go p e below s nc ns Q u) : Go p e below s nc ns Q' u := by
  obtain ⟨s₂, o, h1, h2, h3, v, L, h4, h5, h6⟩ := k
  exact ⟨s₂, o, h1, h2, h3, v, L, h4, q _ _ _ h5, h6⟩
theorem Go.wid {u : State} {nc' ns' : Nat} (q1 : nc ≤ nc') (q2 : ns ≤ ns') (k : Go p e below s nc ns Q u) : Go p e below s nc' ns' Q u := by
  obtain ⟨s₂, o, h1, h2, h3, v, L, h4, h5, h6, h7, h8⟩ := k
  exact ⟨s₂, o, h1, h2, h3, v, L, h4, h5, h6, h7, h8.mono q1 q2⟩
theorem Go.cw {u : State} {w w' : Option Value} (q : w = w') (k : Go p e below s nc ns (PQ w h locs) u) : Go p e below s nc ns (PQ w' h locs) u := q ▸ k
theorem Go.top {g g' : JFrame} (q : g = g') (k : Go p e below s nc ns Q (T.setTop g')) : Go p e below s nc ns Q (T.setTop g) := q ▸ k
theorem Bdy.w (B : Bdy p s m meth c Z a0 own nm bytes maxL rt tabs) {d : Jvm.Cond} (i : Nat) (q : tabs[i]? = some d) : d.before a0 Z = true := B.2.2.1 _ (List.mem_of_getElem? q)
theorem Bdy.d (B : Bdy p s m meth c Z a0 own nm bytes maxL rt tabs) {r : Except ClassFile.DecodeError (ClassFile.Instr × Nat)} (q : decode bytes pc = r) : decode c.code pc = r := hb B.2.2.2.1 q
theorem Bdy.x (B : Bdy p s m meth c Z a0 own nm bytes maxL rt tabs) : p.tables.exec = Jvm.exec := B.1
theorem Bdy.z (B : Bdy p s m meth c Z a0 own nm bytes maxL rt tabs) : Z.Warmed39 s.vm := B.2.1
theorem Bdy.ml (B : Bdy p s m meth c Z a0 own nm bytes maxL rt tabs) : c.maxLocals = maxL := B.2.2.2.2.1
theorem Bdy.o (B : Bdy p s m meth c Z a0 own nm bytes maxL rt tabs) : s.vm.findClass own = some m.cls := B.2.2.2.2.2.1
theorem Bdy.r (B : Bdy p s m meth c Z a0 own nm bytes maxL rt tabs) : meth.sig.returnType = rt := B.2.2.2.2.2.2.1
theorem Bdy.lk (B : Bdy p s m meth c Z a0 own nm bytes maxL rt tabs) : meth.locks = false := B.2.2.2.2.2.2.2.1
theorem Bdy.n (B : Bdy p s m meth c Z a0 own nm bytes maxL rt tabs) : meth.name = nm := B.2.2.2.2.2.2.2.2
theorem g_iloadN (X : Stand p l e R s m args below meth c T locs cells slots) (B : Bdy p s m meth c Z a0 own nm bytes maxL rt tabs) {k : Fin 4} {v : Int32} (hd : decode bytes pc = .ok (.iload_n k, 1)) (hp : pc + 1 = pc') (hl : Ls[k.val]? = some (.val (.int v))) (K : Go p e below s nc ns Q (T.setTop (mkF m pc' Ls (.int v :: St)))) : Go p e below s nc ns Q (T.setTop (mkF m pc Ls St)) := by
  subst hp; exact Go.step (fun t q => XS.iloadN X.here B.x (g := mkF m pc Ls St) rfl (B.d hd) hl q) K
theorem g_iload (X : Stand p l e R s m args below meth c T locs cells slots) (B : Bdy p s m meth c Z a0 own nm bytes maxL rt tabs) {k : Nat} {v : Int32} (hd : decode bytes pc = .ok (.iload k, 2)) (hp : pc + 2 = pc') (hl : Ls[k]? = some (.val (.int v))) (K : Go p e below s nc ns Q (T.setTop (mkF m pc' Ls (.int v :: St)))) : Go p e below s nc ns Q (T.setTop (mkF m pc Ls St)) := by
  subst hp; exact Go.step (fun t q => XS.iload X.here B.x (g := mkF m pc Ls St) rfl (B.d hd) hl q) K
theorem g_lloadN (X : Stand p l e R s m args below meth c T locs cells slots) (B : Bdy p s m meth c Z a0 own nm bytes maxL rt tabs) {k : Fin 4} {v : Int64} (hd : decode bytes pc = .ok (.lload_n k, 1)) (hp : pc + 1 = pc') (hl : Ls[k.val]? = some (.val (.long v))) (K : Go p e below s nc ns Q (T.setTop (mkF m pc' Ls (.long v :: St)))) : Go p e below s nc ns Q (T.setTop (mkF m pc Ls St)) := by
  subst hp; exact Go.step (fun t q => XS.lloadN X.here B.x (g := mkF m pc Ls St) rfl (B.d hd) hl q) K
theorem g_lload (X : Stand p l e R s m args below meth c T locs cells slots) (B : Bdy p s m meth c Z a0 own nm bytes maxL rt tabs) {k : Nat} {v : Int64} (hd : decode bytes pc = .ok (.lload k, 2)) (hp : pc + 2 = pc') (hl : Ls[k]? = some (.val (.long v))) (K : Go p e below s nc ns Q (T.setTop (mkF m pc' Ls (.long v :: St)))) : Go p e below s nc ns Q (T.setTop (mkF m pc Ls St)) := by
  subst hp; exact Go.step (fun t q => XS.lload X.here B.x (g := mkF m pc Ls St) rfl (B.d hd) hl q) K
theorem g_aloadN (X : Stand p l e R s m args below meth c T locs cells slots) (B : Bdy p s m meth c Z a0 own nm bytes maxL rt tabs) {k : Fin 4} {v : Value} (hd : decode bytes pc = .ok (.aload_n k, 1)) (hp : pc + 1 = pc') (hl : Ls[k.val]? = some (.val v)) (hv : v.isRef = true) (K : Go p e below s nc ns Q (T.setTop (mkF m pc' Ls (v :: St)))) : Go p e below s nc ns Q (T.setTop (mkF m pc Ls St)) := by
  subst hp; exact Go.step (fun t q => XS.aloadN X.here B.x (g := mkF m pc Ls St) rfl (B.d hd) hl hv q) K
theorem g_aload (X : Stand p l e R s m args below meth c T locs cells slots) (B : Bdy p s m meth c Z a0 own nm bytes maxL rt tabs) {k : Nat} {v : Value} (hd : decode bytes pc = .ok (.aload k, 2)) (hp : pc + 2 = pc') (hl : Ls[k]? = some (.val v)) (hv : v.isRef = true) (K : Go p e below s nc ns Q (T.setTop (mkF m pc' Ls (v :: St)))) : Go p e below s nc ns Q (T.setTop (mkF m pc Ls St)) := by
  subst hp; exact Go.step (fun t q => XS.aload X.here B.x (g := mkF m pc Ls St) rfl (B.d hd) hl hv q) K
theorem g_istoreN (X : Stand p l e R s m args below meth c T locs cells slots) (B : Bdy p s m meth c Z a0 own nm bytes maxL rt tabs) {k : Fin 4} {v : Int32} (hd : decode bytes pc = .ok (.istore_n k, 1)) (hp : pc + 1 = pc') (hl : storeLocals Ls k.val (.int v) = some Ls') (K : Go p e below s nc ns Q (T.setTop (mkF m pc' Ls' St))) : Go p e below s nc ns Q (T.setTop (mkF m pc Ls (.int v :: St))) := by
  subst hp; exact Go.step (fun t q => XS.istoreN X.here B.x (g := mkF m pc Ls (.int v :: St)) rfl (B.d hd) rfl hl q) K
theorem g_istore (X : Stand p l e R s m args below meth c T locs cells slots) (B : Bdy p s m meth c Z a0 own nm bytes maxL rt tabs) {k : Nat} {v : Int32} (hd : decode bytes pc = .ok (.istore k, 2)) (hp : pc + 2 = pc') (hl : storeLocals Ls k (.int v) = some Ls') (K : Go p e below s nc ns Q (T.setTop (mkF m pc' Ls' St))) : Go p e below s nc ns Q (T.setTop (mkF m pc Ls (.int v :: St))) := by
  subst hp; exact Go.step (fun t q => XS.istore X.here B.x (g := mkF m pc Ls (.int v :: St)) rfl (B.d hd) rfl hl q) K
theorem g_lstoreN (X : Stand p l e R s m args below meth c T locs cells slots) (B : Bdy p s m meth c Z a0 own nm bytes maxL rt tabs) {k : Fin 4} {v : Int64} (hd : decode bytes pc = .ok (.lstore_n k, 1)) (hp : pc + 1 = pc') (hl : storeLocals Ls k.val (.long v) = some Ls') (K : Go p e below s nc ns Q (T.setTop (mkF m pc' Ls' St))) : Go p e below s nc ns Q (T.setTop (mkF m pc Ls (.long v :: St))) := by
  subst hp; exact Go.step (fun t q => XS.lstoreN X.here B.x (g := mkF m pc Ls (.long v :: St)) rfl (B.d hd) rfl hl q) K
theorem g_lstore (X : Stand p l e R s m args below meth c T locs cells slots) (B : Bdy p s m meth c Z a0 own nm bytes maxL rt tabs) {k : Nat} {v : Int64} (hd : decode bytes pc = .ok (.lstore k, 2)) (hp : pc + 2 = pc') (hl : storeLocals Ls k (.long v) = some Ls') (K : Go p e below s nc ns Q (T.setTop (mkF m pc' Ls' St))) : Go p e below s nc ns Q (T.setTop (mkF m pc Ls (.long v :: St))) := by
  subst hp; exact Go.step (fun t q => XS.lstore X.here B.x (g := mkF m pc Ls (.long v :: St)) rfl (B.d hd) rfl hl q) K
theorem g_astoreN (X : Stand p l e R s m args below meth c T locs cells slots) (B : Bdy p s m meth c Z a0 own nm bytes maxL rt tabs) {k : Fin 4} {v : Value} (hd : decode bytes pc = .ok (.astore_n k, 1)) (hp : pc + 1 = pc') (hv : v.isRef = true) (hl : storeLocals Ls k.val v = some Ls') (K : Go p e below s nc ns Q (T.setTop (mkF m pc' Ls' St))) : Go p e below s nc ns Q (T.setTop (mkF m pc Ls (v :: St))) := by
  subst hp; exact Go.step (fun t q => XS.astoreN X.here B.x (g := mkF m pc Ls (v :: St)) rfl (B.d hd) rfl hv hl q) K
theorem g_astore (X : Stand p l e R s m args below meth c T locs cells slots) (B : Bdy p s m meth c Z a0 own nm bytes maxL rt tabs) {k : Nat} {v : Value} (hd : decode bytes pc = .ok (.astore k, 2)) (hp : pc + 2 = pc') (hv : v.isRef = true) (hl : storeLocals Ls k v = some Ls') (K : Go p e below s nc ns Q (T.setTop (mkF m pc' Ls' St))) : Go p e below s nc ns Q (T.setTop (mkF m pc Ls (v :: St))) := by
  subst hp; exact Go.step (fun t q => XS.astore X.here B.x (g := mkF m pc Ls (v :: St)) rfl (B.d hd) rfl hv hl q) K
theorem g_iinc (X : Stand p l e R s m args below meth c T locs cells slots) (B : Bdy p s m meth c Z a0 own nm bytes maxL rt tabs) {k : Nat} {i : Int} {v : Int32} (hd : decode bytes pc = .ok (.iinc k i, 3)) (hp : pc + 3 = pc') (hl : Ls[k]? = some (.val (.int v))) (hs : storeLocals Ls k (.int (v + Int32.ofInt i)) = some Ls') (K : Go p e below s nc ns Q (T.setTop (mkF m pc' Ls' St))) : Go p e below s nc ns Q (T.setTop (mkF m pc Ls St)) := by
  subst hp; exact Go.step (fun t q => XS.iinc X.here B.x (g := mkF m pc Ls St) rfl (B.d hd) hl hs q) K
theorem g_iconst (X : Stand p l e R s m args below meth c T locs cells slots) (B : Bdy p s m meth c Z a0 own nm bytes maxL rt tabs) {i : Int} {v : Int32} (hd : decode bytes pc = .ok (.iconst i, 1)) (hp : pc + 1 = pc') (hv : Int32.ofInt i = v) (K : Go p e below s nc ns Q (T.setTop (mkF m pc' Ls (.int v :: St)))) : Go p e below s nc ns Q (T.setTop (mkF m pc Ls St)) := by
  subst hp hv; exact Go.step (fun t q => XS.iconst X.here B.x (g := mkF m pc Ls St) rfl (B.d hd) q) K
theorem g_bipush (X : Stand p l e R s m args below meth c T locs cells slots) (B : Bdy p s m meth c Z a0 own nm bytes maxL rt tabs) {i : Int} {v : Int32} (hd : decode bytes pc = .ok (.bipush i, 2)) (hp : pc + 2 = pc') (hv : (Int8.ofInt i).toInt32 = v) (K : Go p e below s nc ns Q (T.setTop (mkF m pc' Ls (.int v :: St)))) : Go p e below s nc ns Q (T.setTop (mkF m pc Ls St)) := by
  subst hp hv; exact Go.step (fun t q => XS.bipush X.here B.x (g := mkF m pc Ls St) rfl (B.d hd) q) K
theorem g_sipush (X : Stand p l e R s m args below meth c T locs cells slots) (B : Bdy p s m meth c Z a0 own nm bytes maxL rt tabs) {i : Int} {v : Int32} (hd : decode bytes pc = .ok (.sipush i, 3)) (hp : pc + 3 = pc') (hv : (Int16.ofInt i).toInt32 = v) (K : Go p e below s nc ns Q (T.setTop (mkF m pc' Ls (.int v :: St)))) : Go p e below s nc ns Q (T.setTop (mkF m pc Ls St)) := by
  subst hp hv; exact Go.step (fun t q => XS.sipush X.here B.x (g := mkF m pc Ls St) rfl (B.d hd) q) K
theorem g_lconst (X : Stand p l e R s m args below meth c T locs cells slots) (B : Bdy p s m meth c Z a0 own nm bytes maxL rt tabs) {k : Fin 2} {v : Int64} (hd : decode bytes pc = .ok (.lconst k, 1)) (hp : pc + 1 = pc') (hv : Int64.ofNat k = v) (K : Go p e below s nc ns Q (T.setTop (mkF m pc' Ls (.long v :: St)))) : Go p e below s nc ns Q (T.setTop (mkF m pc Ls St)) := by
  subst hp hv; exact Go.step (fun t q => XS.lconst X.here B.x (g := mkF m pc Ls St) rfl (B.d hd) q) K
theorem g_null (X : Stand p l e R s m args below meth c T locs cells slots) (B : Bdy p s m meth c Z a0 own nm bytes maxL rt tabs) (hd : decode bytes pc = .ok (.aconst_null, 1)) (hp : pc + 1 = pc') (K : Go p e below s nc ns Q (T.setTop (mkF m pc' Ls (.null :: St)))) : Go p e below s nc ns Q (T.setTop (mkF m pc Ls St)) := by
  subst hp; exact Go.step (fun t q => XS.aconstNull X.here B.x (g := mkF m pc Ls St) rfl (B.d hd) q) K
theorem g_ldc (X : Stand p l e R s m args below meth c T locs cells slots) (B : Bdy p s m meth c Z a0 own nm bytes maxL rt tabs) {i : Nat} {v : Int32} (w : (Jvm.Cond.constant own i v).before a0 Z = true) (hd : decode bytes pc = .ok (.ldc i, 2)) (hp : pc + 2 = pc') (K : Go p e below s nc ns Q (T.setTop (mkF m pc' Ls (.int v :: St)))) : Go p e below s nc ns Q (T.setTop (mkF m pc Ls St)) := by
  subst hp; exact Go.step (fun t q => X.ldcInt B.x B.o (mvT B.z w) (g := mkF m pc Ls St) rfl (B.d hd) t q) K
theorem g_ldcw (X : Stand p l e R s m args below meth c T locs cells slots) (B : Bdy p s m meth c Z a0 own nm bytes maxL rt tabs) {i : Nat} {v : Int32} (w : (Jvm.Cond.constant own i v).before a0 Z = true) (hd : decode bytes pc = .ok (.ldc_w i, 3)) (hp : pc + 3 = pc') (K : Go p e below s nc ns Q (T.setTop (mkF m pc' Ls (.int v :: St)))) : Go p e below s nc ns Q (T.setTop (mkF m pc Ls St)) := by
  subst hp; exact Go.step (fun t q => X.ldcwInt B.x B.o (mvT B.z w) (g := mkF m pc Ls St) rfl (B.d hd) t q) K
theorem g_ldc2 (X : Stand p l e R s m args below meth c T locs cells slots) (B : Bdy p s m meth c Z a0 own nm bytes maxL rt tabs) {i : Nat} {v : Int64} (w : (Jvm.Cond.constantLong own i v).before a0 Z = true) (hd : decode bytes pc = .ok (.ldc2_w i, 3)) (hp : pc + 3 = pc') (K : Go p e below s nc ns Q (T.setTop (mkF m pc' Ls (.long v :: St)))) : Go p e below s nc ns Q (T.setTop (mkF m pc Ls St)) := by
  subst hp; exact Go.step (fun t q => X.ldc2Long B.x B.o (mvT B.z w) (g := mkF m pc Ls St) rfl (B.d hd) t q) K
theorem g_iadd (X : Stand p l e R s m args below meth c T locs cells slots) (B : Bdy p s m meth c Z a0 own nm bytes maxL rt tabs) {x y : Int32} (hd : decode bytes pc = .ok (.iadd, 1)) (hp : pc + 1 = pc') (K : Go p e below s nc ns Q (T.setTop (mkF m pc' Ls (.int (x + y) :: St)))) : Go p e below s nc ns Q (T.setTop (mkF m pc Ls (.int y :: .int x :: St))) := by
  subst hp; exact Go.step (fun t q => XS.iadd X.here B.x (g := mkF m pc Ls (.int y :: .int x :: St)) rfl (B.d hd) rfl q) K
theorem g_isub (X : Stand p l e R s m args below meth c T locs cells slots) (B : Bdy p s m meth c Z a0 own nm bytes maxL rt tabs) {x y : Int32} (hd : decode bytes pc = .ok (.isub, 1)) (hp : pc + 1 = pc') (K : Go p e below s nc ns Q (T.setTop (mkF m pc' Ls (.int (x - y) :: St)))) : Go p e below s nc ns Q (T.setTop (mkF m pc Ls (.int y :: .int x :: St))) := by
  subst hp; exact Go.step (fun t q => XS.isub X.here B.x (g := mkF m pc Ls (.int y :: .int x :: St)) rfl (B.d hd) rfl q) K
theorem g_imul (X : Stand p l e R s m args below meth c T locs cells slots) (B : Bdy p s m meth c Z a0 own nm bytes maxL rt tabs) {x y : Int32} (hd : decode bytes pc = .ok (.imul, 1)) (hp : pc + 1 = pc') (K : Go p e below s nc ns Q (T.setTop (mkF m pc' Ls (.int (x * y) :: St)))) : Go p e below s nc ns Q (T.setTop (mkF m pc Ls (.int y :: .int x :: St))) := by
  subst hp; exact Go.step (fun t q => XS.imul X.here B.x (g := mkF m pc Ls (.int y :: .int x :: St)) rfl (B.d hd) rfl q) K
theorem g_iand (X : Stand p l e R s m args below meth c T locs cells slots) (B : Bdy p s m meth c Z a0 own nm bytes maxL rt tabs) {x y : Int32} (hd : decode bytes pc = .ok (.iand, 1)) (hp : pc + 1 = pc') (K : Go p e below s nc ns Q (T.setTop (mkF m pc' Ls (.int (x &&& y) :: St)))) : Go p e below s nc ns Q (T.setTop (mkF m pc Ls (.int y :: .int x :: St))) := by
  subst hp; exact Go.step (fun t q => XS.iand X.here B.x (g := mkF m pc Ls (.int y :: .int x :: St)) rfl (B.d hd) rfl q) K
theorem g_ior (X : Stand p l e R s m args below meth c T locs cells slots) (B : Bdy p s m meth c Z a0 own nm bytes maxL rt tabs) {x y : Int32} (hd : decode bytes pc = .ok (.ior, 1)) (hp : pc + 1 = pc') (K : Go p e below s nc ns Q (T.setTop (mkF m pc' Ls (.int (x ||| y) :: St)))) : Go p e below s nc ns Q (T.setTop (mkF m pc Ls (.int y :: .int x :: St))) := by
  subst hp; exact Go.step (fun t q => XS.ior X.here B.x (g := mkF m pc Ls (.int y :: .int x :: St)) rfl (B.d hd) rfl q) K
theorem g_ixor (X : Stand p l e R s m args below meth c T locs cells slots) (B : Bdy p s m meth c Z a0 own nm bytes maxL rt tabs) {x y : Int32} (hd : decode bytes pc = .ok (.ixor, 1)) (hp : pc + 1 = pc') (K : Go p e below s nc ns Q (T.setTop (mkF m pc' Ls (.int (x ^^^ y) :: St)))) : Go p e below s nc ns Q (T.setTop (mkF m pc Ls (.int y :: .int x :: St))) := by
  subst hp; exact Go.step (fun t q => XS.ixor X.here B.x (g := mkF m pc Ls (.int y :: .int x :: St)) rfl (B.d hd) rfl q) K
theorem g_ishl (X : Stand p l e R s m args below meth c T locs cells slots) (B : Bdy p s m meth c Z a0 own nm bytes maxL rt tabs) {x z : Int32} {y : Int32} (hd : decode bytes pc = .ok (.ishl, 1)) (hp : pc + 1 = pc') (hz : x <<< (y &&& 31) = z) (K : Go p e below s nc ns Q (T.setTop (mkF m pc' Ls (.int z :: St)))) : Go p e below s nc ns Q (T.setTop (mkF m pc Ls (.int y :: .int x :: St))) := by
  subst hp hz; exact Go.step (fun t q => XS.ishl X.here B.x (g := mkF m pc Ls (.int y :: .int x :: St)) rfl (B.d hd) rfl q) K
theorem g_ishr (X : Stand p l e R s m args below meth c T locs cells slots) (B : Bdy p s m meth c Z a0 own nm bytes maxL rt tabs) {x z : Int32} {y : Int32} (hd : decode bytes pc = .ok (.ishr, 1)) (hp : pc + 1 = pc') (hz : x >>> (y &&& 31) = z) (K : Go p e below s nc ns Q (T.setTop (mkF m pc' Ls (.int z :: St)))) : Go p e below s nc ns Q (T.setTop (mkF m pc Ls (.int y :: .int x :: St))) := by
  subst hp hz; exact Go.step (fun t q => XS.ishr X.here B.x (g := mkF m pc Ls (.int y :: .int x :: St)) rfl (B.d hd) rfl q) K
theorem g_iushr (X : Stand p l e R s m args below meth c T locs cells slots) (B : Bdy p s m meth c Z a0 own nm bytes maxL rt tabs) {x z : Int32} {y : Int32} (hd : decode bytes pc = .ok (.iushr, 1)) (hp : pc + 1 = pc') (hz : (x.toUInt32 >>> (y &&& 31).toUInt32).toInt32 = z) (K : Go p e below s nc ns Q (T.setTop (mkF m pc' Ls (.int z :: St)))) : Go p e below s nc ns Q (T.setTop (mkF m pc Ls (.int y :: .int x :: St))) := by
  subst hp hz; exact Go.step (fun t q => XS.iushr X.here B.x (g := mkF m pc Ls (.int y :: .int x :: St)) rfl (B.d hd) rfl q) K
theorem g_ladd (X : Stand p l e R s m args below meth c T locs cells slots) (B : Bdy p s m meth c Z a0 own nm bytes maxL rt tabs) {x y : Int64} (hd : decode bytes pc = .ok (.ladd, 1)) (hp : pc + 1 = pc') (K : Go p e below s nc ns Q (T.setTop (mkF m pc' Ls (.long (x + y) :: St)))) : Go p e below s nc ns Q (T.setTop (mkF m pc Ls (.long y :: .long x :: St))) := by
  subst hp; exact Go.step (fun t q => XS.ladd X.here B.x (g := mkF m pc Ls (.long y :: .long x :: St)) rfl (B.d hd) rfl q) K
theorem g_lsub (X : Stand p l e R s m args below meth c T locs cells slots) (B : Bdy p s m meth c Z a0 own nm bytes maxL rt tabs) {x y : Int64} (hd : decode bytes pc = .ok (.lsub, 1)) (hp : pc + 1 = pc') (K : Go p e below s nc ns Q (T.setTop (mkF m pc' Ls (.long (x - y) :: St)))) : Go p e below s nc ns Q (T.setTop (mkF m pc Ls (.long y :: .long x :: St))) := by
  subst hp; exact Go.step (fun t q => XS.lsub X.here B.x (g := mkF m pc Ls (.long y :: .long x :: St)) rfl (B.d hd) rfl q) K
theorem g_lmul (X : Stand p l e R s m args below meth c T locs cells slots) (B : Bdy p s m meth c Z a0 own nm bytes maxL rt tabs) {x y : Int64} (hd : decode bytes pc = .ok (.lmul, 1)) (hp : pc + 1 = pc') (K : Go p e below s nc ns Q (T.setTop (mkF m pc' Ls (.long (x * y) :: St)))) : Go p e below s nc ns Q (T.setTop (mkF m pc Ls (.long y :: .long x :: St))) := by
  subst hp; exact Go.step (fun t q => XS.lmul X.here B.x (g := mkF m pc Ls (.long y :: .long x :: St)) rfl (B.d hd) rfl q) K
theorem g_land (X : Stand p l e R s m args below meth c T locs cells slots) (B : Bdy p s m meth c Z a0 own nm bytes maxL rt tabs) {x y : Int64} (hd : decode bytes pc = .ok (.land, 1)) (hp : pc + 1 = pc') (K : Go p e below s nc ns Q (T.setTop (mkF m pc' Ls (.long (x &&& y) :: St)))) : Go p e below s nc ns Q (T.setTop (mkF m pc Ls (.long y :: .long x :: St))) := by
  subst hp; exact Go.step (fun t q => XS.land X.here B.x (g := mkF m pc Ls (.long y :: .long x :: St)) rfl (B.d hd) rfl q) K
theorem g_lor (X : Stand p l e R s m args below meth c T locs cells slots) (B : Bdy p s m meth c Z a0 own nm bytes maxL rt tabs) {x y : Int64} (hd : decode bytes pc = .ok (.lor, 1)) (hp : pc + 1 = pc') (K : Go p e below s nc ns Q (T.setTop (mkF m pc' Ls (.long (x ||| y) :: St)))) : Go p e below s nc ns Q (T.setTop (mkF m pc Ls (.long y :: .long x :: St))) := by
  subst hp; exact Go.step (fun t q => XS.lor X.here B.x (g := mkF m pc Ls (.long y :: .long x :: St)) rfl (B.d hd) rfl q) K
theorem g_lxor (X : Stand p l e R s m args below meth c T locs cells slots) (B : Bdy p s m meth c Z a0 own nm bytes maxL rt tabs) {x y : Int64} (hd : decode bytes pc = .ok (.lxor, 1)) (hp : pc + 1 = pc') (K : Go p e below s nc ns Q (T.setTop (mkF m pc' Ls (.long (x ^^^ y) :: St)))) : Go p e below s nc ns Q (T.setTop (mkF m pc Ls (.long y :: .long x :: St))) := by
  subst hp; exact Go.step (fun t q => XS.lxor X.here B.x (g := mkF m pc Ls (.long y :: .long x :: St)) rfl (B.d hd) rfl q) K
theorem g_lshl (X : Stand p l e R s m args below meth c T locs cells slots) (B : Bdy p s m meth c Z a0 own nm bytes maxL rt tabs) {x z : Int64} {y : Int32} (hd : decode bytes pc = .ok (.lshl, 1)) (hp : pc + 1 = pc') (hz : x <<< (y &&& 63).toInt64 = z) (K : Go p e below s nc ns Q (T.setTop (mkF m pc' Ls (.long z :: St)))) : Go p e below s nc ns Q (T.setTop (mkF m pc Ls (.int y :: .long x :: St))) := by
  subst hp hz; exact Go.step (fun t q => XS.lshl X.here B.x (g := mkF m pc Ls (.int y :: .long x :: St)) rfl (B.d hd) rfl q) K
theorem g_lshr (X : Stand p l e R s m args below meth c T locs cells slots) (B : Bdy p s m meth c Z a0 own nm bytes maxL rt tabs) {x z : Int64} {y : Int32} (hd : decode bytes pc = .ok (.lshr, 1)) (hp : pc + 1 = pc') (hz : x >>> (y &&& 63).toInt64 = z) (K : Go p e below s nc ns Q (T.setTop (mkF m pc' Ls (.long z :: St)))) : Go p e below s nc ns Q (T.setTop (mkF m pc Ls (.int y :: .long x :: St))) := by
  subst hp hz; exact Go.step (fun t q => XS.lshr X.here B.x (g := mkF m pc Ls (.int y :: .long x :: St)) rfl (B.d hd) rfl q) K
theorem g_lushr (X : Stand p l e R s m args below meth c T locs cells slots) (B : Bdy p s m meth c Z a0 own nm bytes maxL rt tabs) {x z : Int64} {y : Int32} (hd : decode bytes pc = .ok (.lushr, 1)) (hp : pc + 1 = pc') (hz : (x.toUInt64 >>> (y &&& 63).toInt64.toUInt64).toInt64 = z) (K : Go p e below s nc ns Q (T.setTop (mkF m pc' Ls (.long z :: St)))) : Go p e below s nc ns Q (T.setTop (mkF m pc Ls (.int y :: .long x :: St))) := by
  subst hp hz; exact Go.step (fun t q => XS.lushr X.here B.x (g := mkF m pc Ls (.int y :: .long x :: St)) rfl (B.d hd) rfl q) K
theorem g_ineg (X : Stand p l e R s m args below meth c T locs cells slots) (B : Bdy p s m meth c Z a0 own nm bytes maxL rt tabs) {x : Int32} (hd : decode bytes pc = .ok (.ineg, 1)) (hp : pc + 1 = pc') (K : Go p e below s nc ns Q (T.setTop (mkF m pc' Ls (.int ((-x)) :: St)))) : Go p e below s nc ns Q (T.setTop (mkF m pc Ls (.int x :: St))) := by
  subst hp; exact Go.step (fun t q => XS.ineg X.here B.x (g := mkF m pc Ls (.int x :: St)) rfl (B.d hd) rfl q) K
theorem g_lneg (X : Stand p l e R s m args below meth c T locs cells slots) (B : Bdy p s m meth c Z a0 own nm bytes maxL rt tabs) {x : Int64} (hd : decode bytes pc = .ok (.lneg, 1)) (hp : pc + 1 = pc') (K : Go p e below s nc ns Q (T.setTop (mkF m pc' Ls (.long ((-x)) :: St)))) : Go p e below s nc ns Q (T.setTop (mkF m pc Ls (.long x :: St))) := by
  subst hp; exact Go.step (fun t q => XS.lneg X.here B.x (g := mkF m pc Ls (.long x :: St)) rfl (B.d hd) rfl q) K
theorem g_i2l (X : Stand p l e R s m args below meth c T locs cells slots) (B : Bdy p s m meth c Z a0 own nm bytes maxL rt tabs) {x : Int32} (hd : decode bytes pc = .ok (.i2l, 1)) (hp : pc + 1 = pc') (K : Go p e below s nc ns Q (T.setTop (mkF m pc' Ls (.long (x.toInt64) :: St)))) : Go p e below s nc ns Q (T.setTop (mkF m pc Ls (.int x :: St))) := by
  subst hp; exact Go.step (fun t q => XS.i2l X.here B.x (g := mkF m pc Ls (.int x :: St)) rfl (B.d hd) rfl q) K
theorem g_l2i (X : Stand p l e R s m args below meth c T locs cells slots) (B : Bdy p s m meth c Z a0 own nm bytes maxL rt tabs) {x : Int64} (hd : decode bytes pc = .ok (.l2i, 1)) (hp : pc + 1 = pc') (K : Go p e below s nc ns Q (T.setTop (mkF m pc' Ls (.int (x.toInt32) :: St)))) : Go p e below s nc ns Q (T.setTop (mkF m pc Ls (.long x :: St))) := by
  subst hp; exact Go.step (fun t q => XS.l2i X.here B.x (g := mkF m pc Ls (.long x :: St)) rfl (B.d hd) rfl q) K
theorem g_i2b (X : Stand p l e R s m args below meth c T locs cells slots) (B : Bdy p s m meth c Z a0 own nm bytes maxL rt tabs) {x : Int32} (hd : decode bytes pc = .ok (.i2b, 1)) (hp : pc + 1 = pc') (K : Go p e below s nc ns Q (T.setTop (mkF m pc' Ls (.int (x.toInt8.toInt32) :: St)))) : Go p e below s nc ns Q (T.setTop (mkF m pc Ls (.int x :: St))) := by
  subst hp; exact Go.step (fun t q => XS.i2b X.here B.x (g := mkF m pc Ls (.int x :: St)) rfl (B.d hd) rfl q) K
theorem g_i2s (X : Stand p l e R s m args below meth c T locs cells slots) (B : Bdy p s m meth c Z a0 own nm bytes maxL rt tabs) {x : Int32} (hd : decode bytes pc = .ok (.i2s, 1)) (hp : pc + 1 = pc') (K : Go p e below s nc ns Q (T.setTop (mkF m pc' Ls (.int (x.toInt16.toInt32) :: St)))) : Go p e below s nc ns Q (T.setTop (mkF m pc Ls (.int x :: St))) := by
  subst hp; exact Go.step (fun t q => XS.i2s X.here B.x (g := mkF m pc Ls (.int x :: St)) rfl (B.d hd) rfl q) K
theorem g_i2c (X : Stand p l e R s m args below meth c T locs cells slots) (B : Bdy p s m meth c Z a0 own nm bytes maxL rt tabs) {x : Int32} (hd : decode bytes pc = .ok (.i2c, 1)) (hp : pc + 1 = pc') (K : Go p e below s nc ns Q (T.setTop (mkF m pc' Ls (.int (x.toUInt32.toUInt16.toUInt32.toInt32) :: St)))) : Go p e below s nc ns Q (T.setTop (mkF m pc Ls (.int x :: St))) := by
  subst hp; exact Go.step (fun t q => XS.i2c X.here B.x (g := mkF m pc Ls (.int x :: St)) rfl (B.d hd) rfl q) K
theorem g_irem (X : Stand p l e R s m args below meth c T locs cells slots) (B : Bdy p s m meth c Z a0 own nm bytes maxL rt tabs) {x y : Int32} (hy : y ≠ 0) (hd : decode bytes pc = .ok (.irem, 1)) (hp : pc + 1 = pc') (K : Go p e below s nc ns Q (T.setTop (mkF m pc' Ls (.int (x % y) :: St)))) : Go p e below s nc ns Q (T.setTop (mkF m pc Ls (.int y :: .int x :: St))) := by
  subst hp; exact Go.step (fun t q => Jvm.RoadKit.iremM X B.x (g := mkF m pc Ls (.int y :: .int x :: St)) rfl (B.d hd) rfl hy q) K
theorem g_idiv (X : Stand p l e R s m args below meth c T locs cells slots) (B : Bdy p s m meth c Z a0 own nm bytes maxL rt tabs) {x y : Int32} (hy : y ≠ 0) (hd : decode bytes pc = .ok (.idiv, 1)) (hp : pc + 1 = pc') (K : Go p e below s nc ns Q (T.setTop (mkF m pc' Ls (.int (x / y) :: St)))) : Go p e below s nc ns Q (T.setTop (mkF m pc Ls (.int y :: .int x :: St))) := by
  subst hp; exact Go.step (fun t q => XS.idiv X.here B.x (g := mkF m pc Ls (.int y :: .int x :: St)) rfl (B.d hd) rfl hy q) K
theorem g_ldiv (X : Stand p l e R s m args below meth c T locs cells slots) (B : Bdy p s m meth c Z a0 own nm bytes maxL rt tabs) {x y : Int64} (hy : y ≠ 0) (hd : decode bytes pc = .ok (.ldiv, 1)) (hp : pc + 1 = pc') (K : Go p e below s nc ns Q (T.setTop (mkF m pc' Ls (.long (x / y) :: St)))) : Go p e below s nc ns Q (T.setTop (mkF m pc Ls (.long y :: .long x :: St))) := by
  subst hp; exact Go.step (fun t q => XS.ldiv X.here B.x (g := mkF m pc Ls (.long y :: .long x :: St)) rfl (B.d hd) rfl hy q) K
theorem g_lrem (X : Stand p l e R s m args below meth c T locs cells slots) (B : Bdy p s m meth c Z a0 own nm bytes maxL rt tabs) {x y : Int64} (hy : y ≠ 0) (hd : decode bytes pc = .ok (.lrem, 1)) (hp : pc + 1 = pc') (K : Go p e below s nc ns Q (T.setTop (mkF m pc' Ls (.long (x % y) :: St)))) : Go p e below s nc ns Q (T.setTop (mkF m pc Ls (.long y :: .long x :: St))) := by
  subst hp; rw [← lrem_mod] at K; exact Go.step (fun t q => XS.lrem X.here B.x (g := mkF m pc Ls (.long y :: .long x :: St)) rfl (B.d hd) rfl hy q) K
theorem g_dup (X : Stand p l e R s m args below meth c T locs cells slots) (B : Bdy p s m meth c Z a0 own nm bytes maxL rt tabs) {v : Value} (hd : decode bytes pc = .ok (.dup, 1)) (hp : pc + 1 = pc') (hv : v.category = 1) (K : Go p e below s nc ns Q (T.setTop (mkF m pc' Ls (v :: v :: St)))) : Go p e below s nc ns Q (T.setTop (mkF m pc Ls (v :: St))) := by
  subst hp; exact Go.step (fun t q => XS.dup X.here B.x (g := mkF m pc Ls (v :: St)) rfl (B.d hd) rfl hv q) K
theorem g_dupX1 (X : Stand p l e R s m args below meth c T locs cells slots) (B : Bdy p s m meth c Z a0 own nm bytes maxL rt tabs) {v w : Value} (hd : decode bytes pc = .ok (.dup_x1, 1)) (hp : pc + 1 = pc') (hv : v.category = 1) (hw : w.category = 1) (K : Go p e below s nc ns Q (T.setTop (mkF m pc' Ls (v :: w :: v :: St)))) : Go p e below s nc ns Q (T.setTop (mkF m pc Ls (v :: w :: St))) := by
  subst hp; exact Go.step (fun t q => XS.dupX1 X.here B.x (g := mkF m pc Ls (v :: w :: St)) rfl (B.d hd) rfl hv hw q) K
theorem g_dup2 (X : Stand p l e R s m args below meth c T locs cells slots) (B : Bdy p s m meth c Z a0 own nm bytes maxL rt tabs) {v w : Value} (hd : decode bytes pc = .ok (.dup2, 1)) (hp : pc + 1 = pc') (hv : v.category = 1) (hw : w.category = 1) (K : Go p e below s nc ns Q (T.setTop (mkF m pc' Ls (v :: w :: v :: w :: St)))) : Go p e below s nc ns Q (T.setTop (mkF m pc Ls (v :: w :: St))) := by
  subst hp; have hd' := B.d hd; have hx := B.x
  refine Go.step (fun t q => ?_) K
  jvm_step X.here [X.here.top, hx, hd', hv, hw]
  exact q
theorem g_dup2L (X : Stand p l e R s m args below meth c T locs cells slots) (B : Bdy p s m meth c Z a0 own nm bytes maxL rt tabs) {v : Int64} (hd : decode bytes pc = .ok (.dup2, 1)) (hp : pc + 1 = pc') (K : Go p e below s nc ns Q (T.setTop (mkF m pc' Ls (.long v :: .long v :: St)))) : Go p e below s nc ns Q (T.setTop (mkF m pc Ls (.long v :: St))) := by
  subst hp; have hd' := B.d hd; have hx := B.x
  refine Go.step (fun t q => ?_) K
  jvm_step X.here [X.here.top, hx, hd', Value.category]
  exact q
theorem g_pop (X : Stand p l e R s m args below meth c T locs cells slots) (B : Bdy p s m meth c Z a0 own nm bytes maxL rt tabs) {v : Value} (hd : decode bytes pc = .ok (.pop, 1)) (hp : pc + 1 = pc') (hv : v.category = 1) (K : Go p e below s nc ns Q (T.setTop (mkF m pc' Ls St))) : Go p e below s nc ns Q (T.setTop (mkF m pc Ls (v :: St))) := by
  subst hp; exact Go.step (fun t q => XS.pop X.here B.x (g := mkF m pc Ls (v :: St)) rfl (B.d hd) rfl hv q) K
theorem g_goto (X : Stand p l e R s m args below meth c T locs cells slots) (B : Bdy p s m meth c Z a0 own nm bytes maxL rt tabs) {o : Int} (hd : decode bytes pc = .ok (.goto o, 3)) (ho : 0 ≤ (pc : Int) + o) (hp : ((pc : Int) + o).toNat = pc') (K : Go p e below s nc ns Q (T.setTop (mkF m pc' Ls St))) : Go p e below s nc ns Q (T.setTop (mkF m pc Ls St)) :=
  Go.step (fun t q => XS.goto X.here B.x (g := mkF m pc Ls St) rfl rfl (B.d hd) ho hp q) K
/-! branches: K1 where the comparison holds, K2 where it doesn't -/
theorem g_icmp_lt (X : Stand p l e R s m args below meth c T locs cells slots) (B : Bdy p s m meth c Z a0 own nm bytes maxL rt tabs) {x y : Int32} {o : Int} {pcT pcF : Nat} (hd : decode bytes pc = .ok (.if_icmp .lt o, 3)) (ho : 0 ≤ (pc : Int) + o) (hT : ((pc : Int) + o).toNat = pcT) (hF : pc + 3 = pcF) (K1 : x < y → Go p e below s nc ns Q (T.setTop (mkF m pcT Ls St))) (K2 : ¬ x < y → Go p e below s nc ns Q (T.setTop (mkF m pcF Ls St))) : Go p e below s nc ns Q (T.setTop (mkF m pc Ls (.int y :: .int x :: St))) := by
  by_cases q : x < y
  · exact Go.step (fun t k => XS.icmpYes X.here B.x (g := mkF m pc Ls (.int y :: .int x :: St)) rfl rfl (B.d hd) rfl (tlt q).1 ho hT k) (K1 q)
  · subst hF; exact Go.step (fun t k => XS.icmpNo X.here B.x (g := mkF m pc Ls (.int y :: .int x :: St)) rfl (B.d hd) rfl (flt q).1 k) (K2 q)
theorem g_if_lt (X : Stand p l e R s m args below meth c T locs cells slots) (B : Bdy p s m meth c Z a0 own nm bytes maxL rt tabs) {x : Int32} {o : Int} {pcT pcF : Nat} (hd : decode bytes pc = .ok (.ifCond .lt o, 3)) (ho : 0 ≤ (pc : Int) + o) (hT : ((pc : Int) + o).toNat = pcT) (hF : pc + 3 = pcF) (K1 : x < (0 : Int32) → Go p e below s nc ns Q (T.setTop (mkF m pcT Ls St))) (K2 : ¬ x < (0 : Int32) → Go p e below s nc ns Q (T.setTop (mkF m pcF Ls St))) : Go p e below s nc ns Q (T.setTop (mkF m pc Ls (.int x :: St))) := by
  by_cases q : x < (0 : Int32)
  · exact Go.step (fun t k => XS.ifYes X.here B.x (g := mkF m pc Ls (.int x :: St)) rfl rfl (B.d hd) rfl ((if0 _ _).trans (tlt q).1) ho hT k) (K1 q)
  · subst hF; exact Go.step (fun t k => XS.ifNo X.here B.x (g := mkF m pc Ls (.int x :: St)) rfl (B.d hd) rfl ((if0 _ _).trans (flt q).1) k) (K2 q)
theorem g_lcmp_lt (X : Stand p l e R s m args below meth c T locs cells slots) (B : Bdy p s m meth c Z a0 own nm bytes maxL rt tabs) {x y : Int64} {o : Int} {pcT pcF : Nat} (hd1 : decode bytes pc = .ok (.lcmp, 1)) (hd : decode bytes (pc + 1) = .ok (.ifCond .lt o, 3)) (ho : 0 ≤ ((pc + 1 : Nat) : Int) + o) (hT : (((pc + 1 : Nat) : Int) + o).toNat = pcT) (hF : pc + 4 = pcF) (K1 : x < y → Go p e below s nc ns Q (T.setTop (mkF m pcT Ls St))) (K2 : ¬ x < y → Go p e below s nc ns Q (T.setTop (mkF m pcF Ls St))) : Go p e below s nc ns Q (T.setTop (mkF m pc Ls (.long y :: .long x :: St))) :=
  Go.step (fun t q => XS.lcmp X.here B.x (g := mkF m pc Ls (.long y :: .long x :: St)) rfl (B.d hd1) rfl q) (g_if_lt X B hd ho hT hF (fun q => K1 ((lw_lt x y).mp q)) (fun q => K2 fun z => q ((lw_lt x y).mpr z)))
theorem g_icmp_ge (X : Stand p l e R s m args below meth c T locs cells slots) (B : Bdy p s m meth c Z a0 own nm bytes maxL rt tabs) {x y : Int32} {o : Int} {pcT pcF : Nat} (hd : decode bytes pc = .ok (.if_icmp .ge o, 3)) (ho : 0 ≤ (pc : Int) + o) (hT : ((pc : Int) + o).toNat = pcT) (hF : pc + 3 = pcF) (K1 : x < y → Go p e below s nc ns Q (T.setTop (mkF m pcF Ls St))) (K2 : ¬ x < y → Go p e below s nc ns Q (T.setTop (mkF m pcT Ls St))) : Go p e below s nc ns Q (T.setTop (mkF m pc Ls (.int y :: .int x :: St))) := by
  by_cases q : x < y
  · subst hF; exact Go.step (fun t k => XS.icmpNo X.here B.x (g := mkF m pc Ls (.int y :: .int x :: St)) rfl (B.d hd) rfl (tlt q).2.1 k) (K1 q)
  · exact Go.step (fun t k => XS.icmpYes X.here B.x (g := mkF m pc Ls (.int y :: .int x :: St)) rfl rfl (B.d hd) rfl (flt q).2.1 ho hT k) (K2 q)
theorem g_if_ge (X : Stand p l e R s m args below meth c T locs cells slots) (B : Bdy p s m meth c Z a0 own nm bytes maxL rt tabs) {x : Int32} {o : Int} {pcT pcF : Nat} (hd : decode bytes pc = .ok (.ifCond .ge o, 3)) (ho : 0 ≤ (pc : Int) + o) (hT : ((pc : Int) + o).toNat = pcT) (hF : pc + 3 = pcF) (K1 : x < (0 : Int32) → Go p e below s nc ns Q (T.setTop (mkF m pcF Ls St))) (K2 : ¬ x < (0 : Int32) → Go p e below s nc ns Q (T.setTop (mkF m pcT Ls St))) : Go p e below s nc ns Q (T.setTop (mkF m pc Ls (.int x :: St))) := by
  by_cases q : x < (0 : Int32)
  · subst hF; exact Go.step (fun t k => XS.ifNo X.here B.x (g := mkF m pc Ls (.int x :: St)) rfl (B.d hd) rfl ((if0 _ _).trans (tlt q).2.1) k) (K1 q)
  · exact Go.step (fun t k => XS.ifYes X.here B.x (g := mkF m pc Ls (.int x :: St)) rfl rfl (B.d hd) rfl ((if0 _ _).trans (flt q).2.1) ho hT k) (K2 q)
theorem g_lcmp_ge (X : Stand p l e R s m args below meth c T locs cells slots) (B : Bdy p s m meth c Z a0 own nm bytes maxL rt tabs) {x y : Int64} {o : Int} {pcT pcF : Nat} (hd1 : decode bytes pc = .ok (.lcmp, 1)) (hd : decode bytes (pc + 1) = .ok (.ifCond .ge o, 3)) (ho : 0 ≤ ((pc + 1 : Nat) : Int) + o) (hT : (((pc + 1 : Nat) : Int) + o).toNat = pcT) (hF : pc + 4 = pcF) (K1 : x < y → Go p e below s nc ns Q (T.setTop (mkF m pcF Ls St))) (K2 : ¬ x < y → Go p e below s nc ns Q (T.setTop (mkF m pcT Ls St))) : Go p e below s nc ns Q (T.setTop (mkF m pc Ls (.long y :: .long x :: St))) :=
  Go.step (fun t q => XS.lcmp X.here B.x (g := mkF m pc Ls (.long y :: .long x :: St)) rfl (B.d hd1) rfl q) (g_if_ge X B hd ho hT hF (fun q => K1 ((lw_lt x y).mp q)) (fun q => K2 fun z => q ((lw_lt x y).mpr z)))
theorem g_icmp_gt (X : Stand p l e R s m args below meth c T locs cells slots) (B : Bdy p s m meth c Z a0 own nm bytes maxL rt tabs) {x y : Int32} {o : Int} {pcT pcF : Nat} (hd : decode bytes pc = .ok (.if_icmp .gt o, 3)) (ho : 0 ≤ (pc : Int) + o) (hT : ((pc : Int) + o).toNat = pcT) (hF : pc + 3 = pcF) (K1 : y < x → Go p e below s nc ns Q (T.setTop (mkF m pcT Ls St))) (K2 : ¬ y < x → Go p e below s nc ns Q (T.setTop (mkF m pcF Ls St))) : Go p e below s nc ns Q (T.setTop (mkF m pc Ls (.int y :: .int x :: St))) := by
  by_cases q : y < x
  · exact Go.step (fun t k => XS.icmpYes X.here B.x (g := mkF m pc Ls (.int y :: .int x :: St)) rfl rfl (B.d hd) rfl (tlt q).2.2.1 ho hT k) (K1 q)
  · subst hF; exact Go.step (fun t k => XS.icmpNo X.here B.x (g := mkF m pc Ls (.int y :: .int x :: St)) rfl (B.d hd) rfl (flt q).2.2.1 k) (K2 q)
theorem g_if_gt (X : Stand p l e R s m args below meth c T locs cells slots) (B : Bdy p s m meth c Z a0 own nm bytes maxL rt tabs) {x : Int32} {o : Int} {pcT pcF : Nat} (hd : decode bytes pc = .ok (.ifCond .gt o, 3)) (ho : 0 ≤ (pc : Int) + o) (hT : ((pc : Int) + o).toNat = pcT) (hF : pc + 3 = pcF) (K1 : (0 : Int32) < x → Go p e below s nc ns Q (T.setTop (mkF m pcT Ls St))) (K2 : ¬ (0 : Int32) < x → Go p e below s nc ns Q (T.setTop (mkF m pcF Ls St))) : Go p e below s nc ns Q (T.setTop (mkF m pc Ls (.int x :: St))) := by
  by_cases q : (0 : Int32) < x
  · exact Go.step (fun t k => XS.ifYes X.here B.x (g := mkF m pc Ls (.int x :: St)) rfl rfl (B.d hd) rfl ((if0 _ _).trans (tlt q).2.2.1) ho hT k) (K1 q)
  · subst hF; exact Go.step (fun t k => XS.ifNo X.here B.x (g := mkF m pc Ls (.int x :: St)) rfl (B.d hd) rfl ((if0 _ _).trans (flt q).2.2.1) k) (K2 q)
theorem g_lcmp_gt (X : Stand p l e R s m args below meth c T locs cells slots) (B : Bdy p s m meth c Z a0 own nm bytes maxL rt tabs) {x y : Int64} {o : Int} {pcT pcF : Nat} (hd1 : decode bytes pc = .ok (.lcmp, 1)) (hd : decode bytes (pc + 1) = .ok (.ifCond .gt o, 3)) (ho : 0 ≤ ((pc + 1 : Nat) : Int) + o) (hT : (((pc + 1 : Nat) : Int) + o).toNat = pcT) (hF : pc + 4 = pcF) (K1 : y < x → Go p e below s nc ns Q (T.setTop (mkF m pcT Ls St))) (K2 : ¬ y < x → Go p e below s nc ns Q (T.setTop (mkF m pcF Ls St))) : Go p e below s nc ns Q (T.setTop (mkF m pc Ls (.long y :: .long x :: St))) :=
  Go.step (fun t q => XS.lcmp X.here B.x (g := mkF m pc Ls (.long y :: .long x :: St)) rfl (B.d hd1) rfl q) (g_if_gt X B hd ho hT hF (fun q => K1 ((lw_gt x y).mp q)) (fun q => K2 fun z => q ((lw_gt x y).mpr z)))
theorem g_icmp_le (X : Stand p l e R s m args below meth c T locs cells slots) (B : Bdy p s m meth c Z a0 own nm bytes maxL rt tabs) {x y : Int32} {o : Int} {pcT pcF : Nat} (hd : decode bytes pc = .ok (.if_icmp .le o, 3)) (ho : 0 ≤ (pc : Int) + o) (hT : ((pc : Int) + o).toNat = pcT) (hF : pc + 3 = pcF) (K1 : y < x → Go p e below s nc ns Q (T.setTop (mkF m pcF Ls St))) (K2 : ¬ y < x → Go p e below s nc ns Q (T.setTop (mkF m pcT Ls St))) : Go p e below s nc ns Q (T.setTop (mkF m pc Ls (.int y :: .int x :: St))) := by
  by_cases q : y < x
  · subst hF; exact Go.step (fun t k => XS.icmpNo X.here B.x (g := mkF m pc Ls (.int y :: .int x :: St)) rfl (B.d hd) rfl (tlt q).2.2.2 k) (K1 q)
  · exact Go.step (fun t k => XS.icmpYes X.here B.x (g := mkF m pc Ls (.int y :: .int x :: St)) rfl rfl (B.d hd) rfl (flt q).2.2.2 ho hT k) (K2 q)
theorem g_if_le (X : Stand p l e R s m args below meth c T locs cells slots) (B : Bdy p s m meth c Z a0 own nm bytes maxL rt tabs) {x : Int32} {o : Int} {pcT pcF : Nat} (hd : decode bytes pc = .ok (.ifCond .le o, 3)) (ho : 0 ≤ (pc : Int) + o) (hT : ((pc : Int) + o).toNat = pcT) (hF : pc + 3 = pcF) (K1 : (0 : Int32) < x → Go p e below s nc ns Q (T.setTop (mkF m pcF Ls St))) (K2 : ¬ (0 : Int32) < x → Go p e below s nc ns Q (T.setTop (mkF m pcT Ls St))) : Go p e below s nc ns Q (T.setTop (mkF m pc Ls (.int x :: St))) := by
  by_cases q : (0 : Int32) < x
  · subst hF; exact Go.step (fun t k => XS.ifNo X.here B.x (g := mkF m pc Ls (.int x :: St)) rfl (B.d hd) rfl ((if0 _ _).trans (tlt q).2.2.2) k) (K1 q)
  · exact Go.step (fun t k => XS.ifYes X.here B.x (g := mkF m pc Ls (.int x :: St)) rfl rfl (B.d hd) rfl ((if0 _ _).trans (flt q).2.2.2) ho hT k) (K2 q)
theorem g_lcmp_le (X : Stand p l e R s m args below meth c T locs cells slots) (B : Bdy p s m meth c Z a0 own nm bytes maxL rt tabs) {x y : Int64} {o : Int} {pcT pcF : Nat} (hd1 : decode bytes pc = .ok (.lcmp, 1)) (hd : decode bytes (pc + 1) = .ok (.ifCond .le o, 3)) (ho : 0 ≤ ((pc + 1 : Nat) : Int) + o) (hT : (((pc + 1 : Nat) : Int) + o).toNat = pcT) (hF : pc + 4 = pcF) (K1 : y < x → Go p e below s nc ns Q (T.setTop (mkF m pcF Ls St))) (K2 : ¬ y < x → Go p e below s nc ns Q (T.setTop (mkF m pcT Ls St))) : Go p e below s nc ns Q (T.setTop (mkF m pc Ls (.long y :: .long x :: St))) :=
  Go.step (fun t q => XS.lcmp X.here B.x (g := mkF m pc Ls (.long y :: .long x :: St)) rfl (B.d hd1) rfl q) (g_if_le X B hd ho hT hF (fun q => K1 ((lw_gt x y).mp q)) (fun q => K2 fun z => q ((lw_gt x y).mpr z)))
theorem g_icmp_eq (X : Stand p l e R s m args below meth c T locs cells slots) (B : Bdy p s m meth c Z a0 own nm bytes maxL rt tabs) {x y : Int32} {o : Int} {pcT pcF : Nat} (hd : decode bytes pc = .ok (.if_icmp .eq o, 3)) (ho : 0 ≤ (pc : Int) + o) (hT : ((pc : Int) + o).toNat = pcT) (hF : pc + 3 = pcF) (K1 : x = y → Go p e below s nc ns Q (T.setTop (mkF m pcT Ls St))) (K2 : ¬ x = y → Go p e below s nc ns Q (T.setTop (mkF m pcF Ls St))) : Go p e below s nc ns Q (T.setTop (mkF m pc Ls (.int y :: .int x :: St))) := by
  by_cases q : x = y
  · exact Go.step (fun t k => XS.icmpYes X.here B.x (g := mkF m pc Ls (.int y :: .int x :: St)) rfl rfl (B.d hd) rfl (teq q).1 ho hT k) (K1 q)
  · subst hF; exact Go.step (fun t k => XS.icmpNo X.here B.x (g := mkF m pc Ls (.int y :: .int x :: St)) rfl (B.d hd) rfl (feq q).1 k) (K2 q)
theorem g_if_eq (X : Stand p l e R s m args below meth c T locs cells slots) (B : Bdy p s m meth c Z a0 own nm bytes maxL rt tabs) {x : Int32} {o : Int} {pcT pcF : Nat} (hd : decode bytes pc = .ok (.ifCond .eq o, 3)) (ho : 0 ≤ (pc : Int) + o) (hT : ((pc : Int) + o).toNat = pcT) (hF : pc + 3 = pcF) (K1 : x = (0 : Int32) → Go p e below s nc ns Q (T.setTop (mkF m pcT Ls St))) (K2 : ¬ x = (0 : Int32) → Go p e below s nc ns Q (T.setTop (mkF m pcF Ls St))) : Go p e below s nc ns Q (T.setTop (mkF m pc Ls (.int x :: St))) := by
  by_cases q : x = (0 : Int32)
  · exact Go.step (fun t k => XS.ifYes X.here B.x (g := mkF m pc Ls (.int x :: St)) rfl rfl (B.d hd) rfl ((if0 _ _).trans (teq q).1) ho hT k) (K1 q)
  · subst hF; exact Go.step (fun t k => XS.ifNo X.here B.x (g := mkF m pc Ls (.int x :: St)) rfl (B.d hd) rfl ((if0 _ _).trans (feq q).1) k) (K2 q)
theorem g_lcmp_eq (X : Stand p l e R s m args below meth c T locs cells slots) (B : Bdy p s m meth c Z a0 own nm bytes maxL rt tabs) {x y : Int64} {o : Int} {pcT pcF : Nat} (hd1 : decode bytes pc = .ok (.lcmp, 1)) (hd : decode bytes (pc + 1) = .ok (.ifCond .eq o, 3)) (ho : 0 ≤ ((pc + 1 : Nat) : Int) + o) (hT : (((pc + 1 : Nat) : Int) + o).toNat = pcT) (hF : pc + 4 = pcF) (K1 : x = y → Go p e below s nc ns Q (T.setTop (mkF m pcT Ls St))) (K2 : ¬ x = y → Go p e below s nc ns Q (T.setTop (mkF m pcF Ls St))) : Go p e below s nc ns Q (T.setTop (mkF m pc Ls (.long y :: .long x :: St))) :=
  Go.step (fun t q => XS.lcmp X.here B.x (g := mkF m pc Ls (.long y :: .long x :: St)) rfl (B.d hd1) rfl q) (g_if_eq X B hd ho hT hF (fun q => K1 ((lw_eq x y).mp q)) (fun q => K2 fun z => q ((lw_eq x y).mpr z)))
theorem g_icmp_ne (X : Stand p l e R s m args below meth c T locs cells slots) (B : Bdy p s m meth c Z a0 own nm bytes maxL rt tabs) {x y : Int32} {o : Int} {pcT pcF : Nat} (hd : decode bytes pc = .ok (.if_icmp .ne o, 3)) (ho : 0 ≤ (pc : Int) + o) (hT : ((pc : Int) + o).toNat = pcT) (hF : pc + 3 = pcF) (K1 : x = y → Go p e below s nc ns Q (T.setTop (mkF m pcF Ls St))) (K2 : ¬ x = y → Go p e below s nc ns Q (T.setTop (mkF m pcT Ls St))) : Go p e below s nc ns Q (T.setTop (mkF m pc Ls (.int y :: .int x :: St))) := by
  by_cases q : x = y
  · subst hF; exact Go.step (fun t k => XS.icmpNo X.here B.x (g := mkF m pc Ls (.int y :: .int x :: St)) rfl (B.d hd) rfl (teq q).2 k) (K1 q)
  · exact Go.step (fun t k => XS.icmpYes X.here B.x (g := mkF m pc Ls (.int y :: .int x :: St)) rfl rfl (B.d hd) rfl (feq q).2 ho hT k) (K2 q)
theorem g_if_ne (X : Stand p l e R s m args below meth c T locs cells slots) (B : Bdy p s m meth c Z a0 own nm bytes maxL rt tabs) {x : Int32} {o : Int} {pcT pcF : Nat} (hd : decode bytes pc = .ok (.ifCond .ne o, 3)) (ho : 0 ≤ (pc : Int) + o) (hT : ((pc : Int) + o).toNat = pcT) (hF : pc + 3 = pcF) (K1 : x = (0 : Int32) → Go p e below s nc ns Q (T.setTop (mkF m pcF Ls St))) (K2 : ¬ x = (0 : Int32) → Go p e below s nc ns Q (T.setTop (mkF m pcT Ls St))) : Go p e below s nc ns Q (T.setTop (mkF m pc Ls (.int x :: St))) := by
  by_cases q : x = (0 : Int32)
  · subst hF; exact Go.step (fun t k => XS.ifNo X.here B.x (g := mkF m pc Ls (.int x :: St)) rfl (B.d hd) rfl ((if0 _ _).trans (teq q).2) k) (K1 q)
  · exact Go.step (fun t k => XS.ifYes X.here B.x (g := mkF m pc Ls (.int x :: St)) rfl rfl (B.d hd) rfl ((if0 _ _).trans (feq q).2) ho hT k) (K2 q)
theorem g_lcmp_ne (X : Stand p l e R s m args below meth c T locs cells slots) (B : Bdy p s m meth c Z a0 own nm bytes maxL rt tabs) {x y : Int64} {o : Int} {pcT pcF : Nat} (hd1 : decode bytes pc = .ok (.lcmp, 1)) (hd : decode bytes (pc + 1) = .ok (.ifCond .ne o, 3)) (ho : 0 ≤ ((pc + 1 : Nat) : Int) + o) (hT : (((pc + 1 : Nat) : Int) + o).toNat = pcT) (hF : pc + 4 = pcF) (K1 : x = y → Go p e below s nc ns Q (T.setTop (mkF m pcF Ls St))) (K2 : ¬ x = y → Go p e below s nc ns Q (T.setTop (mkF m pcT Ls St))) : Go p e below s nc ns Q (T.setTop (mkF m pc Ls (.long y :: .long x :: St))) :=
  Go.step (fun t q => XS.lcmp X.here B.x (g := mkF m pc Ls (.long y :: .long x :: St)) rfl (B.d hd1) rfl q) (g_if_ne X B hd ho hT hF (fun q => K1 ((lw_eq x y).mp q)) (fun q => K2 fun z => q ((lw_eq x y).mpr z)))
/-! ends -/
theorem g_ret0 (X : Stand p l e R s m args below meth c T locs cells slots) (B : Bdy p s m meth c Z a0 own nm bytes maxL rt tabs) (hr : rt = none) (hd : decode bytes pc = .ok (.return_, 1)) (hc : cells ≤ nc) (hs : slots ≤ ns) (q : Q none T.heap locs) : Go p e below s nc ns Q (T.setTop (mkF m pc Ls [])) := by
  subst hr
  obtain ⟨fs, hr, hrun, hended, hW, hsame⟩ := X.leave (v := none) (fun _ => rfl) B.lk
  exact ⟨_, _, X.returnOut B.x B.r (B.d hd) hr, hrun, hended, _, _, rfl, q, ⟨_, rfl⟩, hW, hsame.mono hc hs⟩
theorem g_retV (X : Stand p l e R s m args below meth c T locs cells slots) (B : Bdy p s m meth c Z a0 own nm bytes maxL rt tabs) {w : Value} {t : FieldType} {i : Instr} (hr : rt = some t) (hn : narrow t w = w)
    (hi : (i = .ireturn ∧ (t = .int ∨ t = .boolean ∨ t = .byte ∨ t = .char ∨ t = .short) ∧ ∃ z, w = .int z) ∨ (i = .lreturn ∧ t = .long ∧ ∃ z, w = .long z) ∨ (i = .dreturn ∧ t = .double ∧ ∃ z, w = .double z) ∨ (i = .freturn ∧ t = .float ∧ ∃ z, w = .float z) ∨ (i = .areturn ∧ t.isReference = true ∧ w.isRef = true))
    (hd : decode bytes pc = .ok (i, 1)) (hc : cells ≤ nc) (hs : slots ≤ ns) (q : Q (some w) T.heap locs) : Go p e below s nc ns Q (T.setTop (mkF m pc Ls (w :: St))) := by
  subst hr
  obtain ⟨fs, hr, hrun, hended, hW, hsame⟩ := X.leave (v := some w) (fun h => by rw [B.r] at h; cases h) B.lk
  exact ⟨_, _, retOut X B.x B.r hn hi (B.d hd) hr, hrun, hended, _, _, rfl, q, ⟨_, rfl⟩, hW, hsame.mono hc hs⟩
theorem g_retI (X : Stand p l e R s m args below meth c T locs cells slots) (B : Bdy p s m meth c Z a0 own nm bytes maxL rt tabs) {z : Int32} (hr : rt = some .int) (hd : decode bytes pc = .ok (.ireturn, 1)) (hc : cells ≤ nc) (hs : slots ≤ ns) (q : Q (some (.int z)) T.heap locs) : Go p e below s nc ns Q (T.setTop (mkF m pc Ls (.int z :: St))) :=
  g_retV X B hr rfl (Or.inl ⟨rfl, Or.inl rfl, z, rfl⟩) hd hc hs q
theorem g_retL (X : Stand p l e R s m args below meth c T locs cells slots) (B : Bdy p s m meth c Z a0 own nm bytes maxL rt tabs) {z : Int64} (hr : rt = some .long) (hd : decode bytes pc = .ok (.lreturn, 1)) (hc : cells ≤ nc) (hs : slots ≤ ns) (q : Q (some (.long z)) T.heap locs) : Go p e below s nc ns Q (T.setTop (mkF m pc Ls (.long z :: St))) :=
  g_retV X B hr rfl (Or.inr (Or.inl ⟨rfl, rfl, z, rfl⟩)) hd hc hs q
theorem g_retA (X : Stand p l e R s m args below meth c T locs cells slots) (B : Bdy p s m meth c Z a0 own nm bytes maxL rt tabs) {w : Value} {t : FieldType} (hr : rt = some t) (ht : t.isReference = true) (hw : w.isRef = true) (hn : narrow t w = w) (hd : decode bytes pc = .ok (.areturn, 1)) (hc : cells ≤ nc) (hs : slots ≤ ns) (q : Q (some w) T.heap locs) : Go p e below s nc ns Q (T.setTop (mkF m pc Ls (w :: St))) :=
  g_retV X B hr hn (Or.inr (Or.inr (Or.inr (Or.inr ⟨rfl, ht, hw⟩)))) hd hc hs q
theorem g_retN (X : Stand p l e R s m args below meth c T locs cells slots) (B : Bdy p s m meth c Z a0 own nm bytes maxL rt tabs) {z : Int32} {t : FieldType} (hr : rt = some t) (ht : t = .boolean ∨ t = .byte ∨ t = .char ∨ t = .short) (hd : decode bytes pc = .ok (.ireturn, 1)) (hc : cells ≤ nc) (hs : slots ≤ ns) (q : Q (some (.int (nar t z))) T.heap locs) : Go p e below s nc ns Q (T.setTop (mkF m pc Ls (.int z :: St))) := by
  subst hr
  obtain ⟨fs, hr, hrun, hended, hW, hsame⟩ := X.leave (v := some (.int (nar t z))) (fun h => by rw [B.r] at h; cases h) B.lk
  exact ⟨_, _, retN X B.x B.r ht (B.d hd) hr, hrun, hended, _, _, rfl, q, ⟨_, rfl⟩, hW, hsame.mono hc hs⟩
/-! calls -/
abbrev Met (l : Launch) (Z : State) (y : MethodName) (yb : ByteArray) (ym : Nat) (yr : Option FieldType) (ws : List Jvm.Cond) (rm : Room) (as : Array Value) (h : Heap) (Qc : Option Value → Heap → List Loc → Prop) : Prop :=
  MetFree l y (head1 (Jvm.Cond.code y yb ym yr :: ws) rm) (fun a U => a = as ∧ Z.Warmed39 U.vm ∧ U.heap = h) (fun _ _ _ _ _ => True) (fun _ U o U' => ∃ v L, o = .returned v ∧ Qc v U'.heap L ∧ FrameEnd U o U' L rm.cells rm.slots)
theorem met_of {y : MethodName} {rm : Room} {as : Array Value} {ws : List Jvm.Cond} (hpl : plainFor y = true) (hw : ∀ d ∈ tabs, d.before a0 Z = true)
    (body : ∀ (p : Program) (e : Env) (s : State) (m : MethodId) (below : List Frame) (meth : Method) (c : Code) (T : State), Stand p l e rm s m as below meth c T [] 0 0 → Bdy p s m meth c Z a0 y.cls y.name bytes maxL rt tabs → T.heap = h → Go p e below s rm.cells rm.slots Q (T.setTop (entryFrame m as maxL))) :
    Met l Z y bytes maxL rt ws rm as h Q := by
  refine MetFree.of_bodySF hpl hisR ?_
  intro p e s m args below meth c s₁ Bd hml0 hP hK
  obtain ⟨rfl, hZ, hh⟩ := hP
  exact body p e s m below meth c s₁ (Stand.of_body Bd) ⟨Bd.exec, hZ, hw, Bd.bytes, hml0, findClass_of_methodNamed Bd.named, Bd.returns, BodyLoose.notSynchronized Bd, (name_of_methodNamed Bd.named Bd.method).1⟩ (by rw [← hh, Bd.state]; rfl)
theorem g_callS (X : Stand p l e R s m args below meth c T locs cells slots) (B : Bdy p s m meth c Z a0 own nm bytes maxL rt tabs) {y : MethodName} {i : Nat} {yb : ByteArray} {ym : Nat} {yr : Option FieldType} {rm : Room} {argsL rest : List Value} {Qc : Option Value → Heap → List Loc → Prop} (eT : T.heap = h) (W : Nat)
    (w1 : (Jvm.Cond.methodLink own i y).before a0 Z = true) (w2 : (Jvm.Cond.static y).before a0 Z = true) (w3 : (Jvm.Cond.initialized y.cls).before a0 Z = true) (w4 : (Jvm.Cond.code y yb ym yr).before a0 Z = true) (hy : y.cls ≠ "java/lang/invoke/MethodHandle" ∧ y.cls ≠ "java/lang/invoke/VarHandle")
    (M : Met l Z y yb ym yr [] rm argsL.toArray h Qc) (hf : rm.frames + 1 ≤ R.frames) (hl : W + (ym + 11) + rm.locals ≤ R.locals) (hc : cells + rm.cells ≤ R.cells) (hs : slots + rm.slots ≤ R.slots)
    (hsz : Ls.size = maxL) (hlen : ∀ sig, parseMethodDescriptor y.desc = some sig → argsL.length = sig.parameters.length) (hst : St = argsL.reverse ++ rest) (hW : (rest.map fun v => v.category).sum ≤ W) (hd : decode bytes pc = .ok (.invokestatic i, 3)) (hp : pc + 3 = pc')
    (K : ∀ (T' : State) (v : Option Value) (L : List Loc), Stand p l e R s m args below meth c T' (locs ++ L) (cells + rm.cells) (slots + rm.slots) → Qc v T'.heap L → Go p e below s nc ns Q (T'.setTop (mkF m pc' Ls (v.toList ++ rest)))) : Go p e below s nc ns Q (T.setTop (mkF m pc Ls St)) := by
  subst hp
  obtain ⟨v, _, ⟨T', L', k', n'⟩, -, X', ⟨Lc, hQ, l', y', z'⟩, st⟩ := Jvm.LawKit.callS X B.x (y := y) B.o (mvT B.z w1) (mvT B.z w2) (mvT B.z w3) (mvT B.z w4) hy (backOf (W := W) M B.z w4 w3 hf hl) (g := mkF m pc Ls St) rfl (by rw [B.ml]; exact hsz) (argsL := argsL) (rest := rest) hlen hst (by show 2 * 0 + _ ≤ _; omega) (B.d hd) (fun _ _ => ⟨rfl, eT, hc, hs⟩)
  dsimp only [Pt.U, Pt.locs, Pt.cells, Pt.slots] at X' l' y' z' st hQ
  subst l' y' z'
  exact Go.step st (K T' v Lc X' hQ)
theorem g_callP (X : Stand p l e R s m args below meth c T locs cells slots) (B : Bdy p s m meth c Z a0 own nm bytes maxL rt tabs) {y : MethodName} {i : Nat} {yb : ByteArray} {ym : Nat} {yr : Option FieldType} {fr lo : Nat} {argsL rest : List Value} {w : Value} (eT : T.heap = h) (W : Nat)
    (w1 : (Jvm.Cond.methodLink own i y).before a0 Z = true) (w2 : (Jvm.Cond.static y).before a0 Z = true) (w3 : (Jvm.Cond.initialized y.cls).before a0 Z = true) (w4 : (Jvm.Cond.code y yb ym yr).before a0 Z = true) (hy : y.cls ≠ "java/lang/invoke/MethodHandle" ∧ y.cls ≠ "java/lang/invoke/VarHandle")
    (M : Met l Z y yb ym yr [] ⟨fr, 0, 0, lo⟩ argsL.toArray h (PQ (some w) h [])) (hf : fr + 1 ≤ R.frames) (hl : W + (ym + 11) + lo ≤ R.locals) (hc : cells ≤ R.cells) (hs : slots ≤ R.slots)
    (hsz : Ls.size = maxL) (hlen : ∀ sig, parseMethodDescriptor y.desc = some sig → argsL.length = sig.parameters.length) (hst : St = argsL.reverse ++ rest) (hW : (rest.map fun v => v.category).sum ≤ W) (hd : decode bytes pc = .ok (.invokestatic i, 3)) (hp : pc + 3 = pc')
    (K : ∀ (T' : State), Stand p l e R s m args below meth c T' locs cells slots → T'.heap = h → Go p e below s nc ns Q (T'.setTop (mkF m pc' Ls (w :: rest)))) : Go p e below s nc ns Q (T.setTop (mkF m pc Ls St)) := by
  refine g_callS X B eT W w1 w2 w3 w4 hy M hf hl hc hs hsz hlen hst hW hd hp fun T' v L X' q => ?_
  obtain ⟨rfl, q2, rfl⟩ := q
  rw [List.append_nil] at X'
  exact K T' X' q2
end GoKit
/-! own frame, the heap's steps -/
def Ax (Z : State) (h : Heap) (a : Addr) (ty : FieldType) (n : Nat) (w : Nat → Value) : Prop := n < 2147483648 ∧ ∃ c : Cell, Arr Z h a c ty ∧ c.slots.size = n ∧ ∀ j, j < n → c.slots[j]? = some (w j)
section HeapKit
variable {p : Program} {l : Launch} {e : Env} {R : Room} {s : State} {m : MethodId} {args : Array Value} {below : List Frame} {meth : Method} {c : Code} {T : State} {locs : List Loc} {cells slots : Nat} {Z : State} {a0 : Array Value} {h h' : Heap} {nc ns : Nat} {Q Q' : Option Value → Heap → List Loc → Prop} {pc pc' : Nat} {Ls Ls' : Array Slot} {St : List Value} {own nm : String} {bytes : ByteArray} {maxL : Nat} {rt : Option FieldType} {tabs : List Jvm.Cond}
theorem Ax.lt {a : Addr} {ty : FieldType} {n : Nat} {w : Nat → Value} (F : Ax Z h a ty n w) : a < h.size := by obtain ⟨-, c, A, -⟩ := F; exact A.lt
theorem Ax.ext {a : Addr} {ty : FieldType} {n : Nat} {w : Nat → Value} (F : Ax Z h a ty n w) (E : Ext h h') : Ax Z h' a ty n w := by obtain ⟨h0, c, A, r⟩ := F; exact ⟨h0, c, A.ext E, r⟩
theorem Ax.other {a b : Addr} {ty : FieldType} {n sl : Nat} {v : Value} {w : Nat → Value} (F : Ax Z h b ty n w) (W : Wr h h' a sl v) (q : b ≠ a) : Ax Z h' b ty n w := by obtain ⟨h0, c, A, r⟩ := F; exact ⟨h0, c, A.other W q, r⟩
theorem Ax.keep {a : Addr} {ty : FieldType} {n : Nat} {w : Nat → Value} {ws : List Addr} (F : Ax Z h a ty n w) (K : Keep h h' ws) (q : a ∉ ws) : Ax Z h' a ty n w := by obtain ⟨h0, c, A, r⟩ := F; exact ⟨h0, c, ⟨K.2.1 a c A.1 q, A.2⟩, r⟩
theorem Ax.set {a : Addr} {ty : FieldType} {n k : Nat} {v : Value} {w : Nat → Value} (F : Ax Z h a ty n w) (W : Wr h h' a k v) : Ax Z h' a ty n (fun j => if j = k then v else w j) := by
  obtain ⟨h0, c, A, r1, r2⟩ := F
  refine ⟨h0, _, A.same W, by rw [sz_set]; exact r1, fun j hj => ?_⟩
  by_cases q : j = k
  · subst q; simp [Cell.setSlot, r1, hj]
  · simp only [Cell.setSlot, if_neg q]; rw [Array.getElem?_setIfInBounds_ne (Ne.symm q)]; exact r2 j hj
theorem Ax.eqw {a : Addr} {ty : FieldType} {n : Nat} {w w' : Nat → Value} (F : Ax Z h a ty n w) (q : ∀ j, j < n → w j = w' j) : Ax Z h a ty n w' := by
  obtain ⟨h0, c, A, r1, r2⟩ := F
  exact ⟨h0, c, A, r1, fun j hj => by rw [← q j hj]; exact r2 j hj⟩
theorem own_idx {j : Int32} {k n : Nat} (hk : j.toInt = (k : Int)) (hn : k < n) : ¬ (j < 0 ∨ n ≤ j.toNatClampNeg) ∧ j.toNatClampNeg = k := by
  have e0 : (0 : Int32).toInt = 0 := rfl
  have e1 : j.toNatClampNeg = j.toInt.toNat := rfl
  rw [Int32.lt_iff_toInt_lt, e0, e1, hk]; omega
theorem g_getF (X : Stand p l e R s m args below meth c T locs cells slots) (B : Bdy p s m meth c Z a0 own nm bytes maxL rt tabs) {i : Nat} {R0 O n d : String} {a : Addr} {v : Value} (w : (Jvm.Cond.fieldLink own i R0 n d).before a0 Z = true) (via : Via Z R0 O n d) (eT : T.heap = h) (F : Fld Z h a O n d v) (hd : decode bytes pc = .ok (.getfield i, 3)) (hp : pc + 3 = pc')
    (K : ∀ T' : State, Stand p l e R s m args below meth c T' locs cells slots → T'.heap = h → Go p e below s nc ns Q (T'.setTop (mkF m pc' Ls (v :: St)))) : Go p e below s nc ns Q (T.setTop (mkF m pc Ls (.ref a :: St))) := by
  subst hp
  obtain ⟨T', X', e', st⟩ := getF X B.x B.z B.o (host := "") (Or.inl w) via eT F (g := mkF m pc Ls (.ref a :: St)) rfl rfl (B.d hd)
  exact Go.step st (K T' X' e')
theorem g_putF (X : Stand p l e R s m args below meth c T locs cells slots) (B : Bdy p s m meth c Z a0 own nm bytes maxL rt tabs) {i kk : Nat} {R0 O n d C : String} {a : Addr} {v old : Value} {ty : FieldType} (w : (Jvm.Cond.fieldLink own i R0 n d).before a0 Z = true) (via : Via Z R0 O n d) (eT : T.heap = h) (F : Fld Z h a O n d old) (E : Exa Z h a C)
    (L : (Jvm.Cond.lays C O n d).before a0 Z = true ∨ ((Jvm.Cond.laysFinal C O n d).before a0 Z = true ∧ own = O ∧ nm = "<init>")) (wi : (Jvm.Cond.instantiable C kk).before a0 Z = true) (hty : parseFieldDescriptor d = some ty) (hn : narrow ty v = v) (hf : fits ty v = true)
    (hd : decode bytes pc = .ok (.putfield i, 3)) (hp : pc + 3 = pc')
    (K : ∀ (T' : State) (h' : Heap), Stand p l e R s m args below meth c T' (locs ++ [⟨a, Jvm.RoadKit.slotOf Z O n d⟩]) cells slots → T'.heap = h' → Wr h h' a (Jvm.RoadKit.slotOf Z O n d) v → Go p e below s nc ns Q (T'.setTop (mkF m pc' Ls St))) : Go p e below s nc ns Q (T.setTop (mkF m pc Ls (v :: .ref a :: St))) := by
  subst hp
  obtain ⟨T', h', X', e', W, st⟩ := putF X B.x B.z B.o (host := "") (Or.inl w) via eT F E (L.imp id fun q => ⟨q.1, q.2.1, B.n.trans q.2.2⟩) wi hty hn hf (g := mkF m pc Ls (v :: .ref a :: St)) rfl rfl (B.d hd)
  exact Go.step st (K T' h' X' e' W)
theorem g_getS (X : Stand p l e R s m args below meth c T locs cells slots) (B : Bdy p s m meth c Z a0 own nm bytes maxL rt tabs) {i : Nat} {R0 O n d : String} {v : Value} (w : (Jvm.Cond.fieldLink own i R0 n d).before a0 Z = true) (via : Via Z R0 O n d) (eT : T.heap = h) (F : Sta Z h O n d v) (hd : decode bytes pc = .ok (.getstatic i, 3)) (hp : pc + 3 = pc')
    (K : ∀ T' : State, Stand p l e R s m args below meth c T' locs cells slots → T'.heap = h → Go p e below s nc ns Q (T'.setTop (mkF m pc' Ls (v :: St)))) : Go p e below s nc ns Q (T.setTop (mkF m pc Ls St)) := by
  subst hp
  obtain ⟨T', X', e', st⟩ := getS X B.x B.z B.o (host := "") w via eT F (g := mkF m pc Ls St) rfl (B.d hd)
  exact Go.step st (K T' X' e')
theorem g_new (X : Stand p l e R s m args below meth c T locs cells slots) (B : Bdy p s m meth c Z a0 own nm bytes maxL rt tabs) {i n : Nat} {C : String} (w : (Jvm.Cond.classLink own i C).before a0 Z = true) (wi : (Jvm.Cond.instantiable C n).before a0 Z = true) (wz : (Jvm.Cond.initialized C).before a0 Z = true) (eT : T.heap = h) (hd : decode bytes pc = .ok (.new i, 3)) (hp : pc + 3 = pc') (hc : cells + 1 ≤ R.cells) (hl : slots + n ≤ R.slots)
    (K : ∀ (T' : State) (h' : Heap) (a : Addr), a = h.size → Stand p l e R s m args below meth c T' locs (cells + 1) (slots + n) → T'.heap = h' → Ext h h' → Exa Z h' a C → (∀ {O nm d : String} {ty : FieldType}, Laid Z a0 C O nm d → parseFieldDescriptor d = some ty → Fld Z h' a O nm d (defaultValue ty)) → Go p e below s nc ns Q (T'.setTop (mkF m pc' Ls (.ref a :: St)))) : Go p e below s nc ns Q (T.setTop (mkF m pc Ls St)) := by
  subst hp
  obtain ⟨T', h', X', e', E, A, D, -, st⟩ := newO X B.x B.z B.o w wi wz eT (g := mkF m pc Ls St) rfl (B.d hd) hc hl
  exact Go.step st (K T' h' _ rfl X' e' E A D)
theorem g_newA (X : Stand p l e R s m args below meth c T locs cells slots) (B : Bdy p s m meth c Z a0 own nm bytes maxL rt tabs) {aty : ArrayType} {z : Int32} (k cap : Nat) (w : (Jvm.Cond.arrayClass (newarray.typeOf aty)).before a0 Z = true) (eT : T.heap = h) (hz : z.toInt = (k : Int)) (hcap : k ≤ cap) (hb : cap * 8 ≤ 536870912) (hd : decode bytes pc = .ok (.newarray aty, 2)) (hp : pc + 2 = pc') (hc : cells + 1 ≤ R.cells) (hl : slots + cap ≤ R.slots)
    (K : ∀ (T' : State) (h' : Heap) (a : Addr), a = h.size → Stand p l e R s m args below meth c T' locs (cells + 1) (slots + cap) → T'.heap = h' → Ext h h' → Ax Z h' a (newarray.typeOf aty) k (fun _ => defaultValue (newarray.typeOf aty)) → Go p e below s nc ns Q (T'.setTop (mkF m pc' Ls (.ref a :: St)))) : Go p e below s nc ns Q (T.setTop (mkF m pc Ls (.int z :: St))) := by
  subst hp
  have e1 : z.toNatClampNeg = k := by show z.toInt.toNat = k; omega
  have e0 : (0 : Int32).toInt = 0 := rfl
  have hlt := z.toInt_lt
  obtain ⟨T', h', cA, X', e', E, A, st⟩ := newP X B.x B.z w eT (g := mkF m pc Ls (.int z :: St)) rfl (B.d hd) rfl (by rw [Int32.lt_iff_toInt_lt, e0]; omega) (cap := cap) (by omega) hb hc hl
  refine Go.step st (K T' h' _ rfl X' e' E ⟨by omega, _, A, (sz_new _ _ _).trans e1, fun j hj => ?_⟩)
  simp [newA, e1, hj]
theorem g_arrlen (X : Stand p l e R s m args below meth c T locs cells slots) (B : Bdy p s m meth c Z a0 own nm bytes maxL rt tabs) {a : Addr} {ty : FieldType} {n : Nat} {w : Nat → Value} (z : Int32) (eT : T.heap = h) (F : Ax Z h a ty n w) (hz : z.toInt = (n : Int)) (hd : decode bytes pc = .ok (.arraylength, 1)) (hp : pc + 1 = pc') (K : Go p e below s nc ns Q (T.setTop (mkF m pc' Ls (.int z :: St)))) : Go p e below s nc ns Q (T.setTop (mkF m pc Ls (.ref a :: St))) := by
  subst hp
  obtain ⟨h0, c, A, r1, -⟩ := F
  have ez : c.slots.size.toInt32 = z := by
    apply Int32.toInt_inj.mp; rw [hz, r1]; exact Int32.toInt_ofNat_small (by omega)
  refine Go.step (fun t q => X.arraylength B.x (by rw [eT]; exact A.1) (State.isArrayOf_alike B.z.alike A.2.1) (g := mkF m pc Ls (.ref a :: St)) rfl rfl (B.d hd) t (by rw [ez]; exact q)) K
theorem g_iaload (X : Stand p l e R s m args below meth c T locs cells slots) (B : Bdy p s m meth c Z a0 own nm bytes maxL rt tabs) {a : Addr} {n : Nat} {w : Nat → Value} {j : Int32} {v : Value} (k : Nat) (eT : T.heap = h) (F : Ax Z h a .int n w) (hk : j.toInt = (k : Int)) (hn : k < n) (hv : w k = v) (hd : decode bytes pc = .ok (.iaload, 1)) (hp : pc + 1 = pc') (K : Go p e below s nc ns Q (T.setTop (mkF m pc' Ls (v :: St)))) : Go p e below s nc ns Q (T.setTop (mkF m pc Ls (.int j :: .ref a :: St))) := by
  subst hp
  obtain ⟨h0, c, A, r1, r2⟩ := F
  obtain ⟨q1, q2⟩ := own_idx hk hn
  exact Go.step (fun t q => X.iaload B.x (v := v) (by rw [eT]; exact A.1) (State.isArrayOf_alike B.z.alike A.2.1) A.2.2 (by rw [r1]; exact q1) (by rw [q2, ← hv]; exact r2 k hn) (g := mkF m pc Ls (.int j :: .ref a :: St)) rfl rfl (B.d hd) t q) K
theorem g_laload (X : Stand p l e R s m args below meth c T locs cells slots) (B : Bdy p s m meth c Z a0 own nm bytes maxL rt tabs) {a : Addr} {n : Nat} {w : Nat → Value} {j : Int32} {v : Value} (k : Nat) (eT : T.heap = h) (F : Ax Z h a .long n w) (hk : j.toInt = (k : Int)) (hn : k < n) (hv : w k = v) (hd : decode bytes pc = .ok (.laload, 1)) (hp : pc + 1 = pc') (K : Go p e below s nc ns Q (T.setTop (mkF m pc' Ls (v :: St)))) : Go p e below s nc ns Q (T.setTop (mkF m pc Ls (.int j :: .ref a :: St))) := by
  subst hp
  obtain ⟨h0, c, A, r1, r2⟩ := F
  obtain ⟨q1, q2⟩ := own_idx hk hn
  exact Go.step (fun t q => X.laload B.x (v := v) (by rw [eT]; exact A.1) (State.isArrayOf_alike B.z.alike A.2.1) A.2.2 (by rw [r1]; exact q1) (by rw [q2, ← hv]; exact r2 k hn) (g := mkF m pc Ls (.int j :: .ref a :: St)) rfl rfl (B.d hd) t q) K
theorem g_baloadB (X : Stand p l e R s m args below meth c T locs cells slots) (B : Bdy p s m meth c Z a0 own nm bytes maxL rt tabs) {a : Addr} {n : Nat} {w : Nat → Value} {j : Int32} {v : Value} (k : Nat) (eT : T.heap = h) (F : Ax Z h a .byte n w) (hk : j.toInt = (k : Int)) (hn : k < n) (hv : w k = v) (hd : decode bytes pc = .ok (.baload, 1)) (hp : pc + 1 = pc') (K : Go p e below s nc ns Q (T.setTop (mkF m pc' Ls (v :: St)))) : Go p e below s nc ns Q (T.setTop (mkF m pc Ls (.int j :: .ref a :: St))) := by
  subst hp
  obtain ⟨h0, c, A, r1, r2⟩ := F
  obtain ⟨q1, q2⟩ := own_idx hk hn
  exact Go.step (fun t q => X.baloadBytes B.x (v := v) (by rw [eT]; exact A.1) (State.isArrayOf_alike B.z.alike A.2.1) A.2.2 (by rw [r1]; exact q1) (by rw [q2, ← hv]; exact r2 k hn) (g := mkF m pc Ls (.int j :: .ref a :: St)) rfl rfl (B.d hd) t q) K
theorem g_baloadZ (X : Stand p l e R s m args below meth c T locs cells slots) (B : Bdy p s m meth c Z a0 own nm bytes maxL rt tabs) {a : Addr} {n : Nat} {w : Nat → Value} {j : Int32} {v : Value} (k : Nat) (eT : T.heap = h) (F : Ax Z h a .boolean n w) (hk : j.toInt = (k : Int)) (hn : k < n) (hv : w k = v) (hd : decode bytes pc = .ok (.baload, 1)) (hp : pc + 1 = pc') (K : Go p e below s nc ns Q (T.setTop (mkF m pc' Ls (v :: St)))) : Go p e below s nc ns Q (T.setTop (mkF m pc Ls (.int j :: .ref a :: St))) := by
  subst hp
  obtain ⟨h0, c, A, r1, r2⟩ := F
  obtain ⟨q1, q2⟩ := own_idx hk hn
  exact Go.step (fun t q => X.baloadBooleans B.x (v := v) (by rw [eT]; exact A.1) (State.isArrayOf_alike B.z.alike A.2.1) A.2.2 (by rw [r1]; exact q1) (by rw [q2, ← hv]; exact r2 k hn) (g := mkF m pc Ls (.int j :: .ref a :: St)) rfl rfl (B.d hd) t q) K
theorem g_iastore (X : Stand p l e R s m args below meth c T locs cells slots) (B : Bdy p s m meth c Z a0 own nm bytes maxL rt tabs) {a : Addr} {n : Nat} {w : Nat → Value} {j x : Int32} (k : Nat) (eT : T.heap = h) (F : Ax Z h a .int n w) (hk : j.toInt = (k : Int)) (hn : k < n) (hd : decode bytes pc = .ok (.iastore, 1)) (hp : pc + 1 = pc')
    (K : ∀ (T' : State) (h' : Heap), Stand p l e R s m args below meth c T' (locs ++ [⟨a, k⟩]) cells slots → T'.heap = h' → Wr h h' a k (.int x) → Go p e below s nc ns Q (T'.setTop (mkF m pc' Ls St))) : Go p e below s nc ns Q (T.setTop (mkF m pc Ls (.int x :: .int j :: .ref a :: St))) := by
  subst hp
  obtain ⟨h0, c, A, r1, r2⟩ := F
  obtain ⟨q1, q2⟩ := own_idx hk hn
  obtain ⟨T', h', X', e', W, st⟩ := stI X B.x B.z eT A (j := j) (x := x) (by rw [r1]; exact q1) (g := mkF m pc Ls (.int x :: .int j :: .ref a :: St)) rfl rfl (B.d hd)
  rw [q2] at X' W
  exact Go.step st (K T' h' X' e' W)
theorem g_lastore (X : Stand p l e R s m args below meth c T locs cells slots) (B : Bdy p s m meth c Z a0 own nm bytes maxL rt tabs) {a : Addr} {n : Nat} {w : Nat → Value} {j : Int32} {x : Int64} (k : Nat) (eT : T.heap = h) (F : Ax Z h a .long n w) (hk : j.toInt = (k : Int)) (hn : k < n) (hd : decode bytes pc = .ok (.lastore, 1)) (hp : pc + 1 = pc')
    (K : ∀ (T' : State) (h' : Heap), Stand p l e R s m args below meth c T' (locs ++ [⟨a, k⟩]) cells slots → T'.heap = h' → Wr h h' a k (.long x) → Go p e below s nc ns Q (T'.setTop (mkF m pc' Ls St))) : Go p e below s nc ns Q (T.setTop (mkF m pc Ls (.long x :: .int j :: .ref a :: St))) := by
  subst hp
  obtain ⟨h0, c, A, r1, r2⟩ := F
  obtain ⟨q1, q2⟩ := own_idx hk hn
  obtain ⟨T', h', X', e', W, st⟩ := stJ X B.x B.z eT A (j := j) (x := x) (by rw [r1]; exact q1) (g := mkF m pc Ls (.long x :: .int j :: .ref a :: St)) rfl rfl (B.d hd)
  rw [q2] at X' W
  exact Go.step st (K T' h' X' e' W)
theorem g_bastoreB (X : Stand p l e R s m args below meth c T locs cells slots) (B : Bdy p s m meth c Z a0 own nm bytes maxL rt tabs) {a : Addr} {n : Nat} {w : Nat → Value} {j x : Int32} (k : Nat) (eT : T.heap = h) (F : Ax Z h a .byte n w) (hk : j.toInt = (k : Int)) (hn : k < n) (hd : decode bytes pc = .ok (.bastore, 1)) (hp : pc + 1 = pc')
    (K : ∀ (T' : State) (h' : Heap), Stand p l e R s m args below meth c T' (locs ++ [⟨a, k⟩]) cells slots → T'.heap = h' → Wr h h' a k (.int (nar .byte x)) → Go p e below s nc ns Q (T'.setTop (mkF m pc' Ls St))) : Go p e below s nc ns Q (T.setTop (mkF m pc Ls (.int x :: .int j :: .ref a :: St))) := by
  subst hp
  obtain ⟨h0, c, A, r1, r2⟩ := F
  obtain ⟨q1, q2⟩ := own_idx hk hn
  obtain ⟨T', h', X', e', W, st⟩ := stB X B.x B.z eT A (j := j) (x := x) (by rw [r1]; exact q1) (g := mkF m pc Ls (.int x :: .int j :: .ref a :: St)) rfl rfl (B.d hd)
  rw [q2] at X' W
  exact Go.step st (K T' h' X' e' W)
theorem g_bastoreZ (X : Stand p l e R s m args below meth c T locs cells slots) (B : Bdy p s m meth c Z a0 own nm bytes maxL rt tabs) {a : Addr} {n : Nat} {w : Nat → Value} {j x : Int32} (k : Nat) (eT : T.heap = h) (F : Ax Z h a .boolean n w) (hk : j.toInt = (k : Int)) (hn : k < n) (hd : decode bytes pc = .ok (.bastore, 1)) (hp : pc + 1 = pc')
    (K : ∀ (T' : State) (h' : Heap), Stand p l e R s m args below meth c T' (locs ++ [⟨a, k⟩]) cells slots → T'.heap = h' → Wr h h' a k (.int (nar .boolean x)) → Go p e below s nc ns Q (T'.setTop (mkF m pc' Ls St))) : Go p e below s nc ns Q (T.setTop (mkF m pc Ls (.int x :: .int j :: .ref a :: St))) := by
  subst hp
  obtain ⟨h0, c, A, r1, r2⟩ := F
  obtain ⟨q1, q2⟩ := own_idx hk hn
  obtain ⟨T', h', X', e', W, st⟩ := stZ X B.x B.z eT A (j := j) (x := x) (by rw [r1]; exact q1) (g := mkF m pc Ls (.int x :: .int j :: .ref a :: St)) rfl rfl (B.d hd)
  rw [q2] at X' W
  exact Go.step st (K T' h' X' e' W)
theorem g_castore (X : Stand p l e R s m args below meth c T locs cells slots) (B : Bdy p s m meth c Z a0 own nm bytes maxL rt tabs) {a : Addr} {n : Nat} {w : Nat → Value} {j x : Int32} (k : Nat) (eT : T.heap = h) (F : Ax Z h a .char n w) (hk : j.toInt = (k : Int)) (hn : k < n) (hd : decode bytes pc = .ok (.castore, 1)) (hp : pc + 1 = pc')
    (K : ∀ (T' : State) (h' : Heap), Stand p l e R s m args below meth c T' (locs ++ [⟨a, k⟩]) cells slots → T'.heap = h' → Wr h h' a k (.int (nar .char x)) → Go p e below s nc ns Q (T'.setTop (mkF m pc' Ls St))) : Go p e below s nc ns Q (T.setTop (mkF m pc Ls (.int x :: .int j :: .ref a :: St))) := by
  subst hp
  obtain ⟨h0, c, A, r1, r2⟩ := F
  obtain ⟨q1, q2⟩ := own_idx hk hn
  obtain ⟨T', h', X', e', W, st⟩ := stC X B.x B.z eT A (j := j) (x := x) (by rw [r1]; exact q1) (g := mkF m pc Ls (.int x :: .int j :: .ref a :: St)) rfl rfl (B.d hd)
  rw [q2] at X' W
  exact Go.step st (K T' h' X' e' W)
theorem g_sastore (X : Stand p l e R s m args below meth c T locs cells slots) (B : Bdy p s m meth c Z a0 own nm bytes maxL rt tabs) {a : Addr} {n : Nat} {w : Nat → Value} {j x : Int32} (k : Nat) (eT : T.heap = h) (F : Ax Z h a .short n w) (hk : j.toInt = (k : Int)) (hn : k < n) (hd : decode bytes pc = .ok (.sastore, 1)) (hp : pc + 1 = pc')
    (K : ∀ (T' : State) (h' : Heap), Stand p l e R s m args below meth c T' (locs ++ [⟨a, k⟩]) cells slots → T'.heap = h' → Wr h h' a k (.int (nar .short x)) → Go p e below s nc ns Q (T'.setTop (mkF m pc' Ls St))) : Go p e below s nc ns Q (T.setTop (mkF m pc Ls (.int x :: .int j :: .ref a :: St))) := by
  subst hp
  obtain ⟨h0, c, A, r1, r2⟩ := F
  obtain ⟨q1, q2⟩ := own_idx hk hn
  obtain ⟨T', h', X', e', W, st⟩ := stS X B.x B.z eT A (j := j) (x := x) (by rw [r1]; exact q1) (g := mkF m pc Ls (.int x :: .int j :: .ref a :: St)) rfl rfl (B.d hd)
  rw [q2] at X' W
  exact Go.step st (K T' h' X' e' W)
theorem g_initO (X : Stand p l e R s m args below meth c T locs cells slots) (B : Bdy p s m meth c Z a0 own nm bytes maxL rt tabs) {i : Nat} {a : Addr} (W : Nat) (w1 : (Jvm.Cond.methodLink own i Lib.objectInit).before a0 Z = true) (w2 : (Jvm.Cond.instanceMethod Lib.objectInit).before a0 Z = true) (w3 : (Jvm.Cond.code Lib.objectInit ⟨#[0xb1]⟩ 1 none).before a0 Z = true) (eT : T.heap = h) (hsz : Ls.size = maxL) (hd : decode bytes pc = .ok (.invokespecial i, 3)) (hp : pc + 3 = pc')
    (hf : 1 ≤ R.frames) (hW : (St.map fun v => v.category).sum ≤ W) (hl : W + 12 ≤ R.locals) (K : ∀ T' : State, Stand p l e R s m args below meth c T' locs cells slots → T'.heap = h → Go p e below s nc ns Q (T'.setTop (mkF m pc' Ls St))) : Go p e below s nc ns Q (T.setTop (mkF m pc Ls (.ref a :: St))) := by
  subst hp
  obtain ⟨T', X', e', st⟩ := initO X B.x B.z B.o w1 w2 w3 eT (g := mkF m pc Ls (.ref a :: St)) rfl (by rw [B.ml]; exact hsz) rfl (B.d hd) hf (W := W) (by show 2 * 0 + _ ≤ _; omega) hl
  exact Go.step st (K T' X' e')
theorem g_special (X : Stand p l e R s m args below meth c T locs cells slots) (B : Bdy p s m meth c Z a0 own nm bytes maxL rt tabs) {y : MethodName} {i : Nat} {yb : ByteArray} {ym : Nat} {rm : Room} {a : Addr} {argsL rest : List Value} {Qc : Option Value → Heap → List Loc → Prop} (eT : T.heap = h) (W : Nat) (hy1 : y.name = "<init>")
    (w1 : (Jvm.Cond.methodLink own i y).before a0 Z = true) (w2 : (Jvm.Cond.instanceMethod y).before a0 Z = true) (w3 : (Jvm.Cond.initialized y.cls).before a0 Z = true) (w4 : (Jvm.Cond.code y yb ym none).before a0 Z = true) (hy : y.cls ≠ "java/lang/invoke/MethodHandle" ∧ y.cls ≠ "java/lang/invoke/VarHandle")
    (M : Met l Z y yb ym none [] rm (.ref a :: argsL).toArray h Qc) (hf : rm.frames + 1 ≤ R.frames) (hl : W + (ym + 11) + rm.locals ≤ R.locals) (hc : cells + rm.cells ≤ R.cells) (hs : slots + rm.slots ≤ R.slots)
    (hsz : Ls.size = maxL) (hlen : ∀ sig, parseMethodDescriptor y.desc = some sig → argsL.length = sig.parameters.length) (hst : St = argsL.reverse ++ .ref a :: rest) (hW : (rest.map fun v => v.category).sum ≤ W) (hd : decode bytes pc = .ok (.invokespecial i, 3)) (hp : pc + 3 = pc')
    (K : ∀ (T' : State) (v : Option Value) (L : List Loc), Stand p l e R s m args below meth c T' (locs ++ L) (cells + rm.cells) (slots + rm.slots) → Qc v T'.heap L → Go p e below s nc ns Q (T'.setTop (mkF m pc' Ls (v.toList ++ rest)))) : Go p e below s nc ns Q (T.setTop (mkF m pc Ls St)) := by
  subst hp
  obtain ⟨v, _, ⟨T', L', k', n'⟩, -, X', ⟨Lc, hQ, l', y', z'⟩, st⟩ := X.specialBack B.x (y := y) hy1 B.o (mvT B.z w1) (mvT B.z w2) (mvT B.z w4) hy (backOf (W := W) M B.z w4 w3 hf hl) (g := mkF m pc Ls St) rfl (by rw [B.ml]; exact hsz) (Steps.refl _) (a := a) (argsL := argsL) (rest := rest) hlen hst (by show 2 * 0 + _ ≤ _; omega) (B.d hd) (fun _ _ => ⟨rfl, eT, hc, hs⟩)
  dsimp only [Pt.U, Pt.locs, Pt.cells, Pt.slots] at X' l' y' z' st hQ
  subst l' y' z'
  exact Go.step (fun t q => st.trans q) (K T' v Lc X' hQ)
theorem g_virtual (X : Stand p l e R s m args below meth c T locs cells slots) (B : Bdy p s m meth c Z a0 own nm bytes maxL rt tabs) {y : MethodName} {C : String} {i : Nat} {yb : ByteArray} {ym : Nat} {yr : Option FieldType} {rm : Room} {a : Addr} {argsL rest : List Value} {Qc : Option Value → Heap → List Loc → Prop} (eT : T.heap = h) (W : Nat) (E : Exa Z h a C)
    (w1 : (Jvm.Cond.methodLink own i y).before a0 Z = true) (wd : (Jvm.Cond.declares y).before a0 Z = true) (wsel : (Jvm.Cond.selects C y y).before a0 Z = true) (w2 : (Jvm.Cond.instanceMethod y).before a0 Z = true) (w3 : (Jvm.Cond.initialized y.cls).before a0 Z = true) (w4 : (Jvm.Cond.code y yb ym yr).before a0 Z = true) (hy : y.cls ≠ "java/lang/invoke/MethodHandle" ∧ y.cls ≠ "java/lang/invoke/VarHandle")
    (M : Met l Z y yb ym yr [] rm (.ref a :: argsL).toArray h Qc) (hf : rm.frames + 1 ≤ R.frames) (hl : W + (ym + 11) + rm.locals ≤ R.locals) (hc : cells + rm.cells ≤ R.cells) (hs : slots + rm.slots ≤ R.slots)
    (hsz : Ls.size = maxL) (hlen : ∀ sig, parseMethodDescriptor y.desc = some sig → argsL.length = sig.parameters.length) (hst : St = argsL.reverse ++ .ref a :: rest) (hW : (rest.map fun v => v.category).sum ≤ W) (hd : decode bytes pc = .ok (.invokevirtual i, 3)) (hp : pc + 3 = pc')
    (K : ∀ (T' : State) (v : Option Value) (L : List Loc), Stand p l e R s m args below meth c T' (locs ++ L) (cells + rm.cells) (slots + rm.slots) → Qc v T'.heap L → Go p e below s nc ns Q (T'.setTop (mkF m pc' Ls (v.toList ++ rest)))) : Go p e below s nc ns Q (T.setTop (mkF m pc Ls St)) := by
  subst hp
  obtain ⟨cq, kq, q1, q2, q3⟩ := isOf B.z eT E
  obtain ⟨v, _, ⟨T', L', k', n'⟩, -, X', ⟨Lc, hQ, l', y', z'⟩, st⟩ := X.virtualBack B.x (y := y) (z := y) B.o (mvT B.z w1) (mvT B.z wd) (notFace_of_selects (args := #[]) (mvT B.z wsel)) (mvT B.z wsel) (mvT B.z w2) hy (backOf (W := W) M B.z w4 w3 hf hl) q1 q3 (g := mkF m pc Ls St) rfl (by rw [B.ml]; exact hsz) (Steps.refl _) (argsL := argsL) (rest := rest) hlen hst (by show 2 * 0 + _ ≤ _; omega) (B.d hd) (fun _ _ => ⟨rfl, eT, hc, hs⟩)
  dsimp only [Pt.U, Pt.locs, Pt.cells, Pt.slots] at X' l' y' z' st hQ
  subst l' y' z'
  exact Go.step (fun t q => st.trans q) (K T' v Lc X' hQ)
theorem g_ifnullR (X : Stand p l e R s m args below meth c T locs cells slots) (B : Bdy p s m meth c Z a0 own nm bytes maxL rt tabs) {a : Addr} {o : Int} (hd : decode bytes pc = .ok (.ifnull o, 3)) (hp : pc + 3 = pc') (K : Go p e below s nc ns Q (T.setTop (mkF m pc' Ls St))) : Go p e below s nc ns Q (T.setTop (mkF m pc Ls (.ref a :: St))) := by
  subst hp; exact Go.step (fun t q => XS.ifnullNo X.here B.x (g := mkF m pc Ls (.ref a :: St)) rfl (B.d hd) rfl q) K
theorem g_ifnullN (X : Stand p l e R s m args below meth c T locs cells slots) (B : Bdy p s m meth c Z a0 own nm bytes maxL rt tabs) {o : Int} (hd : decode bytes pc = .ok (.ifnull o, 3)) (ho : 0 ≤ (pc : Int) + o) (hp : ((pc : Int) + o).toNat = pc') (K : Go p e below s nc ns Q (T.setTop (mkF m pc' Ls St))) : Go p e below s nc ns Q (T.setTop (mkF m pc Ls (.null :: St))) :=
  Go.step (fun t q => XS.ifnullYes X.here B.x (g := mkF m pc Ls (.null :: St)) rfl rfl (B.d hd) rfl ho hp q) K
theorem g_ifnonnullR (X : Stand p l e R s m args below meth c T locs cells slots) (B : Bdy p s m meth c Z a0 own nm bytes maxL rt tabs) {a : Addr} {o : Int} (hd : decode bytes pc = .ok (.ifnonnull o, 3)) (ho : 0 ≤ (pc : Int) + o) (hp : ((pc : Int) + o).toNat = pc') (K : Go p e below s nc ns Q (T.setTop (mkF m pc' Ls St))) : Go p e below s nc ns Q (T.setTop (mkF m pc Ls (.ref a :: St))) :=
  Go.step (fun t q => XS.ifnonnullYes X.here B.x (g := mkF m pc Ls (.ref a :: St)) rfl rfl (B.d hd) rfl ho hp q) K
theorem g_ifnonnullN (X : Stand p l e R s m args below meth c T locs cells slots) (B : Bdy p s m meth c Z a0 own nm bytes maxL rt tabs) {o : Int} (hd : decode bytes pc = .ok (.ifnonnull o, 3)) (hp : pc + 3 = pc') (K : Go p e below s nc ns Q (T.setTop (mkF m pc' Ls St))) : Go p e below s nc ns Q (T.setTop (mkF m pc Ls (.null :: St))) := by
  subst hp; exact Go.step (fun t q => XS.ifnonnullNo X.here B.x (g := mkF m pc Ls (.null :: St)) rfl (B.d hd) rfl q) K
theorem g_acmp_eq (X : Stand p l e R s m args below meth c T locs cells slots) (B : Bdy p s m meth c Z a0 own nm bytes maxL rt tabs) {a b : Addr} {o : Int} {pcT pcF : Nat} (hd : decode bytes pc = .ok (.if_acmp .eq o, 3)) (ho : 0 ≤ (pc : Int) + o) (hT : ((pc : Int) + o).toNat = pcT) (hF : pc + 3 = pcF) (K1 : a = b → Go p e below s nc ns Q (T.setTop (mkF m pcT Ls St))) (K2 : ¬ a = b → Go p e below s nc ns Q (T.setTop (mkF m pcF Ls St))) : Go p e below s nc ns Q (T.setTop (mkF m pc Ls (.ref b :: .ref a :: St))) := by
  by_cases q : a = b
  · exact Go.step (fun t k => XS.acmpYes X.here B.x (g := mkF m pc Ls (.ref b :: .ref a :: St)) rfl rfl (B.d hd) rfl (by simp [if_acmp.holds, q]) ho hT k) (K1 q)
  · subst hF; exact Go.step (fun t k => XS.acmpNo X.here B.x (g := mkF m pc Ls (.ref b :: .ref a :: St)) rfl (B.d hd) rfl (by simp [if_acmp.holds, q]) k) (K2 q)
theorem g_acmp_ne (X : Stand p l e R s m args below meth c T locs cells slots) (B : Bdy p s m meth c Z a0 own nm bytes maxL rt tabs) {a b : Addr} {o : Int} {pcT pcF : Nat} (hd : decode bytes pc = .ok (.if_acmp .ne o, 3)) (ho : 0 ≤ (pc : Int) + o) (hT : ((pc : Int) + o).toNat = pcT) (hF : pc + 3 = pcF) (K1 : a = b → Go p e below s nc ns Q (T.setTop (mkF m pcF Ls St))) (K2 : ¬ a = b → Go p e below s nc ns Q (T.setTop (mkF m pcT Ls St))) : Go p e below s nc ns Q (T.setTop (mkF m pc Ls (.ref b :: .ref a :: St))) := by
  by_cases q : a = b
  · subst hF; exact Go.step (fun t k => XS.acmpNo X.here B.x (g := mkF m pc Ls (.ref b :: .ref a :: St)) rfl (B.d hd) rfl (by simp [if_acmp.holds, q]) k) (K1 q)
  · exact Go.step (fun t k => XS.acmpYes X.here B.x (g := mkF m pc Ls (.ref b :: .ref a :: St)) rfl rfl (B.d hd) rfl (by simp [if_acmp.holds, q]) ho hT k) (K2 q)
theorem own_fuq {a : Addr} {C n d : String} {v w : Value} (F : Fld Z h a C n d v) (G : Fld Z h a C n d w) : v = w := by
  obtain ⟨c1, _, _, _, _, h1, h2, -, -, -, -, h3⟩ := F
  obtain ⟨c2, _, _, _, _, g1, g2, -, -, -, -, g3⟩ := G
  cases h1.symm.trans g1
  cases h2.symm.trans g2
  exact Option.some.inj (h3.symm.trans g3)
theorem own_fl {x : Addr} {t : Term} {C n d : String} {k : Int32} {as : Array Value} (ht : t.eval as s none [] s = some (.ref x)) (q : (Jvm.Cond.eq (.field t C n d) (.int k)).value as s none s [] = some true) : s.fieldOf? x C n d = some (.int k) := by
  obtain ⟨x', y', e1, e2, k1, k2⟩ := cmp_v (Or.inl q)
  have e3 : y' = .int k := (Option.some.inj ((Term.int_eval k).symm.trans e2)).symm
  subst e3
  obtain ⟨z, rfl⟩ := k2
  have e4 := gotT (Cond.eq_ints e1 e2) q
  subst e4
  rw [← fld_at (C := C) (n := n) (dd := d) ht]; exact e1
end HeapKit
theorem own_ints_nil (x : Int32) : ∀ j : Nat, ∃ v : Int32, (fun _ : Nat => Value.int x) j = .int v := fun _ => ⟨x, rfl⟩
theorem own_ints_set {w : Nat → Value} (H : ∀ j : Nat, ∃ v : Int32, w j = .int v) (k : Nat) (x : Int32) : ∀ j : Nat, ∃ v : Int32, (fun j => if j = k then Value.int x else w j) j = .int v := fun j => by
  by_cases q : j = k
  · exact ⟨x, by simp [q]⟩
  · obtain ⟨v, hv⟩ := H j; exact ⟨v, by simp [q, hv]⟩
section HeapKit2
variable {p : Program} {l : Launch} {e : Env} {R : Room} {s : State} {m : MethodId} {args : Array Value} {below : List Frame} {meth : Method} {c : Code} {T : State} {locs : List Loc} {cells slots : Nat} {Z : State} {a0 : Array Value} {h h' : Heap} {nc ns : Nat} {Q Q' : Option Value → Heap → List Loc → Prop} {pc pc' : Nat} {Ls Ls' : Array Slot} {St : List Value} {own nm : String} {bytes : ByteArray} {maxL : Nat} {rt : Option FieldType} {tabs : List Jvm.Cond}
theorem g_iaload_any (X : Stand p l e R s m args below meth c T locs cells slots) (B : Bdy p s m meth c Z a0 own nm bytes maxL rt tabs) {a : Addr} {n : Nat} {w : Nat → Value} {j : Int32} (k : Nat) (eT : T.heap = h) (F : Ax Z h a .int n w) (hk : j.toInt = (k : Int)) (hn : k < n) (hall : ∀ j : Nat, ∃ v : Int32, w j = .int v) (hd : decode bytes pc = .ok (.iaload, 1)) (hp : pc + 1 = pc') (K : ∀ v : Int32, Go p e below s nc ns Q (T.setTop (mkF m pc' Ls (.int v :: St)))) : Go p e below s nc ns Q (T.setTop (mkF m pc Ls (.int j :: .ref a :: St))) := by
  obtain ⟨v, hv⟩ := hall k
  exact g_iaload X B k eT F hk hn hv hd hp (K v)
end HeapKit2
section HeapKit3
variable {p : Program} {l : Launch} {e : Env} {R : Room} {s : State} {m : MethodId} {args : Array Value} {below : List Frame} {meth : Method} {c : Code} {T : State} {locs : List Loc} {cells slots : Nat} {Z : State} {a0 : Array Value} {h h' : Heap} {nc ns : Nat} {Q Q' : Option Value → Heap → List Loc → Prop} {pc pc' : Nat} {Ls Ls' : Array Slot} {St : List Value} {own nm : String} {bytes : ByteArray} {maxL : Nat} {rt : Option FieldType} {tabs : List Jvm.Cond}
theorem g_private (X : Stand p l e R s m args below meth c T locs cells slots) (B : Bdy p s m meth c Z a0 own nm bytes maxL rt tabs) {y : MethodName} {C : String} {i kk : Nat} {yb : ByteArray} {ym : Nat} {yr : Option FieldType} {rm : Room} {a : Addr} {argsL rest : List Value} {Qc : Option Value → Heap → List Loc → Prop} (eT : T.heap = h) (W : Nat) (E : Exa Z h a C)
    (w1 : (Jvm.Cond.methodLink own i y).before a0 Z = true) (wi : (Jvm.Cond.instantiable y.cls kk).before a0 Z = true) (wp : (Jvm.Cond.privateMethod y).before a0 Z = true) (w2 : (Jvm.Cond.instanceMethod y).before a0 Z = true) (w3 : (Jvm.Cond.initialized y.cls).before a0 Z = true) (w4 : (Jvm.Cond.code y yb ym yr).before a0 Z = true) (hy : y.cls ≠ "java/lang/invoke/MethodHandle" ∧ y.cls ≠ "java/lang/invoke/VarHandle")
    (M : Met l Z y yb ym yr [] rm (.ref a :: argsL).toArray h Qc) (hf : rm.frames + 1 ≤ R.frames) (hl : W + (ym + 11) + rm.locals ≤ R.locals) (hc : cells + rm.cells ≤ R.cells) (hs : slots + rm.slots ≤ R.slots)
    (hsz : Ls.size = maxL) (hlen : ∀ sig, parseMethodDescriptor y.desc = some sig → argsL.length = sig.parameters.length) (hst : St = argsL.reverse ++ .ref a :: rest) (hW : (rest.map fun v => v.category).sum ≤ W) (hd : decode bytes pc = .ok (.invokevirtual i, 3)) (hp : pc + 3 = pc')
    (K : ∀ (T' : State) (v : Option Value) (L : List Loc), Stand p l e R s m args below meth c T' (locs ++ L) (cells + rm.cells) (slots + rm.slots) → Qc v T'.heap L → Go p e below s nc ns Q (T'.setTop (mkF m pc' Ls (v.toList ++ rest)))) : Go p e below s nc ns Q (T.setTop (mkF m pc Ls St)) := by
  subst hp
  obtain ⟨cq, q1, q2⟩ := E.cell
  have wi' : (Jvm.Cond.instantiable y.cls kk).before args s = true := mvT B.z wi
  have w2' : (Jvm.Cond.instanceMethod y).before args s = true := mvT B.z w2
  obtain ⟨c2, k2, i1, i2, i3, i4, -⟩ := Cond.instantiable_spec wi'
  have i5 : k2.isInterface = false := by
    cases hq : k2.isInterface with
    | false => rfl
    | true => rw [hq] at i4; cases i4
  have hpv := Cond.privateMethod_at (mvP B.z wp (args := #[]))
  obtain ⟨v, _, ⟨T', L', k', n'⟩, -, X', ⟨Lc, hQ, l', y', z'⟩, st⟩ := X.privateBack B.x (y := y) B.o (mvT B.z w1) w2' (selects_self_of_private i1 i2 i5 hpv w2' hy) hpv (mvT B.z w4) hy (backOf (W := W) M B.z w4 w3 hf hl) (g := mkF m pc Ls St) rfl (by rw [B.ml]; exact hsz) (Steps.refl _) (a := a) (by rw [eT]; exact q1) q2 (argsL := argsL) (rest := rest) hlen hst (by show 2 * 0 + _ ≤ _; omega) (B.d hd) (fun _ _ => ⟨rfl, eT, hc, hs⟩)
  dsimp only [Pt.U, Pt.locs, Pt.cells, Pt.slots] at X' l' y' z' st hQ
  subst l' y' z'
  exact Go.step (fun t q => st.trans q) (K T' v Lc X' hQ)
theorem g_pop2L (X : Stand p l e R s m args below meth c T locs cells slots) (B : Bdy p s m meth c Z a0 own nm bytes maxL rt tabs) {x : Int64} (hd : decode bytes pc = .ok (.pop2, 1)) (hp : pc + 1 = pc') (K : Go p e below s nc ns Q (T.setTop (mkF m pc' Ls St))) : Go p e below s nc ns Q (T.setTop (mkF m pc Ls (.long x :: St))) := by
  subst hp
  have hd' := B.d hd
  have hx := B.x
  refine Go.step (fun t q => ?_) K
  jvm_step X.here [X.here.top, hx, hd', Value.category]
  exact q
theorem g_instY (X : Stand p l e R s m args below meth c T locs cells slots) (B : Bdy p s m meth c Z a0 own nm bytes maxL rt tabs) {i : Nat} {C : String} {a : Addr} (w : (Jvm.Cond.classLink own i C).before a0 Z = true) (eT : T.heap = h) (F : Ins Z h a C true) (hd : decode bytes pc = .ok (.instanceof i, 3)) (hp : pc + 3 = pc')
    (K : ∀ T' : State, Stand p l e R s m args below meth c T' locs cells slots → T'.heap = h → Go p e below s nc ns Q (T'.setTop (mkF m pc' Ls (.int (1 : Int32) :: St)))) : Go p e below s nc ns Q (T.setTop (mkF m pc Ls (.ref a :: St))) := by
  subst hp
  obtain ⟨T', X', e', st⟩ := instY X B.x B.z B.o w eT F (g := mkF m pc Ls (.ref a :: St)) rfl rfl (B.d hd)
  exact Go.step st (K T' X' e')
theorem g_instN (X : Stand p l e R s m args below meth c T locs cells slots) (B : Bdy p s m meth c Z a0 own nm bytes maxL rt tabs) {i : Nat} {K' C : String} {a : Addr} (w : (Jvm.Cond.classLink own i K').before a0 Z = true) (eT : T.heap = h) (E : Exa Z h a C) (F : ∃ c t, Z.vm.findClass C = some c ∧ Z.vm.findClass K' = some t ∧ Z.vm.assignable c t = false) (hd : decode bytes pc = .ok (.instanceof i, 3)) (hp : pc + 3 = pc')
    (K : ∀ T' : State, Stand p l e R s m args below meth c T' locs cells slots → T'.heap = h → Go p e below s nc ns Q (T'.setTop (mkF m pc' Ls (.int (0 : Int32) :: St)))) : Go p e below s nc ns Q (T.setTop (mkF m pc Ls (.ref a :: St))) := by
  subst hp
  obtain ⟨T', X', e', st⟩ := instNo X B.x B.z B.o w eT E F (g := mkF m pc Ls (.ref a :: St)) rfl rfl (B.d hd)
  exact Go.step st (K T' X' e')
theorem g_castY (X : Stand p l e R s m args below meth c T locs cells slots) (B : Bdy p s m meth c Z a0 own nm bytes maxL rt tabs) {i : Nat} {C : String} {a : Addr} (w : (Jvm.Cond.classLink own i C).before a0 Z = true) (eT : T.heap = h) (F : Ins Z h a C true) (hd : decode bytes pc = .ok (.checkcast i, 3)) (hp : pc + 3 = pc')
    (K : ∀ T' : State, Stand p l e R s m args below meth c T' locs cells slots → T'.heap = h → Go p e below s nc ns Q (T'.setTop (mkF m pc' Ls (.ref a :: St)))) : Go p e below s nc ns Q (T.setTop (mkF m pc Ls (.ref a :: St))) := by
  subst hp
  obtain ⟨T', X', e', st⟩ := castY X B.x B.z B.o w eT F (g := mkF m pc Ls (.ref a :: St)) rfl rfl (B.d hd)
  exact Go.step st (K T' X' e')
theorem g_newAE (X : Stand p l e R s m args below meth c T locs cells slots) (B : Bdy p s m meth c Z a0 own nm bytes maxL rt tabs) {aty : ArrayType} {z : Int32} (ad : String) (k cap : Nat) (w : (Jvm.Cond.arrayClass (newarray.typeOf aty)).before a0 Z = true) (eT : T.heap = h) (hz : z.toInt = (k : Int)) (hcap : k ≤ cap) (hb : cap * 8 ≤ 536870912) (had : "[" ++ (newarray.typeOf aty).toString = ad) (hd : decode bytes pc = .ok (.newarray aty, 2)) (hp : pc + 2 = pc') (hc : cells + 1 ≤ R.cells) (hl : slots + cap ≤ R.slots)
    (K : ∀ (T' : State) (h' : Heap) (a : Addr), a = h.size → Stand p l e R s m args below meth c T' locs (cells + 1) (slots + cap) → T'.heap = h' → Ext h h' → Ax Z h' a (newarray.typeOf aty) k (fun _ => defaultValue (newarray.typeOf aty)) → Exa Z h' a ad → Go p e below s nc ns Q (T'.setTop (mkF m pc' Ls (.ref a :: St)))) : Go p e below s nc ns Q (T.setTop (mkF m pc Ls (.int z :: St))) := by
  subst hp
  have e1 : z.toNatClampNeg = k := by show z.toInt.toNat = k; omega
  have e0 : (0 : Int32).toInt = 0 := rfl
  have hlt := z.toInt_lt
  obtain ⟨T', h', cA, X', e', E, A, Ea, st⟩ := newPE X B.x B.z w eT (g := mkF m pc Ls (.int z :: St)) rfl (B.d hd) rfl (by rw [Int32.lt_iff_toInt_lt, e0]; omega) (cap := cap) (by omega) hb hc hl had
  refine Go.step st (K T' h' _ rfl X' e' E ⟨by omega, _, A, (sz_new _ _ _).trans e1, fun j hj => ?_⟩ Ea)
  simp [newA, e1, hj]
theorem own_arv {a : Addr} {n : Nat} {w : Nat → Value} {ty : FieldType} (d : Value) (F : Ax Z h a ty n w) (hf : ∀ j, j < n → fits ty (w j) = true) : ∃ k, Arv Z h a k ty (Int32.ofNat n) ((List.range n).map w) d := by
  obtain ⟨h0, c, A, r1, r2⟩ := F
  have e0 : (0 : Int32).toInt = 0 := rfl
  have e1 : (Int32.ofNat n).toInt = (n : Int) := Int32.toInt_ofNat_small (by omega)
  have e2 : (Int32.ofNat n).toNatClampNeg = n := by show (Int32.ofNat n).toInt.toNat = n; omega
  have q : ∀ k, k < n → ((List.range n).map w).getD k d = w k := fun k hk => by
    rw [List.getD_eq_getElem?_getD, List.getElem?_map, List.getElem?_range hk]; rfl
  refine ⟨c.cls, c, A, rfl, by rw [r1, e2], by rw [Int32.lt_iff_toInt_lt, e0, e1]; omega, fun k hk => ?_, fun k hk => ?_⟩
  · rw [r1] at hk; rw [q k hk]; exact r2 k hk
  · rw [r1] at hk; rw [q k hk]; exact hf k hk
theorem g_clone (X : Stand p l e R s m args below meth c T locs cells slots) (B : Bdy p s m meth c Z a0 own nm bytes maxL rt tabs) {i : Nat} {ad : String} {a : Addr} {ty : FieldType} {n : Nat} {w : Nat → Value} (W cap : Nat)
    (w1 : (Jvm.Cond.methodLink own i ⟨ad, "clone", "()Ljava/lang/Object;"⟩).before a0 Z = true) (w2 : (Jvm.Cond.sameMethod ad "java/lang/Object" "clone" "()Ljava/lang/Object;").before a0 Z = true) (w3 : (Jvm.Cond.native ⟨"java/lang/Object", "clone", "()Ljava/lang/Object;"⟩).before a0 Z = true)
    (w4 : (Jvm.Cond.instanceMethod ⟨"java/lang/Object", "clone", "()Ljava/lang/Object;"⟩).before a0 Z = true) (w5 : (Jvm.Cond.selects ad ⟨ad, "clone", "()Ljava/lang/Object;"⟩ ⟨"java/lang/Object", "clone", "()Ljava/lang/Object;"⟩).before a0 Z = true) (w6 : (Jvm.Cond.castable ad "java/lang/Cloneable").before a0 Z = true)
    (eT : T.heap = h) (F : Ax Z h a ty n w) (hfit : ∀ j, j < n → fits ty (w j) = true) (E : Exa Z h a ad) (hsz : Ls.size = maxL) (hd : decode bytes pc = .ok (.invokevirtual i, 3)) (hp : pc + 3 = pc') (hf : 1 ≤ R.frames) (hW : (St.map fun v => v.category).sum ≤ W) (hl : W + 14 ≤ R.locals) (hcap : n ≤ cap) (hc : cells + 1 ≤ R.cells) (hsl : slots + cap ≤ R.slots)
    (K : ∀ (T' : State) (h' : Heap) (b : Addr), b = h.size → Stand p l e R s m args below meth c T' locs (cells + 1) (slots + cap) → T'.heap = h' → Ext h h' → Exa Z h' b ad → Go p e below s nc ns Q (T'.setTop (mkF m pc' Ls (.ref b :: St)))) : Go p e below s nc ns Q (T.setTop (mkF m pc Ls (.ref a :: St))) := by
  subst hp
  obtain ⟨k, V⟩ := own_arv (.int 0) F hfit
  have e1 : (Int32.ofNat n).toInt = (n : Int) := Int32.toInt_ofNat_small (by have := F.1; omega)
  obtain ⟨T', h', X', e', Ex, -, Ea, st⟩ := cloneH X B.x B.z B.o w1 w2 w3 w4 w5 w6 eT V.arh E (g := mkF m pc Ls (.ref a :: St)) rfl (by rw [B.ml]; exact hsz) rfl (B.d hd) hf (W := W) (cap := cap) (by show 2 * 0 + _ ≤ _; omega) hl (by show (Int32.ofNat n).toInt.toNat ≤ cap; omega) hc hsl
  exact Go.step st (K T' h' _ rfl X' e' Ex Ea)
theorem g_copy (X : Stand p l e R s m args below meth c T locs cells slots) (B : Bdy p s m meth c Z a0 own nm bytes maxL rt tabs) {i : Nat} {a b : Addr} {ty : FieldType} {n n' : Nat} {w w' : Nat → Value} {sp dp nn : Int32} {n0 : Nat} (ks kd kn W : Nat)
    (w1 : (Jvm.Cond.methodLink own i Jvm.Stand.acN).before a0 Z = true) (w2 : (Jvm.Cond.native Jvm.Stand.acN).before a0 Z = true) (w3 : (Jvm.Cond.static Jvm.Stand.acN).before a0 Z = true) (w4 : (Jvm.Cond.initialized "java/lang/System").before a0 Z = true) (eT : T.heap = h)
    (F : Ax Z h a ty n w) (F' : Ax Z h b ty n' w') (hty : refKind ty = false) (hfit : ∀ j, j < n → fits ty (w j) = true) (hfit' : ∀ j, j < n' → fits ty (w' j) = true) (hs : sp.toInt = (ks : Int)) (hdp : dp.toInt = (kd : Int)) (hnn : nn.toInt = (kn : Int)) (h4 : ks + kn ≤ n) (h5 : kd + kn ≤ n') (N : Fr n0 locs) (ge : n0 ≤ b)
    (hsz : Ls.size = maxL) (hd : decode bytes pc = .ok (.invokestatic i, 3)) (hp : pc + 3 = pc') (hf : 1 ≤ R.frames) (hW : (St.map fun v => v.category).sum ≤ W) (hl : W + 18 ≤ R.locals)
    (K : ∀ (T' : State) (h' : Heap) (L : List Loc), Stand p l e R s m args below meth c T' L cells slots → T'.heap = h' → Fr n0 L → Keep h h' [b] → Go p e below s nc ns Q (T'.setTop (mkF m pc' Ls St))) : Go p e below s nc ns Q (T.setTop (mkF m pc Ls (.int nn :: .int dp :: .ref b :: .int sp :: .ref a :: St))) := by
  subst hp
  obtain ⟨k, V⟩ := own_arv (.int 0) F hfit
  obtain ⟨k', V'⟩ := own_arv (.int 0) F' hfit'
  have e0 : (0 : Int32).toInt = 0 := rfl
  have e1 : (Int32.ofNat n).toInt = (n : Int) := Int32.toInt_ofNat_small (by have := F.1; omega)
  have e2 : (Int32.ofNat n').toInt = (n' : Int) := Int32.toInt_ofNat_small (by have := F'.1; omega)
  obtain ⟨T', h', L, X', e', NL, Kp, -, st⟩ := cpA X B.x B.z B.o w1 w2 w3 w4 eT V V' (Or.inl ⟨rfl, hty⟩) (by rw [Int32.lt_iff_toInt_lt, e0]; omega) (by rw [Int32.lt_iff_toInt_lt, e0]; omega) (by rw [Int32.lt_iff_toInt_lt, e0]; omega) (by show sp.toInt.toNat + nn.toInt.toNat ≤ (Int32.ofNat n).toInt.toNat; omega) (by show dp.toInt.toNat + nn.toInt.toNat ≤ (Int32.ofNat n').toInt.toNat; omega) rfl (by rw [List.length_map, List.length_range]; show dp.toInt.toNat + nn.toInt.toNat ≤ n'; omega) N ge (g := mkF m pc Ls (.int nn :: .int dp :: .ref b :: .int sp :: .ref a :: St)) rfl (by rw [B.ml]; exact hsz) rfl (B.d hd) hf (W := W) (by show 2 * 0 + _ ≤ _; omega) (by show W + (5 + 2 + 11) ≤ _; exact hl)
  exact Go.step st (K T' h' L X' e' NL Kp)
theorem own_root {O K : String} {kk : Nat} (w : (Jvm.Cond.noSuperclass O).before a0 Z = true) (wk : (Jvm.Cond.instantiable K kk).before a0 Z = true) (hn : O ≠ K) : NS Z O K := by
  obtain ⟨c, k, h1, h2, h3, -, -⟩ := Cond.noSuperclass_spec w
  obtain ⟨t, k', g1, -⟩ := Cond.instantiable_spec wk
  have ne := ids_ne h1 g1 hn
  refine ⟨c, t, h1, g1, fun fuel => ?_⟩
  cases fuel with
  | zero => rfl
  | succ f => simp [Vm.isSubclassAux, ne, h2, h3]
theorem own_no {C S K : String} {kk : Nat} (w : (Jvm.Cond.superclass C S).before a0 Z = true) (wk : (Jvm.Cond.instantiable K kk).before a0 Z = true) (n : NS Z C K) (hn : C ≠ K) : ∃ c t, Z.vm.findClass C = some c ∧ Z.vm.findClass K = some t ∧ Z.vm.assignable c t = false := by
  obtain ⟨c, t, h0, g0, n3⟩ := n
  obtain ⟨p, k, kp, h1, h2, h3, h4, h5, -, h7⟩ := Cond.superclass_spec h0 w
  obtain ⟨t', k', g1, g2, g5, g6, -⟩ := Cond.instantiable_spec wk
  cases g0.symm.trans g1
  have g7 : k'.isInterface = false := by
    cases hq : k'.isInterface with
    | false => rfl
    | true => rw [hq] at g6; cases g6
  have ne := ids_ne h0 g0 hn
  refine ⟨c, t, h0, g0, ?_⟩
  show Z.vm.assignableAux (255 + 1) c t = false
  simp [Vm.assignableAux, ne, h2, g2, h5, g5, g7, Vm.isSubclass, n3]
theorem own_old_ext (O : Ext Z.heap h) (E : Ext h h') : Ext Z.heap h' := ⟨Nat.le_trans O.1 E.1, fun a c q => E.2 a c (O.2 a c q)⟩
theorem own_old_keep {ws : List Addr} (O : Ext Z.heap h) (K : Keep h h' ws) (q : ∀ x ∈ ws, Z.heap.size ≤ x) : Ext Z.heap h' := ⟨Nat.le_trans O.1 K.1, fun a c hc => K.2.1 a c (O.2 a c hc) fun hm => absurd (Array.getElem?_eq_some_iff.mp hc).1 (Nat.not_lt.mpr (q a hm))⟩
theorem own_old_wr {a : Addr} {sl : Nat} {v : Value} (O : Ext Z.heap h) (W : Wr h h' a sl v) (q : Z.heap.size ≤ a) : Ext Z.heap h' := own_old_keep O (Keep.of_wr W) fun x hx => by cases List.mem_singleton.mp hx; exact q
theorem g_aaload (X : Stand p l e R s m args below meth c T locs cells slots) (B : Bdy p s m meth c Z a0 own nm bytes maxL rt tabs) {a : Addr} {cl : Cell} {C : String} {j : Int32} {v : Value} (eT : T.heap = h) (A : Arr Z h a cl (.object C)) (hj : ¬ (j < 0 ∨ cl.slots.size ≤ j.toNatClampNeg)) (hv : cl.slots[j.toNatClampNeg]? = some v) (hd : decode bytes pc = .ok (.aaload, 1)) (hp : pc + 1 = pc') (K : Go p e below s nc ns Q (T.setTop (mkF m pc' Ls (v :: St)))) : Go p e below s nc ns Q (T.setTop (mkF m pc Ls (.int j :: .ref a :: St))) := by
  subst hp
  exact Go.step (fun t q => X.aaload B.x (v := v) (by rw [eT]; exact A.1) (State.isArrayOf_alike B.z.alike A.2.1) rfl A.2.2 hj hv (g := mkF m pc Ls (.int j :: .ref a :: St)) rfl rfl (B.d hd) t q) K
theorem g_instNull (X : Stand p l e R s m args below meth c T locs cells slots) (B : Bdy p s m meth c Z a0 own nm bytes maxL rt tabs) {i : Nat} (hd : decode bytes pc = .ok (.instanceof i, 3)) (hp : pc + 3 = pc') (K : Go p e below s nc ns Q (T.setTop (mkF m pc' Ls (.int (0 : Int32) :: St)))) : Go p e below s nc ns Q (T.setTop (mkF m pc Ls (.null :: St))) := by
  subst hp
  have hd' := B.d hd
  have hx := B.x
  refine Go.step (fun t q => ?_) K
  jvm_step X.here [X.here.top, hx, hd', instanceof.sem]
  exact q
end HeapKit3
theorem own_pd0 : parseMethodDescriptor "(III)V" = some ⟨[.int, .int, .int], none⟩ := by decide +kernel
theorem own_pd1 : parseMethodDescriptor "([IIII)I" = some ⟨[(.array .int), .int, .int, .int], some .int⟩ := by decide +kernel
theorem own_pd2 : parseMethodDescriptor "(I)V" = some ⟨[.int], none⟩ := by decide +kernel
theorem own_pd3 : parseMethodDescriptor "()V" = some ⟨[], none⟩ := by decide +kernel
theorem own_pd4 : parseMethodDescriptor "([JI)V" = some ⟨[(.array .long), .int], none⟩ := by decide +kernel
theorem own_pd5 : parseMethodDescriptor "(II)J" = some ⟨[.int, .int], some .long⟩ := by decide +kernel
theorem own_pd6 : parseMethodDescriptor "()Z" = some ⟨[], some .boolean⟩ := by decide +kernel
theorem own_pd7 : parseMethodDescriptor "([J)Lcom/example/unseen_nodes/unseennodes/NodeSet;" = some ⟨[(.array .long)], some (.object "com/example/unseen_nodes/unseennodes/NodeSet")⟩ := by decide +kernel
theorem own_blit {w w' : Nat → Value} {n n' ks kd kn : Nat} (d d' : Value) (h4 : ks + kn ≤ n) (h5 : kd + kn ≤ n') {j : Nat} (hj : j < n') : (((List.range n').map w').take kd ++ ((List.range kn).map fun i => ((List.range n).map w).getD (ks + i) d) ++ ((List.range n').map w').drop (kd + kn)).getD j d' = if kd ≤ j ∧ j < kd + kn then w (ks + (j - kd)) else w' j := by
  have e1 : (((List.range n').map w').take kd).length = kd := by simp; omega
  have e2 : (((List.range n').map w').take kd ++ ((List.range kn).map fun i => ((List.range n).map w).getD (ks + i) d)).length = kd + kn := by rw [List.length_append, e1]; simp
  rw [List.getD_eq_getElem?_getD]
  rcases Nat.lt_or_ge j kd with q | q
  · rw [List.getElem?_append_left (by rw [e2]; omega), List.getElem?_append_left (by rw [e1]; exact q), List.getElem?_take_of_lt q, List.getElem?_map, List.getElem?_range (by omega), if_neg (by omega)]; rfl
  · rcases Nat.lt_or_ge j (kd + kn) with q2 | q2
    · rw [List.getElem?_append_left (by rw [e2]; exact q2), List.getElem?_append_right (by rw [e1]; exact q), e1, List.getElem?_map, List.getElem?_range (by omega), if_pos ⟨q, q2⟩]
      show ((List.range n).map w).getD (ks + (j - kd)) d = _
      rw [List.getD_eq_getElem?_getD, List.getElem?_map, List.getElem?_range (by omega)]; rfl
    · rw [List.getElem?_append_right (by rw [e2]; exact q2), e2, List.getElem?_drop, show kd + kn + (j - (kd + kn)) = j by omega, List.getElem?_map, List.getElem?_range hj, if_neg (by omega)]; rfl
section CopyKit
variable {p : Program} {l : Launch} {e : Env} {R : Room} {s : State} {m : MethodId} {args : Array Value} {below : List Frame} {meth : Method} {c : Code} {T : State} {locs : List Loc} {cells slots : Nat} {Z : State} {a0 : Array Value} {h h' : Heap} {nc ns : Nat} {Q Q' : Option Value → Heap → List Loc → Prop} {pc pc' : Nat} {Ls Ls' : Array Slot} {St : List Value} {own nm : String} {bytes : ByteArray} {maxL : Nat} {rt : Option FieldType} {tabs : List Jvm.Cond}
theorem g_copyV (X : Stand p l e R s m args below meth c T locs cells slots) (B : Bdy p s m meth c Z a0 own nm bytes maxL rt tabs) {i : Nat} {a b : Addr} {ty : FieldType} {n n' : Nat} {w w' : Nat → Value} {sp dp nn : Int32} {n0 : Nat} (ks kd kn W : Nat)
    (w1 : (Jvm.Cond.methodLink own i Jvm.Stand.acN).before a0 Z = true) (w2 : (Jvm.Cond.native Jvm.Stand.acN).before a0 Z = true) (w3 : (Jvm.Cond.static Jvm.Stand.acN).before a0 Z = true) (w4 : (Jvm.Cond.initialized "java/lang/System").before a0 Z = true) (eT : T.heap = h)
    (F : Ax Z h a ty n w) (F' : Ax Z h b ty n' w') (hty : refKind ty = false) (hfit : ∀ j, j < n → fits ty (w j) = true) (hfit' : ∀ j, j < n' → fits ty (w' j) = true) (hs : sp.toInt = (ks : Int)) (hdp : dp.toInt = (kd : Int)) (hnn : nn.toInt = (kn : Int)) (h4 : ks + kn ≤ n) (h5 : kd + kn ≤ n') (N : Fr n0 locs) (ge : n0 ≤ b)
    (hsz : Ls.size = maxL) (hd : decode bytes pc = .ok (.invokestatic i, 3)) (hp : pc + 3 = pc') (hf : 1 ≤ R.frames) (hW : (St.map fun v => v.category).sum ≤ W) (hl : W + 18 ≤ R.locals)
    (K : ∀ (T' : State) (h' : Heap) (L : List Loc), Stand p l e R s m args below meth c T' L cells slots → T'.heap = h' → Fr n0 L → Keep h h' [b] → Ax Z h' b ty n' (fun j => if kd ≤ j ∧ j < kd + kn then w (ks + (j - kd)) else w' j) → Go p e below s nc ns Q (T'.setTop (mkF m pc' Ls St))) : Go p e below s nc ns Q (T.setTop (mkF m pc Ls (.int nn :: .int dp :: .ref b :: .int sp :: .ref a :: St))) := by
  subst hp
  obtain ⟨k, V⟩ := own_arv (.int 0) F hfit
  obtain ⟨k', V'⟩ := own_arv (.int 0) F' hfit'
  have e0 : (0 : Int32).toInt = 0 := rfl
  have e1 : (Int32.ofNat n).toInt = (n : Int) := Int32.toInt_ofNat_small (by have := F.1; omega)
  have e2 : (Int32.ofNat n').toInt = (n' : Int) := Int32.toInt_ofNat_small (by have := F'.1; omega)
  have f1 : sp.toNatClampNeg = ks := by show sp.toInt.toNat = ks; omega
  have f2 : dp.toNatClampNeg = kd := by show dp.toInt.toNat = kd; omega
  have f3 : nn.toNatClampNeg = kn := by show nn.toInt.toNat = kn; omega
  have f4 : (Int32.ofNat n').toNatClampNeg = n' := by show (Int32.ofNat n').toInt.toNat = n'; omega
  obtain ⟨T', h', L, X', e', NL, Kp, A', st⟩ := cpA X B.x B.z B.o w1 w2 w3 w4 eT V V' (Or.inl ⟨rfl, hty⟩) (by rw [Int32.lt_iff_toInt_lt, e0]; omega) (by rw [Int32.lt_iff_toInt_lt, e0]; omega) (by rw [Int32.lt_iff_toInt_lt, e0]; omega) (by show sp.toInt.toNat + nn.toInt.toNat ≤ (Int32.ofNat n).toInt.toNat; omega) (by show dp.toInt.toNat + nn.toInt.toNat ≤ (Int32.ofNat n').toInt.toNat; omega) rfl (by rw [List.length_map, List.length_range]; show dp.toInt.toNat + nn.toInt.toNat ≤ n'; omega) N ge (g := mkF m pc Ls (.int nn :: .int dp :: .ref b :: .int sp :: .ref a :: St)) rfl (by rw [B.ml]; exact hsz) rfl (B.d hd) hf (W := W) (by show 2 * 0 + _ ≤ _; omega) (by show W + (5 + 2 + 11) ≤ _; exact hl)
  refine Go.step st (K T' h' L X' e' NL Kp ?_)
  obtain ⟨c, A1, -, r2, -, H, -⟩ := A'
  rw [f4] at r2
  rw [f1, f2, f3] at H
  exact ⟨F'.1, c, A1, r2, fun j hj => by rw [H j (by omega), own_blit _ _ h4 h5 hj]⟩
end CopyKit
def own_f (v0 v1 v2 v3 : Int32) : Nat → Value := fun j => .int (if j = 0 then v0 else if j = 1 then v1 else if j = 2 then v2 else v3)
theorem own_ff (v0 v1 v2 v3 : Int32) (j : Nat) : fits .int (own_f v0 v1 v2 v3 j) = true := rfl
def own_n : List Int32 → Int32
  | [] => 0
  | [_] => 1
  | _ => 2
def own_mt : List Int32 → Int32 → Int32 → Prop
  | [], _, _ => True
  | [x], a, _ => a = x
  | [x, y], a, b => a = x ∧ b = y ∧ x < y
  | _, _, _ => False
def own_S (Z : State) (h : Heap) (o fa : Addr) (xs : List Int32) : Prop := ∃ v0 v1 v2 v3 : Int32, Fld Z h o "com/example/unseen_nodes/unseennodes/NodeSet" "listed" "[I" (.ref fa) ∧ Fld Z h o "com/example/unseen_nodes/unseennodes/NodeSet" "listedCount" "I" (.int (own_n xs)) ∧ Ax Z h fa .int 4 (own_f v0 v1 v2 v3) ∧ own_mt xs v0 v1
def own_bs : List Int32 → Int32 → Int32
  | [], _ => -1
  | [x], k => if x < k then -2 else if k < x then -1 else 0
  | [x, y], k => if x < k then (if y < k then -3 else if k < y then -2 else 1) else if k < x then -1 else 0
  | _, _ => 0
def own_ins : List Int32 → Int32 → List Int32
  | [], k => [k]
  | [x], k => if x < k then [x, k] else if k < x then [k, x] else [x]
  | l, _ => l
def own_del : List Int32 → Int32 → List Int32
  | [], _ => []
  | [x], k => if x = k then [] else [x]
  | [x, y], k => if x = k then [y] else if y = k then [x] else [x, y]
  | l, _ => l
theorem own_tri {x k : Int32} (h1 : ¬ x < k) (h2 : ¬ k < x) : x = k := by
  rw [Int32.lt_iff_toInt_lt] at h1 h2; rw [← Int32.toInt_inj]; omega
theorem own_bs1 (x k : Int32) : (own_bs [x] k = -2 ∧ x < k) ∨ (own_bs [x] k = -1 ∧ k < x) ∨ (own_bs [x] k = 0 ∧ x = k) := by
  rw [show own_bs [x] k = (if x < k then -2 else if k < x then -1 else 0) from rfl]
  by_cases q : x < k
  · exact Or.inl ⟨if_pos q, q⟩
  · by_cases q2 : k < x
    · exact Or.inr (Or.inl ⟨by rw [if_neg q, if_pos q2], q2⟩)
    · exact Or.inr (Or.inr ⟨by rw [if_neg q, if_neg q2], own_tri q q2⟩)
theorem own_bs2 (x y k : Int32) : (own_bs [x, y] k = -3 ∧ x < k ∧ y < k) ∨ (own_bs [x, y] k = -2 ∧ x < k ∧ k < y) ∨ (own_bs [x, y] k = 1 ∧ x < k ∧ y = k) ∨ (own_bs [x, y] k = -1 ∧ k < x) ∨ (own_bs [x, y] k = 0 ∧ x = k) := by
  rw [show own_bs [x, y] k = (if x < k then (if y < k then -3 else if k < y then -2 else 1) else if k < x then -1 else 0) from rfl]
  by_cases q : x < k
  · by_cases q2 : y < k
    · exact Or.inl ⟨by rw [if_pos q, if_pos q2], q, q2⟩
    · by_cases q3 : k < y
      · exact Or.inr (Or.inl ⟨by rw [if_pos q, if_neg q2, if_pos q3], q, q3⟩)
      · exact Or.inr (Or.inr (Or.inl ⟨by rw [if_pos q, if_neg q2, if_neg q3], q, own_tri q2 q3⟩))
  · by_cases q2 : k < x
    · exact Or.inr (Or.inr (Or.inr (Or.inl ⟨by rw [if_neg q, if_pos q2], q2⟩)))
    · exact Or.inr (Or.inr (Or.inr (Or.inr ⟨by rw [if_neg q, if_neg q2], own_tri q q2⟩)))
theorem own_ltne {x k : Int32} (h : x < k) : ¬ x = k := by intro e; subst e; rw [Int32.lt_iff_toInt_lt] at h; omega
theorem own_gtne {x k : Int32} (h : k < x) : ¬ x = k := by intro e; subst e; rw [Int32.lt_iff_toInt_lt] at h; omega
theorem own_nlt {x k : Int32} (h : k < x) : ¬ x < k := by rw [Int32.lt_iff_toInt_lt] at *; omega
theorem own_lttr {x y k : Int32} (h : k < x) (h2 : x < y) : k < y := by rw [Int32.lt_iff_toInt_lt] at *; omega
theorem own_insl {xs : List Int32} (k : Int32) (h : xs.length ≤ 1) : (own_ins xs k).length ≤ 2 := by
  match xs, h with
  | [], _ => simp [own_ins]
  | [x], _ => simp only [own_ins]; repeat' split
              all_goals simp
  | _ :: _ :: _, h => simp at h
theorem own_dell {xs : List Int32} (k : Int32) (h : xs.length ≤ 2) : (own_del xs k).length ≤ 2 := by
  match xs, h with
  | [], _ => simp [own_del]
  | [x], _ => simp only [own_del]; split <;> simp
  | [x, y], _ => simp only [own_del]; repeat' split
                 all_goals simp
  | _ :: _ :: _ :: _, h => simp at h
theorem own_d1 (x c d : Int32) : own_n (own_del (own_del [x] c) d) = 0 ↔ (x = c ∨ x = d) := by
  by_cases q : x = c <;> by_cases q2 : x = d <;> simp [own_del, own_n, q, q2] <;> simp_all [own_del, own_n]
theorem own_d2 (x y c d : Int32) (h : ¬ x = y) : own_n (own_del (own_del [x, y] c) d) = 0 ↔ ((x = c ∨ x = d) ∧ (y = c ∨ y = d)) := by
  by_cases q : x = c <;> by_cases q2 : x = d <;> by_cases q3 : y = c <;> by_cases q4 : y = d <;> simp_all [own_del, own_n]
theorem own_d12 (x y c d : Int32) : own_n (own_del (own_del (own_ins [x] y) c) d) = 0 ↔ ((x = c ∨ x = d) ∧ (y = c ∨ y = d)) := by
  by_cases q : x < y
  · rw [show own_ins [x] y = [x, y] from if_pos q, own_d2 x y c d (own_ltne q)]
  · by_cases q2 : y < x
    · rw [show own_ins [x] y = [y, x] from by rw [show own_ins [x] y = (if x < y then [x, y] else if y < x then [y, x] else [x]) from rfl, if_neg q, if_pos q2], own_d2 y x c d (own_ltne q2)]; exact And.comm
    · have e := own_tri q q2
      subst e
      rw [show own_ins [x] x = [x] from by rw [show own_ins [x] x = (if x < x then [x, x] else if x < x then [x, x] else [x]) from rfl, if_neg q, if_neg q], own_d1]
      exact ⟨fun z => ⟨z, z⟩, fun z => z.1⟩
def own_g (w0 w1 : Int64) : Nat → Value := fun j => .long (if j = 0 then w0 else w1)
def own_W (Z : State) (h : Heap) (o fa : Addr) (f c : Int32) (w0 w1 : Int64) : Prop := Fld Z h o "com/example/unseen_nodes/unseennodes/NodeSet" "listed" "[I" .null ∧ Fld Z h o "com/example/unseen_nodes/unseennodes/NodeSet" "words" "[J" (.ref fa) ∧ Fld Z h o "com/example/unseen_nodes/unseennodes/NodeSet" "firstWord" "I" (.int f) ∧ Fld Z h o "com/example/unseen_nodes/unseennodes/NodeSet" "start" "I" (.int f) ∧ Fld Z h o "com/example/unseen_nodes/unseennodes/NodeSet" "count" "I" (.int c) ∧ Ax Z h fa .long 2 (own_g w0 w1)
def own_nf (f c : Int32) (w0 w1 : Int64) : Prop := (f = 0 ∧ c = 2 ∧ ¬ w0 = 0 ∧ ¬ w1 = 0) ∨ (f = 0 ∧ c = 1 ∧ ¬ w0 = 0 ∧ w1 = 0) ∨ (f = 1 ∧ c = 1 ∧ w0 = 0 ∧ ¬ w1 = 0) ∨ ((f = 0 ∨ f = 1 ∨ f = 2) ∧ c = 0 ∧ w0 = 0 ∧ w1 = 0)
def own_ck (k x : Int32) (w : Int64) : Int64 := if x >>> ((6 : Int32) &&& 31) = k then w &&& (((1 : Int64) <<< (x &&& 63).toInt64) ^^^ (-1 : Int64)) else w
theorem own_hi (v : Int32) : v = 0 ∨ v = 1 ∨ (¬ v = 0 ∧ ¬ v = 1) := by
  by_cases q : v = 0
  · exact Or.inl q
  · by_cases q2 : v = 1
    · exact Or.inr (Or.inl q2)
    · exact Or.inr (Or.inr ⟨q, q2⟩)
theorem own_z (m : Int64) : (0 : Int64) &&& m = 0 := by simp

theorem rc0_d0 : decode jdk_65_method_30_code 0 = .ok (.iload_n 1, 1) := by decide +kernel
theorem rc0_d1 : decode jdk_65_method_30_code 1 = .ok (.iload_n 2, 1) := by decide +kernel
theorem rc0_d2 : decode jdk_65_method_30_code 2 = .ok (.if_icmp .le 44, 3) := by decide +kernel
theorem rc0_d46 : decode jdk_65_method_30_code 46 = .ok (.iload_n 1, 1) := by decide +kernel
theorem rc0_d47 : decode jdk_65_method_30_code 47 = .ok (.ifCond .ge 12, 3) := by decide +kernel
theorem rc0_d59 : decode jdk_65_method_30_code 59 = .ok (.iload_n 2, 1) := by decide +kernel
theorem rc0_d60 : decode jdk_65_method_30_code 60 = .ok (.iload_n 0, 1) := by decide +kernel
theorem rc0_d61 : decode jdk_65_method_30_code 61 = .ok (.if_icmp .le 12, 3) := by decide +kernel
theorem rc0_d73 : decode jdk_65_method_30_code 73 = .ok (.return_, 1) := by decide +kernel
theorem own_pn_rc0 : plainFor (⟨"java/util/Arrays", "rangeCheck", "(III)V"⟩ : MethodName) = true := by decide +kernel
theorem own_ef_rc0 (m : MethodId) (i0 : Int32) (i1 : Int32) (i2 : Int32) : entryFrame m #[(.int i0), (.int i1), (.int i2)] 3 = (mkF m 0 #[.val (.int i0), .val (.int i1), .val (.int i2)] []) := by first | (simp [entryFrame, mkF, argsToLocals, Value.category]; done) | rfl
set_option maxRecDepth 65536 in
set_option maxHeartbeats 40000000 in
theorem rc0_go {p : Program} {l : Launch} {e : Env} {s : State} {m : MethodId} {args : Array Value} {below : List Frame} {meth : Method} {c : Code} {T : State} {Z : State} {a0 : Array Value} {h : Heap} (X : Stand p l e (⟨0, 0, 0, 0⟩ : Room) s m args below meth c T [] 0 0) (B : Bdy p s m meth c Z a0 "java/util/Arrays" "rangeCheck" jdk_65_method_30_code 3 none tables_1) (eT : T.heap = h) (i0 : Int32) (i1 : Int32) (i2 : Int32)  (h0 : i0 = (4 : Int32)) (h1 : i1 = (0 : Int32)) (h2 : i2 = (0 : Int32)) :
    Go p e below s 0 0 (PQ none h []) (T.setTop (mkF m 0 #[.val (.int i0), .val (.int i1), .val (.int i2)] [])) := by
  subst h0 h1 h2
  refine g_iloadN X B rc0_d0 (pc' := 1) rfl (v := (0 : Int32)) rfl ?_
  refine g_iloadN X B rc0_d1 (pc' := 2) rfl (v := (0 : Int32)) rfl ?_
  refine g_icmp_le X B rc0_d2 (pcT := 46) (pcF := 5) (by decide) rfl rfl (fun c2_0 => ?_) (fun c2_0 => ?_)
  · exact absurd c2_0 (by decide)
  · refine g_iloadN X B rc0_d46 (pc' := 47) rfl (v := (0 : Int32)) rfl ?_
    refine g_if_ge X B rc0_d47 (pcT := 59) (pcF := 50) (by decide) rfl rfl (fun c47_1 => ?_) (fun c47_1 => ?_)
    · exact absurd c47_1 (by decide)
    · refine g_iloadN X B rc0_d59 (pc' := 60) rfl (v := (0 : Int32)) rfl ?_
      refine g_iloadN X B rc0_d60 (pc' := 61) rfl (v := (4 : Int32)) rfl ?_
      refine g_icmp_le X B rc0_d61 (pcT := 73) (pcF := 64) (by decide) rfl rfl (fun c61_2 => ?_) (fun c61_2 => ?_)
      · exact absurd c61_2 (by decide)
      · exact g_ret0 X B rfl rc0_d73 (by decide) (by decide) ⟨rfl, eT, rfl⟩
theorem rc0_met (l : Launch) (Z : State) (a0 : Array Value) (hw : ∀ d ∈ tables_1, d.before a0 Z = true) (ws : List Jvm.Cond) (h : Heap) (i0 : Int32) (i1 : Int32) (i2 : Int32)  (h0 : i0 = (4 : Int32)) (h1 : i1 = (0 : Int32)) (h2 : i2 = (0 : Int32)) :
    Met l Z (⟨"java/util/Arrays", "rangeCheck", "(III)V"⟩ : MethodName) jdk_65_method_30_code 3 none ws (⟨0, 0, 0, 0⟩ : Room) #[(.int i0), (.int i1), (.int i2)] h (PQ none h []) :=
  met_of own_pn_rc0 hw fun p e s m below meth c T X B eT => Go.top (own_ef_rc0 m i0 i1 i2) (rc0_go X B eT i0 i1 i2  h0 h1 h2)
theorem rc1_d0 : decode jdk_65_method_30_code 0 = .ok (.iload_n 1, 1) := by decide +kernel
theorem rc1_d1 : decode jdk_65_method_30_code 1 = .ok (.iload_n 2, 1) := by decide +kernel
theorem rc1_d2 : decode jdk_65_method_30_code 2 = .ok (.if_icmp .le 44, 3) := by decide +kernel
theorem rc1_d46 : decode jdk_65_method_30_code 46 = .ok (.iload_n 1, 1) := by decide +kernel
theorem rc1_d47 : decode jdk_65_method_30_code 47 = .ok (.ifCond .ge 12, 3) := by decide +kernel
theorem rc1_d59 : decode jdk_65_method_30_code 59 = .ok (.iload_n 2, 1) := by decide +kernel
theorem rc1_d60 : decode jdk_65_method_30_code 60 = .ok (.iload_n 0, 1) := by decide +kernel
theorem rc1_d61 : decode jdk_65_method_30_code 61 = .ok (.if_icmp .le 12, 3) := by decide +kernel
theorem rc1_d73 : decode jdk_65_method_30_code 73 = .ok (.return_, 1) := by decide +kernel
theorem own_pn_rc1 : plainFor (⟨"java/util/Arrays", "rangeCheck", "(III)V"⟩ : MethodName) = true := by decide +kernel
theorem own_ef_rc1 (m : MethodId) (i0 : Int32) (i1 : Int32) (i2 : Int32) : entryFrame m #[(.int i0), (.int i1), (.int i2)] 3 = (mkF m 0 #[.val (.int i0), .val (.int i1), .val (.int i2)] []) := by first | (simp [entryFrame, mkF, argsToLocals, Value.category]; done) | rfl
set_option maxRecDepth 65536 in
set_option maxHeartbeats 40000000 in
theorem rc1_go {p : Program} {l : Launch} {e : Env} {s : State} {m : MethodId} {args : Array Value} {below : List Frame} {meth : Method} {c : Code} {T : State} {Z : State} {a0 : Array Value} {h : Heap} (X : Stand p l e (⟨0, 0, 0, 0⟩ : Room) s m args below meth c T [] 0 0) (B : Bdy p s m meth c Z a0 "java/util/Arrays" "rangeCheck" jdk_65_method_30_code 3 none tables_1) (eT : T.heap = h) (i0 : Int32) (i1 : Int32) (i2 : Int32)  (h0 : i0 = (4 : Int32)) (h1 : i1 = (0 : Int32)) (h2 : i2 = (1 : Int32)) :
    Go p e below s 0 0 (PQ none h []) (T.setTop (mkF m 0 #[.val (.int i0), .val (.int i1), .val (.int i2)] [])) := by
  subst h0 h1 h2
  refine g_iloadN X B rc1_d0 (pc' := 1) rfl (v := (0 : Int32)) rfl ?_
  refine g_iloadN X B rc1_d1 (pc' := 2) rfl (v := (1 : Int32)) rfl ?_
  refine g_icmp_le X B rc1_d2 (pcT := 46) (pcF := 5) (by decide) rfl rfl (fun c2_0 => ?_) (fun c2_0 => ?_)
  · exact absurd c2_0 (by decide)
  · refine g_iloadN X B rc1_d46 (pc' := 47) rfl (v := (0 : Int32)) rfl ?_
    refine g_if_ge X B rc1_d47 (pcT := 59) (pcF := 50) (by decide) rfl rfl (fun c47_1 => ?_) (fun c47_1 => ?_)
    · exact absurd c47_1 (by decide)
    · refine g_iloadN X B rc1_d59 (pc' := 60) rfl (v := (1 : Int32)) rfl ?_
      refine g_iloadN X B rc1_d60 (pc' := 61) rfl (v := (4 : Int32)) rfl ?_
      refine g_icmp_le X B rc1_d61 (pcT := 73) (pcF := 64) (by decide) rfl rfl (fun c61_2 => ?_) (fun c61_2 => ?_)
      · exact absurd c61_2 (by decide)
      · exact g_ret0 X B rfl rc1_d73 (by decide) (by decide) ⟨rfl, eT, rfl⟩
theorem rc1_met (l : Launch) (Z : State) (a0 : Array Value) (hw : ∀ d ∈ tables_1, d.before a0 Z = true) (ws : List Jvm.Cond) (h : Heap) (i0 : Int32) (i1 : Int32) (i2 : Int32)  (h0 : i0 = (4 : Int32)) (h1 : i1 = (0 : Int32)) (h2 : i2 = (1 : Int32)) :
    Met l Z (⟨"java/util/Arrays", "rangeCheck", "(III)V"⟩ : MethodName) jdk_65_method_30_code 3 none ws (⟨0, 0, 0, 0⟩ : Room) #[(.int i0), (.int i1), (.int i2)] h (PQ none h []) :=
  met_of own_pn_rc1 hw fun p e s m below meth c T X B eT => Go.top (own_ef_rc1 m i0 i1 i2) (rc1_go X B eT i0 i1 i2  h0 h1 h2)
theorem rc2_d0 : decode jdk_65_method_30_code 0 = .ok (.iload_n 1, 1) := by decide +kernel
theorem rc2_d1 : decode jdk_65_method_30_code 1 = .ok (.iload_n 2, 1) := by decide +kernel
theorem rc2_d2 : decode jdk_65_method_30_code 2 = .ok (.if_icmp .le 44, 3) := by decide +kernel
theorem rc2_d46 : decode jdk_65_method_30_code 46 = .ok (.iload_n 1, 1) := by decide +kernel
theorem rc2_d47 : decode jdk_65_method_30_code 47 = .ok (.ifCond .ge 12, 3) := by decide +kernel
theorem rc2_d59 : decode jdk_65_method_30_code 59 = .ok (.iload_n 2, 1) := by decide +kernel
theorem rc2_d60 : decode jdk_65_method_30_code 60 = .ok (.iload_n 0, 1) := by decide +kernel
theorem rc2_d61 : decode jdk_65_method_30_code 61 = .ok (.if_icmp .le 12, 3) := by decide +kernel
theorem rc2_d73 : decode jdk_65_method_30_code 73 = .ok (.return_, 1) := by decide +kernel
theorem own_pn_rc2 : plainFor (⟨"java/util/Arrays", "rangeCheck", "(III)V"⟩ : MethodName) = true := by decide +kernel
theorem own_ef_rc2 (m : MethodId) (i0 : Int32) (i1 : Int32) (i2 : Int32) : entryFrame m #[(.int i0), (.int i1), (.int i2)] 3 = (mkF m 0 #[.val (.int i0), .val (.int i1), .val (.int i2)] []) := by first | (simp [entryFrame, mkF, argsToLocals, Value.category]; done) | rfl
set_option maxRecDepth 65536 in
set_option maxHeartbeats 40000000 in
theorem rc2_go {p : Program} {l : Launch} {e : Env} {s : State} {m : MethodId} {args : Array Value} {below : List Frame} {meth : Method} {c : Code} {T : State} {Z : State} {a0 : Array Value} {h : Heap} (X : Stand p l e (⟨0, 0, 0, 0⟩ : Room) s m args below meth c T [] 0 0) (B : Bdy p s m meth c Z a0 "java/util/Arrays" "rangeCheck" jdk_65_method_30_code 3 none tables_1) (eT : T.heap = h) (i0 : Int32) (i1 : Int32) (i2 : Int32)  (h0 : i0 = (4 : Int32)) (h1 : i1 = (0 : Int32)) (h2 : i2 = (2 : Int32)) :
    Go p e below s 0 0 (PQ none h []) (T.setTop (mkF m 0 #[.val (.int i0), .val (.int i1), .val (.int i2)] [])) := by
  subst h0 h1 h2
  refine g_iloadN X B rc2_d0 (pc' := 1) rfl (v := (0 : Int32)) rfl ?_
  refine g_iloadN X B rc2_d1 (pc' := 2) rfl (v := (2 : Int32)) rfl ?_
  refine g_icmp_le X B rc2_d2 (pcT := 46) (pcF := 5) (by decide) rfl rfl (fun c2_0 => ?_) (fun c2_0 => ?_)
  · exact absurd c2_0 (by decide)
  · refine g_iloadN X B rc2_d46 (pc' := 47) rfl (v := (0 : Int32)) rfl ?_
    refine g_if_ge X B rc2_d47 (pcT := 59) (pcF := 50) (by decide) rfl rfl (fun c47_1 => ?_) (fun c47_1 => ?_)
    · exact absurd c47_1 (by decide)
    · refine g_iloadN X B rc2_d59 (pc' := 60) rfl (v := (2 : Int32)) rfl ?_
      refine g_iloadN X B rc2_d60 (pc' := 61) rfl (v := (4 : Int32)) rfl ?_
      refine g_icmp_le X B rc2_d61 (pcT := 73) (pcF := 64) (by decide) rfl rfl (fun c61_2 => ?_) (fun c61_2 => ?_)
      · exact absurd c61_2 (by decide)
      · exact g_ret0 X B rfl rc2_d73 (by decide) (by decide) ⟨rfl, eT, rfl⟩
theorem rc2_met (l : Launch) (Z : State) (a0 : Array Value) (hw : ∀ d ∈ tables_1, d.before a0 Z = true) (ws : List Jvm.Cond) (h : Heap) (i0 : Int32) (i1 : Int32) (i2 : Int32)  (h0 : i0 = (4 : Int32)) (h1 : i1 = (0 : Int32)) (h2 : i2 = (2 : Int32)) :
    Met l Z (⟨"java/util/Arrays", "rangeCheck", "(III)V"⟩ : MethodName) jdk_65_method_30_code 3 none ws (⟨0, 0, 0, 0⟩ : Room) #[(.int i0), (.int i1), (.int i2)] h (PQ none h []) :=
  met_of own_pn_rc2 hw fun p e s m below meth c T X B eT => Go.top (own_ef_rc2 m i0 i1 i2) (rc2_go X B eT i0 i1 i2  h0 h1 h2)
theorem bz0_d0 : decode jdk_65_method_59_code 0 = .ok (.iload_n 1, 1) := by decide +kernel
theorem bz0_d1 : decode jdk_65_method_59_code 1 = .ok (.istore 4, 2) := by decide +kernel
theorem bz0_d3 : decode jdk_65_method_59_code 3 = .ok (.iload_n 2, 1) := by decide +kernel
theorem bz0_d4 : decode jdk_65_method_59_code 4 = .ok (.iconst 1, 1) := by decide +kernel
theorem bz0_d5 : decode jdk_65_method_59_code 5 = .ok (.isub, 1) := by decide +kernel
theorem bz0_d6 : decode jdk_65_method_59_code 6 = .ok (.istore 5, 2) := by decide +kernel
theorem bz0_d8 : decode jdk_65_method_59_code 8 = .ok (.iload 4, 2) := by decide +kernel
theorem bz0_d10 : decode jdk_65_method_59_code 10 = .ok (.iload 5, 2) := by decide +kernel
theorem bz0_d12 : decode jdk_65_method_59_code 12 = .ok (.if_icmp .gt 54, 3) := by decide +kernel
theorem bz0_d66 : decode jdk_65_method_59_code 66 = .ok (.iload 4, 2) := by decide +kernel
theorem bz0_d68 : decode jdk_65_method_59_code 68 = .ok (.iconst 1, 1) := by decide +kernel
theorem bz0_d69 : decode jdk_65_method_59_code 69 = .ok (.iadd, 1) := by decide +kernel
theorem bz0_d70 : decode jdk_65_method_59_code 70 = .ok (.ineg, 1) := by decide +kernel
theorem bz0_d71 : decode jdk_65_method_59_code 71 = .ok (.ireturn, 1) := by decide +kernel
theorem own_pn_bz0 : plainFor (⟨"java/util/Arrays", "binarySearch0", "([IIII)I"⟩ : MethodName) = true := by decide +kernel
theorem own_ef_bz0 (m : MethodId) (o0 : Addr) (i1 : Int32) (i2 : Int32) (i3 : Int32) : entryFrame m #[(.ref o0), (.int i1), (.int i2), (.int i3)] 8 = (mkF m 0 #[.val (.ref o0), .val (.int i1), .val (.int i2), .val (.int i3), .unset, .unset, .unset, .unset] []) := by first | (simp [entryFrame, mkF, argsToLocals, Value.category]; done) | rfl
set_option maxRecDepth 65536 in
set_option maxHeartbeats 40000000 in
theorem bz0_go {p : Program} {l : Launch} {e : Env} {s : State} {m : MethodId} {args : Array Value} {below : List Frame} {meth : Method} {c : Code} {T : State} {Z : State} {a0 : Array Value} {h : Heap} (X : Stand p l e (⟨0, 0, 0, 0⟩ : Room) s m args below meth c T [] 0 0) (B : Bdy p s m meth c Z a0 "java/util/Arrays" "binarySearch0" jdk_65_method_59_code 8 (some .int) tables_1) (eT : T.heap = h) (o0 : Addr) (i1 : Int32) (i2 : Int32) (i3 : Int32) (v0 : Int32) (v1 : Int32) (v2 : Int32) (v3 : Int32) (h1 : i1 = (0 : Int32)) (h2 : i2 = (0 : Int32)) (Aw : Ax Z h o0 .int 4 (own_f v0 v1 v2 v3)) :
    Go p e below s 0 0 (PQ (some (.int (own_bs ([] : List Int32) i3))) h []) (T.setTop (mkF m 0 #[.val (.ref o0), .val (.int i1), .val (.int i2), .val (.int i3), .unset, .unset, .unset, .unset] [])) := by
  subst h1 h2
  refine g_iloadN X B bz0_d0 (pc' := 1) rfl (v := (0 : Int32)) rfl ?_
  refine g_istore X B bz0_d1 (pc' := 3) rfl (Ls' := #[.val (.ref o0), .val (.int (0 : Int32)), .val (.int (0 : Int32)), .val (.int i3), .val (.int (0 : Int32)), .unset, .unset, .unset]) rfl ?_
  refine g_iloadN X B bz0_d3 (pc' := 4) rfl (v := (0 : Int32)) rfl ?_
  refine g_iconst X B bz0_d4 (pc' := 5) rfl (v := (1 : Int32)) (by decide) ?_
  refine g_isub X B bz0_d5 (pc' := 6) rfl ?_
  refine g_istore X B bz0_d6 (pc' := 8) rfl (Ls' := #[.val (.ref o0), .val (.int (0 : Int32)), .val (.int (0 : Int32)), .val (.int i3), .val (.int (0 : Int32)), .val (.int ((0 : Int32) - (1 : Int32))), .unset, .unset]) rfl ?_
  refine g_iload X B bz0_d8 (pc' := 10) rfl (v := (0 : Int32)) rfl ?_
  refine g_iload X B bz0_d10 (pc' := 12) rfl (v := ((0 : Int32) - (1 : Int32))) rfl ?_
  refine g_icmp_gt X B bz0_d12 (pcT := 66) (pcF := 15) (by decide) rfl rfl (fun c12_0 => ?_) (fun c12_0 => ?_)
  · refine g_iload X B bz0_d66 (pc' := 68) rfl (v := (0 : Int32)) rfl ?_
    refine g_iconst X B bz0_d68 (pc' := 69) rfl (v := (1 : Int32)) (by decide) ?_
    refine g_iadd X B bz0_d69 (pc' := 70) rfl ?_
    refine g_ineg X B bz0_d70 (pc' := 71) rfl ?_
    exact g_retI X B rfl bz0_d71 (by decide) (by decide) ⟨congrArg (fun q => some (Value.int q)) ((by decide : ((-((0 : Int32) + (1 : Int32)))) = (-1 : Int32))), eT, rfl⟩
  · exact absurd (by decide) c12_0
theorem bz0_met (l : Launch) (Z : State) (a0 : Array Value) (hw : ∀ d ∈ tables_1, d.before a0 Z = true) (ws : List Jvm.Cond) (h : Heap) (o0 : Addr) (i1 : Int32) (i2 : Int32) (i3 : Int32) (v0 : Int32) (v1 : Int32) (v2 : Int32) (v3 : Int32) (h1 : i1 = (0 : Int32)) (h2 : i2 = (0 : Int32)) (Aw : Ax Z h o0 .int 4 (own_f v0 v1 v2 v3)) :
    Met l Z (⟨"java/util/Arrays", "binarySearch0", "([IIII)I"⟩ : MethodName) jdk_65_method_59_code 8 (some .int) ws (⟨0, 0, 0, 0⟩ : Room) #[(.ref o0), (.int i1), (.int i2), (.int i3)] h (PQ (some (.int (own_bs ([] : List Int32) i3))) h []) :=
  met_of own_pn_bz0 hw fun p e s m below meth c T X B eT => Go.top (own_ef_bz0 m o0 i1 i2 i3) (bz0_go X B eT o0 i1 i2 i3 v0 v1 v2 v3 h1 h2 Aw)
theorem bz1_d0 : decode jdk_65_method_59_code 0 = .ok (.iload_n 1, 1) := by decide +kernel
theorem bz1_d1 : decode jdk_65_method_59_code 1 = .ok (.istore 4, 2) := by decide +kernel
theorem bz1_d3 : decode jdk_65_method_59_code 3 = .ok (.iload_n 2, 1) := by decide +kernel
theorem bz1_d4 : decode jdk_65_method_59_code 4 = .ok (.iconst 1, 1) := by decide +kernel
theorem bz1_d5 : decode jdk_65_method_59_code 5 = .ok (.isub, 1) := by decide +kernel
theorem bz1_d6 : decode jdk_65_method_59_code 6 = .ok (.istore 5, 2) := by decide +kernel
theorem bz1_d8 : decode jdk_65_method_59_code 8 = .ok (.iload 4, 2) := by decide +kernel
theorem bz1_d10 : decode jdk_65_method_59_code 10 = .ok (.iload 5, 2) := by decide +kernel
theorem bz1_d12 : decode jdk_65_method_59_code 12 = .ok (.if_icmp .gt 54, 3) := by decide +kernel
theorem bz1_d15 : decode jdk_65_method_59_code 15 = .ok (.iload 4, 2) := by decide +kernel
theorem bz1_d17 : decode jdk_65_method_59_code 17 = .ok (.iload 5, 2) := by decide +kernel
theorem bz1_d19 : decode jdk_65_method_59_code 19 = .ok (.iadd, 1) := by decide +kernel
theorem bz1_d20 : decode jdk_65_method_59_code 20 = .ok (.iconst 1, 1) := by decide +kernel
theorem bz1_d21 : decode jdk_65_method_59_code 21 = .ok (.iushr, 1) := by decide +kernel
theorem bz1_d22 : decode jdk_65_method_59_code 22 = .ok (.istore 6, 2) := by decide +kernel
theorem bz1_d24 : decode jdk_65_method_59_code 24 = .ok (.aload_n 0, 1) := by decide +kernel
theorem bz1_d25 : decode jdk_65_method_59_code 25 = .ok (.iload 6, 2) := by decide +kernel
theorem bz1_d27 : decode jdk_65_method_59_code 27 = .ok (.iaload, 1) := by decide +kernel
theorem bz1_d28 : decode jdk_65_method_59_code 28 = .ok (.istore 7, 2) := by decide +kernel
theorem bz1_d30 : decode jdk_65_method_59_code 30 = .ok (.iload 7, 2) := by decide +kernel
theorem bz1_d32 : decode jdk_65_method_59_code 32 = .ok (.iload_n 3, 1) := by decide +kernel
theorem bz1_d33 : decode jdk_65_method_59_code 33 = .ok (.if_icmp .ge 12, 3) := by decide +kernel
theorem bz1_d36 : decode jdk_65_method_59_code 36 = .ok (.iload 6, 2) := by decide +kernel
theorem bz1_d38 : decode jdk_65_method_59_code 38 = .ok (.iconst 1, 1) := by decide +kernel
theorem bz1_d39 : decode jdk_65_method_59_code 39 = .ok (.iadd, 1) := by decide +kernel
theorem bz1_d40 : decode jdk_65_method_59_code 40 = .ok (.istore 4, 2) := by decide +kernel
theorem bz1_d42 : decode jdk_65_method_59_code 42 = .ok (.goto 21, 3) := by decide +kernel
theorem bz1_d45 : decode jdk_65_method_59_code 45 = .ok (.iload 7, 2) := by decide +kernel
theorem bz1_d47 : decode jdk_65_method_59_code 47 = .ok (.iload_n 3, 1) := by decide +kernel
theorem bz1_d48 : decode jdk_65_method_59_code 48 = .ok (.if_icmp .le 12, 3) := by decide +kernel
theorem bz1_d51 : decode jdk_65_method_59_code 51 = .ok (.iload 6, 2) := by decide +kernel
theorem bz1_d53 : decode jdk_65_method_59_code 53 = .ok (.iconst 1, 1) := by decide +kernel
theorem bz1_d54 : decode jdk_65_method_59_code 54 = .ok (.isub, 1) := by decide +kernel
theorem bz1_d55 : decode jdk_65_method_59_code 55 = .ok (.istore 5, 2) := by decide +kernel
theorem bz1_d57 : decode jdk_65_method_59_code 57 = .ok (.goto 6, 3) := by decide +kernel
theorem bz1_d60 : decode jdk_65_method_59_code 60 = .ok (.iload 6, 2) := by decide +kernel
theorem bz1_d62 : decode jdk_65_method_59_code 62 = .ok (.ireturn, 1) := by decide +kernel
theorem bz1_d63 : decode jdk_65_method_59_code 63 = .ok (.goto (-55), 3) := by decide +kernel
theorem bz1_d66 : decode jdk_65_method_59_code 66 = .ok (.iload 4, 2) := by decide +kernel
theorem bz1_d68 : decode jdk_65_method_59_code 68 = .ok (.iconst 1, 1) := by decide +kernel
theorem bz1_d69 : decode jdk_65_method_59_code 69 = .ok (.iadd, 1) := by decide +kernel
theorem bz1_d70 : decode jdk_65_method_59_code 70 = .ok (.ineg, 1) := by decide +kernel
theorem bz1_d71 : decode jdk_65_method_59_code 71 = .ok (.ireturn, 1) := by decide +kernel
theorem own_pn_bz1 : plainFor (⟨"java/util/Arrays", "binarySearch0", "([IIII)I"⟩ : MethodName) = true := by decide +kernel
theorem own_ef_bz1 (m : MethodId) (o0 : Addr) (i1 : Int32) (i2 : Int32) (i3 : Int32) : entryFrame m #[(.ref o0), (.int i1), (.int i2), (.int i3)] 8 = (mkF m 0 #[.val (.ref o0), .val (.int i1), .val (.int i2), .val (.int i3), .unset, .unset, .unset, .unset] []) := by first | (simp [entryFrame, mkF, argsToLocals, Value.category]; done) | rfl
set_option maxRecDepth 65536 in
set_option maxHeartbeats 40000000 in
theorem bz1_go {p : Program} {l : Launch} {e : Env} {s : State} {m : MethodId} {args : Array Value} {below : List Frame} {meth : Method} {c : Code} {T : State} {Z : State} {a0 : Array Value} {h : Heap} (X : Stand p l e (⟨0, 0, 0, 0⟩ : Room) s m args below meth c T [] 0 0) (B : Bdy p s m meth c Z a0 "java/util/Arrays" "binarySearch0" jdk_65_method_59_code 8 (some .int) tables_1) (eT : T.heap = h) (o0 : Addr) (i1 : Int32) (i2 : Int32) (i3 : Int32) (v0 : Int32) (v1 : Int32) (v2 : Int32) (v3 : Int32) (h1 : i1 = (0 : Int32)) (h2 : i2 = (1 : Int32)) (Aw : Ax Z h o0 .int 4 (own_f v0 v1 v2 v3)) :
    Go p e below s 0 0 (PQ (some (.int (own_bs [v0] i3))) h []) (T.setTop (mkF m 0 #[.val (.ref o0), .val (.int i1), .val (.int i2), .val (.int i3), .unset, .unset, .unset, .unset] [])) := by
  subst h1 h2
  refine g_iloadN X B bz1_d0 (pc' := 1) rfl (v := (0 : Int32)) rfl ?_
  refine g_istore X B bz1_d1 (pc' := 3) rfl (Ls' := #[.val (.ref o0), .val (.int (0 : Int32)), .val (.int (1 : Int32)), .val (.int i3), .val (.int (0 : Int32)), .unset, .unset, .unset]) rfl ?_
  refine g_iloadN X B bz1_d3 (pc' := 4) rfl (v := (1 : Int32)) rfl ?_
  refine g_iconst X B bz1_d4 (pc' := 5) rfl (v := (1 : Int32)) (by decide) ?_
  refine g_isub X B bz1_d5 (pc' := 6) rfl ?_
  refine g_istore X B bz1_d6 (pc' := 8) rfl (Ls' := #[.val (.ref o0), .val (.int (0 : Int32)), .val (.int (1 : Int32)), .val (.int i3), .val (.int (0 : Int32)), .val (.int ((1 : Int32) - (1 : Int32))), .unset, .unset]) rfl ?_
  refine g_iload X B bz1_d8 (pc' := 10) rfl (v := (0 : Int32)) rfl ?_
  refine g_iload X B bz1_d10 (pc' := 12) rfl (v := ((1 : Int32) - (1 : Int32))) rfl ?_
  refine g_icmp_gt X B bz1_d12 (pcT := 66) (pcF := 15) (by decide) rfl rfl (fun c12_0 => ?_) (fun c12_0 => ?_)
  · exact absurd c12_0 (by decide)
  · refine g_iload X B bz1_d15 (pc' := 17) rfl (v := (0 : Int32)) rfl ?_
    refine g_iload X B bz1_d17 (pc' := 19) rfl (v := ((1 : Int32) - (1 : Int32))) rfl ?_
    refine g_iadd X B bz1_d19 (pc' := 20) rfl ?_
    refine g_iconst X B bz1_d20 (pc' := 21) rfl (v := (1 : Int32)) (by decide) ?_
    refine g_iushr X B bz1_d21 (pc' := 22) rfl (z := ((((0 : Int32) + ((1 : Int32) - (1 : Int32))).toUInt32 >>> ((1 : Int32) &&& 31).toUInt32).toInt32)) rfl ?_
    refine g_istore X B bz1_d22 (pc' := 24) rfl (Ls' := #[.val (.ref o0), .val (.int (0 : Int32)), .val (.int (1 : Int32)), .val (.int i3), .val (.int (0 : Int32)), .val (.int ((1 : Int32) - (1 : Int32))), .val (.int ((((0 : Int32) + ((1 : Int32) - (1 : Int32))).toUInt32 >>> ((1 : Int32) &&& 31).toUInt32).toInt32)), .unset]) rfl ?_
    refine g_aloadN X B bz1_d24 (pc' := 25) rfl (v := (.ref o0)) rfl rfl ?_
    refine g_iload X B bz1_d25 (pc' := 27) rfl (v := ((((0 : Int32) + ((1 : Int32) - (1 : Int32))).toUInt32 >>> ((1 : Int32) &&& 31).toUInt32).toInt32)) rfl ?_
    refine g_iaload X B 0 eT Aw (by decide) (by decide) (v := (.int v0)) rfl bz1_d27 (pc' := 28) rfl ?_
    refine g_istore X B bz1_d28 (pc' := 30) rfl (Ls' := #[.val (.ref o0), .val (.int (0 : Int32)), .val (.int (1 : Int32)), .val (.int i3), .val (.int (0 : Int32)), .val (.int ((1 : Int32) - (1 : Int32))), .val (.int ((((0 : Int32) + ((1 : Int32) - (1 : Int32))).toUInt32 >>> ((1 : Int32) &&& 31).toUInt32).toInt32)), .val (.int v0)]) rfl ?_
    refine g_iload X B bz1_d30 (pc' := 32) rfl (v := v0) rfl ?_
    refine g_iloadN X B bz1_d32 (pc' := 33) rfl (v := i3) rfl ?_
    refine g_icmp_ge X B bz1_d33 (pcT := 45) (pcF := 36) (by decide) rfl rfl (fun c33_1 => ?_) (fun c33_1 => ?_)
    · refine g_iload X B bz1_d36 (pc' := 38) rfl (v := ((((0 : Int32) + ((1 : Int32) - (1 : Int32))).toUInt32 >>> ((1 : Int32) &&& 31).toUInt32).toInt32)) rfl ?_
      refine g_iconst X B bz1_d38 (pc' := 39) rfl (v := (1 : Int32)) (by decide) ?_
      refine g_iadd X B bz1_d39 (pc' := 40) rfl ?_
      refine g_istore X B bz1_d40 (pc' := 42) rfl (Ls' := #[.val (.ref o0), .val (.int (0 : Int32)), .val (.int (1 : Int32)), .val (.int i3), .val (.int (((((0 : Int32) + ((1 : Int32) - (1 : Int32))).toUInt32 >>> ((1 : Int32) &&& 31).toUInt32).toInt32) + (1 : Int32))), .val (.int ((1 : Int32) - (1 : Int32))), .val (.int ((((0 : Int32) + ((1 : Int32) - (1 : Int32))).toUInt32 >>> ((1 : Int32) &&& 31).toUInt32).toInt32)), .val (.int v0)]) rfl ?_
      refine g_goto X B bz1_d42 (pc' := 63) (by decide) rfl ?_
      refine g_goto X B bz1_d63 (pc' := 8) (by decide) rfl ?_
      refine g_iload X B bz1_d8 (pc' := 10) rfl (v := (((((0 : Int32) + ((1 : Int32) - (1 : Int32))).toUInt32 >>> ((1 : Int32) &&& 31).toUInt32).toInt32) + (1 : Int32))) rfl ?_
      refine g_iload X B bz1_d10 (pc' := 12) rfl (v := ((1 : Int32) - (1 : Int32))) rfl ?_
      refine g_icmp_gt X B bz1_d12 (pcT := 66) (pcF := 15) (by decide) rfl rfl (fun c12_2 => ?_) (fun c12_2 => ?_)
      · refine g_iload X B bz1_d66 (pc' := 68) rfl (v := (((((0 : Int32) + ((1 : Int32) - (1 : Int32))).toUInt32 >>> ((1 : Int32) &&& 31).toUInt32).toInt32) + (1 : Int32))) rfl ?_
        refine g_iconst X B bz1_d68 (pc' := 69) rfl (v := (1 : Int32)) (by decide) ?_
        refine g_iadd X B bz1_d69 (pc' := 70) rfl ?_
        refine g_ineg X B bz1_d70 (pc' := 71) rfl ?_
        exact g_retI X B rfl bz1_d71 (by decide) (by decide) ⟨congrArg (fun q => some (Value.int q)) (Eq.trans (by decide : ((-((((((0 : Int32) + ((1 : Int32) - (1 : Int32))).toUInt32 >>> ((1 : Int32) &&& 31).toUInt32).toInt32) + (1 : Int32)) + (1 : Int32)))) = (-2 : Int32)) (by rw [show own_bs [v0] i3 = (if v0 < i3 then -2 else if i3 < v0 then -1 else 0) from rfl, if_pos c33_1])), eT, rfl⟩
      · exact absurd (by decide) c12_2
    · refine g_iload X B bz1_d45 (pc' := 47) rfl (v := v0) rfl ?_
      refine g_iloadN X B bz1_d47 (pc' := 48) rfl (v := i3) rfl ?_
      refine g_icmp_le X B bz1_d48 (pcT := 60) (pcF := 51) (by decide) rfl rfl (fun c48_2 => ?_) (fun c48_2 => ?_)
      · refine g_iload X B bz1_d51 (pc' := 53) rfl (v := ((((0 : Int32) + ((1 : Int32) - (1 : Int32))).toUInt32 >>> ((1 : Int32) &&& 31).toUInt32).toInt32)) rfl ?_
        refine g_iconst X B bz1_d53 (pc' := 54) rfl (v := (1 : Int32)) (by decide) ?_
        refine g_isub X B bz1_d54 (pc' := 55) rfl ?_
        refine g_istore X B bz1_d55 (pc' := 57) rfl (Ls' := #[.val (.ref o0), .val (.int (0 : Int32)), .val (.int (1 : Int32)), .val (.int i3), .val (.int (0 : Int32)), .val (.int (((((0 : Int32) + ((1 : Int32) - (1 : Int32))).toUInt32 >>> ((1 : Int32) &&& 31).toUInt32).toInt32) - (1 : Int32))), .val (.int ((((0 : Int32) + ((1 : Int32) - (1 : Int32))).toUInt32 >>> ((1 : Int32) &&& 31).toUInt32).toInt32)), .val (.int v0)]) rfl ?_
        refine g_goto X B bz1_d57 (pc' := 63) (by decide) rfl ?_
        refine g_goto X B bz1_d63 (pc' := 8) (by decide) rfl ?_
        refine g_iload X B bz1_d8 (pc' := 10) rfl (v := (0 : Int32)) rfl ?_
        refine g_iload X B bz1_d10 (pc' := 12) rfl (v := (((((0 : Int32) + ((1 : Int32) - (1 : Int32))).toUInt32 >>> ((1 : Int32) &&& 31).toUInt32).toInt32) - (1 : Int32))) rfl ?_
        refine g_icmp_gt X B bz1_d12 (pcT := 66) (pcF := 15) (by decide) rfl rfl (fun c12_3 => ?_) (fun c12_3 => ?_)
        · refine g_iload X B bz1_d66 (pc' := 68) rfl (v := (0 : Int32)) rfl ?_
          refine g_iconst X B bz1_d68 (pc' := 69) rfl (v := (1 : Int32)) (by decide) ?_
          refine g_iadd X B bz1_d69 (pc' := 70) rfl ?_
          refine g_ineg X B bz1_d70 (pc' := 71) rfl ?_
          exact g_retI X B rfl bz1_d71 (by decide) (by decide) ⟨congrArg (fun q => some (Value.int q)) (Eq.trans (by decide : ((-((0 : Int32) + (1 : Int32)))) = (-1 : Int32)) (by rw [show own_bs [v0] i3 = (if v0 < i3 then -2 else if i3 < v0 then -1 else 0) from rfl, if_neg c33_1, if_pos c48_2])), eT, rfl⟩
        · exact absurd (by decide) c12_3
      · refine g_iload X B bz1_d60 (pc' := 62) rfl (v := ((((0 : Int32) + ((1 : Int32) - (1 : Int32))).toUInt32 >>> ((1 : Int32) &&& 31).toUInt32).toInt32)) rfl ?_
        exact g_retI X B rfl bz1_d62 (by decide) (by decide) ⟨congrArg (fun q => some (Value.int q)) (Eq.trans (by decide : ((((0 : Int32) + ((1 : Int32) - (1 : Int32))).toUInt32 >>> ((1 : Int32) &&& 31).toUInt32).toInt32) = (0 : Int32)) (by rw [show own_bs [v0] i3 = (if v0 < i3 then -2 else if i3 < v0 then -1 else 0) from rfl, if_neg c33_1, if_neg c48_2])), eT, rfl⟩
theorem bz1_met (l : Launch) (Z : State) (a0 : Array Value) (hw : ∀ d ∈ tables_1, d.before a0 Z = true) (ws : List Jvm.Cond) (h : Heap) (o0 : Addr) (i1 : Int32) (i2 : Int32) (i3 : Int32) (v0 : Int32) (v1 : Int32) (v2 : Int32) (v3 : Int32) (h1 : i1 = (0 : Int32)) (h2 : i2 = (1 : Int32)) (Aw : Ax Z h o0 .int 4 (own_f v0 v1 v2 v3)) :
    Met l Z (⟨"java/util/Arrays", "binarySearch0", "([IIII)I"⟩ : MethodName) jdk_65_method_59_code 8 (some .int) ws (⟨0, 0, 0, 0⟩ : Room) #[(.ref o0), (.int i1), (.int i2), (.int i3)] h (PQ (some (.int (own_bs [v0] i3))) h []) :=
  met_of own_pn_bz1 hw fun p e s m below meth c T X B eT => Go.top (own_ef_bz1 m o0 i1 i2 i3) (bz1_go X B eT o0 i1 i2 i3 v0 v1 v2 v3 h1 h2 Aw)
theorem bz2_d0 : decode jdk_65_method_59_code 0 = .ok (.iload_n 1, 1) := by decide +kernel
theorem bz2_d1 : decode jdk_65_method_59_code 1 = .ok (.istore 4, 2) := by decide +kernel
theorem bz2_d3 : decode jdk_65_method_59_code 3 = .ok (.iload_n 2, 1) := by decide +kernel
theorem bz2_d4 : decode jdk_65_method_59_code 4 = .ok (.iconst 1, 1) := by decide +kernel
theorem bz2_d5 : decode jdk_65_method_59_code 5 = .ok (.isub, 1) := by decide +kernel
theorem bz2_d6 : decode jdk_65_method_59_code 6 = .ok (.istore 5, 2) := by decide +kernel
theorem bz2_d8 : decode jdk_65_method_59_code 8 = .ok (.iload 4, 2) := by decide +kernel
theorem bz2_d10 : decode jdk_65_method_59_code 10 = .ok (.iload 5, 2) := by decide +kernel
theorem bz2_d12 : decode jdk_65_method_59_code 12 = .ok (.if_icmp .gt 54, 3) := by decide +kernel
theorem bz2_d15 : decode jdk_65_method_59_code 15 = .ok (.iload 4, 2) := by decide +kernel
theorem bz2_d17 : decode jdk_65_method_59_code 17 = .ok (.iload 5, 2) := by decide +kernel
theorem bz2_d19 : decode jdk_65_method_59_code 19 = .ok (.iadd, 1) := by decide +kernel
theorem bz2_d20 : decode jdk_65_method_59_code 20 = .ok (.iconst 1, 1) := by decide +kernel
theorem bz2_d21 : decode jdk_65_method_59_code 21 = .ok (.iushr, 1) := by decide +kernel
theorem bz2_d22 : decode jdk_65_method_59_code 22 = .ok (.istore 6, 2) := by decide +kernel
theorem bz2_d24 : decode jdk_65_method_59_code 24 = .ok (.aload_n 0, 1) := by decide +kernel
theorem bz2_d25 : decode jdk_65_method_59_code 25 = .ok (.iload 6, 2) := by decide +kernel
theorem bz2_d27 : decode jdk_65_method_59_code 27 = .ok (.iaload, 1) := by decide +kernel
theorem bz2_d28 : decode jdk_65_method_59_code 28 = .ok (.istore 7, 2) := by decide +kernel
theorem bz2_d30 : decode jdk_65_method_59_code 30 = .ok (.iload 7, 2) := by decide +kernel
theorem bz2_d32 : decode jdk_65_method_59_code 32 = .ok (.iload_n 3, 1) := by decide +kernel
theorem bz2_d33 : decode jdk_65_method_59_code 33 = .ok (.if_icmp .ge 12, 3) := by decide +kernel
theorem bz2_d36 : decode jdk_65_method_59_code 36 = .ok (.iload 6, 2) := by decide +kernel
theorem bz2_d38 : decode jdk_65_method_59_code 38 = .ok (.iconst 1, 1) := by decide +kernel
theorem bz2_d39 : decode jdk_65_method_59_code 39 = .ok (.iadd, 1) := by decide +kernel
theorem bz2_d40 : decode jdk_65_method_59_code 40 = .ok (.istore 4, 2) := by decide +kernel
theorem bz2_d42 : decode jdk_65_method_59_code 42 = .ok (.goto 21, 3) := by decide +kernel
theorem bz2_d45 : decode jdk_65_method_59_code 45 = .ok (.iload 7, 2) := by decide +kernel
theorem bz2_d47 : decode jdk_65_method_59_code 47 = .ok (.iload_n 3, 1) := by decide +kernel
theorem bz2_d48 : decode jdk_65_method_59_code 48 = .ok (.if_icmp .le 12, 3) := by decide +kernel
theorem bz2_d51 : decode jdk_65_method_59_code 51 = .ok (.iload 6, 2) := by decide +kernel
theorem bz2_d53 : decode jdk_65_method_59_code 53 = .ok (.iconst 1, 1) := by decide +kernel
theorem bz2_d54 : decode jdk_65_method_59_code 54 = .ok (.isub, 1) := by decide +kernel
theorem bz2_d55 : decode jdk_65_method_59_code 55 = .ok (.istore 5, 2) := by decide +kernel
theorem bz2_d57 : decode jdk_65_method_59_code 57 = .ok (.goto 6, 3) := by decide +kernel
theorem bz2_d60 : decode jdk_65_method_59_code 60 = .ok (.iload 6, 2) := by decide +kernel
theorem bz2_d62 : decode jdk_65_method_59_code 62 = .ok (.ireturn, 1) := by decide +kernel
theorem bz2_d63 : decode jdk_65_method_59_code 63 = .ok (.goto (-55), 3) := by decide +kernel
theorem bz2_d66 : decode jdk_65_method_59_code 66 = .ok (.iload 4, 2) := by decide +kernel
theorem bz2_d68 : decode jdk_65_method_59_code 68 = .ok (.iconst 1, 1) := by decide +kernel
theorem bz2_d69 : decode jdk_65_method_59_code 69 = .ok (.iadd, 1) := by decide +kernel
theorem bz2_d70 : decode jdk_65_method_59_code 70 = .ok (.ineg, 1) := by decide +kernel
theorem bz2_d71 : decode jdk_65_method_59_code 71 = .ok (.ireturn, 1) := by decide +kernel
theorem own_pn_bz2 : plainFor (⟨"java/util/Arrays", "binarySearch0", "([IIII)I"⟩ : MethodName) = true := by decide +kernel
theorem own_ef_bz2 (m : MethodId) (o0 : Addr) (i1 : Int32) (i2 : Int32) (i3 : Int32) : entryFrame m #[(.ref o0), (.int i1), (.int i2), (.int i3)] 8 = (mkF m 0 #[.val (.ref o0), .val (.int i1), .val (.int i2), .val (.int i3), .unset, .unset, .unset, .unset] []) := by first | (simp [entryFrame, mkF, argsToLocals, Value.category]; done) | rfl
set_option maxRecDepth 65536 in
set_option maxHeartbeats 40000000 in
theorem bz2_go {p : Program} {l : Launch} {e : Env} {s : State} {m : MethodId} {args : Array Value} {below : List Frame} {meth : Method} {c : Code} {T : State} {Z : State} {a0 : Array Value} {h : Heap} (X : Stand p l e (⟨0, 0, 0, 0⟩ : Room) s m args below meth c T [] 0 0) (B : Bdy p s m meth c Z a0 "java/util/Arrays" "binarySearch0" jdk_65_method_59_code 8 (some .int) tables_1) (eT : T.heap = h) (o0 : Addr) (i1 : Int32) (i2 : Int32) (i3 : Int32) (v0 : Int32) (v1 : Int32) (v2 : Int32) (v3 : Int32) (h1 : i1 = (0 : Int32)) (h2 : i2 = (2 : Int32)) (Aw : Ax Z h o0 .int 4 (own_f v0 v1 v2 v3)) :
    Go p e below s 0 0 (PQ (some (.int (own_bs [v0, v1] i3))) h []) (T.setTop (mkF m 0 #[.val (.ref o0), .val (.int i1), .val (.int i2), .val (.int i3), .unset, .unset, .unset, .unset] [])) := by
  subst h1 h2
  refine g_iloadN X B bz2_d0 (pc' := 1) rfl (v := (0 : Int32)) rfl ?_
  refine g_istore X B bz2_d1 (pc' := 3) rfl (Ls' := #[.val (.ref o0), .val (.int (0 : Int32)), .val (.int (2 : Int32)), .val (.int i3), .val (.int (0 : Int32)), .unset, .unset, .unset]) rfl ?_
  refine g_iloadN X B bz2_d3 (pc' := 4) rfl (v := (2 : Int32)) rfl ?_
  refine g_iconst X B bz2_d4 (pc' := 5) rfl (v := (1 : Int32)) (by decide) ?_
  refine g_isub X B bz2_d5 (pc' := 6) rfl ?_
  refine g_istore X B bz2_d6 (pc' := 8) rfl (Ls' := #[.val (.ref o0), .val (.int (0 : Int32)), .val (.int (2 : Int32)), .val (.int i3), .val (.int (0 : Int32)), .val (.int ((2 : Int32) - (1 : Int32))), .unset, .unset]) rfl ?_
  refine g_iload X B bz2_d8 (pc' := 10) rfl (v := (0 : Int32)) rfl ?_
  refine g_iload X B bz2_d10 (pc' := 12) rfl (v := ((2 : Int32) - (1 : Int32))) rfl ?_
  refine g_icmp_gt X B bz2_d12 (pcT := 66) (pcF := 15) (by decide) rfl rfl (fun c12_0 => ?_) (fun c12_0 => ?_)
  · exact absurd c12_0 (by decide)
  · refine g_iload X B bz2_d15 (pc' := 17) rfl (v := (0 : Int32)) rfl ?_
    refine g_iload X B bz2_d17 (pc' := 19) rfl (v := ((2 : Int32) - (1 : Int32))) rfl ?_
    refine g_iadd X B bz2_d19 (pc' := 20) rfl ?_
    refine g_iconst X B bz2_d20 (pc' := 21) rfl (v := (1 : Int32)) (by decide) ?_
    refine g_iushr X B bz2_d21 (pc' := 22) rfl (z := ((((0 : Int32) + ((2 : Int32) - (1 : Int32))).toUInt32 >>> ((1 : Int32) &&& 31).toUInt32).toInt32)) rfl ?_
    refine g_istore X B bz2_d22 (pc' := 24) rfl (Ls' := #[.val (.ref o0), .val (.int (0 : Int32)), .val (.int (2 : Int32)), .val (.int i3), .val (.int (0 : Int32)), .val (.int ((2 : Int32) - (1 : Int32))), .val (.int ((((0 : Int32) + ((2 : Int32) - (1 : Int32))).toUInt32 >>> ((1 : Int32) &&& 31).toUInt32).toInt32)), .unset]) rfl ?_
    refine g_aloadN X B bz2_d24 (pc' := 25) rfl (v := (.ref o0)) rfl rfl ?_
    refine g_iload X B bz2_d25 (pc' := 27) rfl (v := ((((0 : Int32) + ((2 : Int32) - (1 : Int32))).toUInt32 >>> ((1 : Int32) &&& 31).toUInt32).toInt32)) rfl ?_
    refine g_iaload X B 0 eT Aw (by decide) (by decide) (v := (.int v0)) rfl bz2_d27 (pc' := 28) rfl ?_
    refine g_istore X B bz2_d28 (pc' := 30) rfl (Ls' := #[.val (.ref o0), .val (.int (0 : Int32)), .val (.int (2 : Int32)), .val (.int i3), .val (.int (0 : Int32)), .val (.int ((2 : Int32) - (1 : Int32))), .val (.int ((((0 : Int32) + ((2 : Int32) - (1 : Int32))).toUInt32 >>> ((1 : Int32) &&& 31).toUInt32).toInt32)), .val (.int v0)]) rfl ?_
    refine g_iload X B bz2_d30 (pc' := 32) rfl (v := v0) rfl ?_
    refine g_iloadN X B bz2_d32 (pc' := 33) rfl (v := i3) rfl ?_
    refine g_icmp_ge X B bz2_d33 (pcT := 45) (pcF := 36) (by decide) rfl rfl (fun c33_1 => ?_) (fun c33_1 => ?_)
    · refine g_iload X B bz2_d36 (pc' := 38) rfl (v := ((((0 : Int32) + ((2 : Int32) - (1 : Int32))).toUInt32 >>> ((1 : Int32) &&& 31).toUInt32).toInt32)) rfl ?_
      refine g_iconst X B bz2_d38 (pc' := 39) rfl (v := (1 : Int32)) (by decide) ?_
      refine g_iadd X B bz2_d39 (pc' := 40) rfl ?_
      refine g_istore X B bz2_d40 (pc' := 42) rfl (Ls' := #[.val (.ref o0), .val (.int (0 : Int32)), .val (.int (2 : Int32)), .val (.int i3), .val (.int (((((0 : Int32) + ((2 : Int32) - (1 : Int32))).toUInt32 >>> ((1 : Int32) &&& 31).toUInt32).toInt32) + (1 : Int32))), .val (.int ((2 : Int32) - (1 : Int32))), .val (.int ((((0 : Int32) + ((2 : Int32) - (1 : Int32))).toUInt32 >>> ((1 : Int32) &&& 31).toUInt32).toInt32)), .val (.int v0)]) rfl ?_
      refine g_goto X B bz2_d42 (pc' := 63) (by decide) rfl ?_
      refine g_goto X B bz2_d63 (pc' := 8) (by decide) rfl ?_
      refine g_iload X B bz2_d8 (pc' := 10) rfl (v := (((((0 : Int32) + ((2 : Int32) - (1 : Int32))).toUInt32 >>> ((1 : Int32) &&& 31).toUInt32).toInt32) + (1 : Int32))) rfl ?_
      refine g_iload X B bz2_d10 (pc' := 12) rfl (v := ((2 : Int32) - (1 : Int32))) rfl ?_
      refine g_icmp_gt X B bz2_d12 (pcT := 66) (pcF := 15) (by decide) rfl rfl (fun c12_2 => ?_) (fun c12_2 => ?_)
      · exact absurd c12_2 (by decide)
      · refine g_iload X B bz2_d15 (pc' := 17) rfl (v := (((((0 : Int32) + ((2 : Int32) - (1 : Int32))).toUInt32 >>> ((1 : Int32) &&& 31).toUInt32).toInt32) + (1 : Int32))) rfl ?_
        refine g_iload X B bz2_d17 (pc' := 19) rfl (v := ((2 : Int32) - (1 : Int32))) rfl ?_
        refine g_iadd X B bz2_d19 (pc' := 20) rfl ?_
        refine g_iconst X B bz2_d20 (pc' := 21) rfl (v := (1 : Int32)) (by decide) ?_
        refine g_iushr X B bz2_d21 (pc' := 22) rfl (z := ((((((((0 : Int32) + ((2 : Int32) - (1 : Int32))).toUInt32 >>> ((1 : Int32) &&& 31).toUInt32).toInt32) + (1 : Int32)) + ((2 : Int32) - (1 : Int32))).toUInt32 >>> ((1 : Int32) &&& 31).toUInt32).toInt32)) rfl ?_
        refine g_istore X B bz2_d22 (pc' := 24) rfl (Ls' := #[.val (.ref o0), .val (.int (0 : Int32)), .val (.int (2 : Int32)), .val (.int i3), .val (.int (((((0 : Int32) + ((2 : Int32) - (1 : Int32))).toUInt32 >>> ((1 : Int32) &&& 31).toUInt32).toInt32) + (1 : Int32))), .val (.int ((2 : Int32) - (1 : Int32))), .val (.int ((((((((0 : Int32) + ((2 : Int32) - (1 : Int32))).toUInt32 >>> ((1 : Int32) &&& 31).toUInt32).toInt32) + (1 : Int32)) + ((2 : Int32) - (1 : Int32))).toUInt32 >>> ((1 : Int32) &&& 31).toUInt32).toInt32)), .val (.int v0)]) rfl ?_
        refine g_aloadN X B bz2_d24 (pc' := 25) rfl (v := (.ref o0)) rfl rfl ?_
        refine g_iload X B bz2_d25 (pc' := 27) rfl (v := ((((((((0 : Int32) + ((2 : Int32) - (1 : Int32))).toUInt32 >>> ((1 : Int32) &&& 31).toUInt32).toInt32) + (1 : Int32)) + ((2 : Int32) - (1 : Int32))).toUInt32 >>> ((1 : Int32) &&& 31).toUInt32).toInt32)) rfl ?_
        refine g_iaload X B 1 eT Aw (by decide) (by decide) (v := (.int v1)) rfl bz2_d27 (pc' := 28) rfl ?_
        refine g_istore X B bz2_d28 (pc' := 30) rfl (Ls' := #[.val (.ref o0), .val (.int (0 : Int32)), .val (.int (2 : Int32)), .val (.int i3), .val (.int (((((0 : Int32) + ((2 : Int32) - (1 : Int32))).toUInt32 >>> ((1 : Int32) &&& 31).toUInt32).toInt32) + (1 : Int32))), .val (.int ((2 : Int32) - (1 : Int32))), .val (.int ((((((((0 : Int32) + ((2 : Int32) - (1 : Int32))).toUInt32 >>> ((1 : Int32) &&& 31).toUInt32).toInt32) + (1 : Int32)) + ((2 : Int32) - (1 : Int32))).toUInt32 >>> ((1 : Int32) &&& 31).toUInt32).toInt32)), .val (.int v1)]) rfl ?_
        refine g_iload X B bz2_d30 (pc' := 32) rfl (v := v1) rfl ?_
        refine g_iloadN X B bz2_d32 (pc' := 33) rfl (v := i3) rfl ?_
        refine g_icmp_ge X B bz2_d33 (pcT := 45) (pcF := 36) (by decide) rfl rfl (fun c33_3 => ?_) (fun c33_3 => ?_)
        · refine g_iload X B bz2_d36 (pc' := 38) rfl (v := ((((((((0 : Int32) + ((2 : Int32) - (1 : Int32))).toUInt32 >>> ((1 : Int32) &&& 31).toUInt32).toInt32) + (1 : Int32)) + ((2 : Int32) - (1 : Int32))).toUInt32 >>> ((1 : Int32) &&& 31).toUInt32).toInt32)) rfl ?_
          refine g_iconst X B bz2_d38 (pc' := 39) rfl (v := (1 : Int32)) (by decide) ?_
          refine g_iadd X B bz2_d39 (pc' := 40) rfl ?_
          refine g_istore X B bz2_d40 (pc' := 42) rfl (Ls' := #[.val (.ref o0), .val (.int (0 : Int32)), .val (.int (2 : Int32)), .val (.int i3), .val (.int (((((((((0 : Int32) + ((2 : Int32) - (1 : Int32))).toUInt32 >>> ((1 : Int32) &&& 31).toUInt32).toInt32) + (1 : Int32)) + ((2 : Int32) - (1 : Int32))).toUInt32 >>> ((1 : Int32) &&& 31).toUInt32).toInt32) + (1 : Int32))), .val (.int ((2 : Int32) - (1 : Int32))), .val (.int ((((((((0 : Int32) + ((2 : Int32) - (1 : Int32))).toUInt32 >>> ((1 : Int32) &&& 31).toUInt32).toInt32) + (1 : Int32)) + ((2 : Int32) - (1 : Int32))).toUInt32 >>> ((1 : Int32) &&& 31).toUInt32).toInt32)), .val (.int v1)]) rfl ?_
          refine g_goto X B bz2_d42 (pc' := 63) (by decide) rfl ?_
          refine g_goto X B bz2_d63 (pc' := 8) (by decide) rfl ?_
          refine g_iload X B bz2_d8 (pc' := 10) rfl (v := (((((((((0 : Int32) + ((2 : Int32) - (1 : Int32))).toUInt32 >>> ((1 : Int32) &&& 31).toUInt32).toInt32) + (1 : Int32)) + ((2 : Int32) - (1 : Int32))).toUInt32 >>> ((1 : Int32) &&& 31).toUInt32).toInt32) + (1 : Int32))) rfl ?_
          refine g_iload X B bz2_d10 (pc' := 12) rfl (v := ((2 : Int32) - (1 : Int32))) rfl ?_
          refine g_icmp_gt X B bz2_d12 (pcT := 66) (pcF := 15) (by decide) rfl rfl (fun c12_4 => ?_) (fun c12_4 => ?_)
          · refine g_iload X B bz2_d66 (pc' := 68) rfl (v := (((((((((0 : Int32) + ((2 : Int32) - (1 : Int32))).toUInt32 >>> ((1 : Int32) &&& 31).toUInt32).toInt32) + (1 : Int32)) + ((2 : Int32) - (1 : Int32))).toUInt32 >>> ((1 : Int32) &&& 31).toUInt32).toInt32) + (1 : Int32))) rfl ?_
            refine g_iconst X B bz2_d68 (pc' := 69) rfl (v := (1 : Int32)) (by decide) ?_
            refine g_iadd X B bz2_d69 (pc' := 70) rfl ?_
            refine g_ineg X B bz2_d70 (pc' := 71) rfl ?_
            exact g_retI X B rfl bz2_d71 (by decide) (by decide) ⟨congrArg (fun q => some (Value.int q)) (Eq.trans (by decide : ((-((((((((((0 : Int32) + ((2 : Int32) - (1 : Int32))).toUInt32 >>> ((1 : Int32) &&& 31).toUInt32).toInt32) + (1 : Int32)) + ((2 : Int32) - (1 : Int32))).toUInt32 >>> ((1 : Int32) &&& 31).toUInt32).toInt32) + (1 : Int32)) + (1 : Int32)))) = (-3 : Int32)) (by rw [show own_bs [v0, v1] i3 = (if v0 < i3 then (if v1 < i3 then -3 else if i3 < v1 then -2 else 1) else if i3 < v0 then -1 else 0) from rfl, if_pos c33_1, if_pos c33_3])), eT, rfl⟩
          · exact absurd (by decide) c12_4
        · refine g_iload X B bz2_d45 (pc' := 47) rfl (v := v1) rfl ?_
          refine g_iloadN X B bz2_d47 (pc' := 48) rfl (v := i3) rfl ?_
          refine g_icmp_le X B bz2_d48 (pcT := 60) (pcF := 51) (by decide) rfl rfl (fun c48_4 => ?_) (fun c48_4 => ?_)
          · refine g_iload X B bz2_d51 (pc' := 53) rfl (v := ((((((((0 : Int32) + ((2 : Int32) - (1 : Int32))).toUInt32 >>> ((1 : Int32) &&& 31).toUInt32).toInt32) + (1 : Int32)) + ((2 : Int32) - (1 : Int32))).toUInt32 >>> ((1 : Int32) &&& 31).toUInt32).toInt32)) rfl ?_
            refine g_iconst X B bz2_d53 (pc' := 54) rfl (v := (1 : Int32)) (by decide) ?_
            refine g_isub X B bz2_d54 (pc' := 55) rfl ?_
            refine g_istore X B bz2_d55 (pc' := 57) rfl (Ls' := #[.val (.ref o0), .val (.int (0 : Int32)), .val (.int (2 : Int32)), .val (.int i3), .val (.int (((((0 : Int32) + ((2 : Int32) - (1 : Int32))).toUInt32 >>> ((1 : Int32) &&& 31).toUInt32).toInt32) + (1 : Int32))), .val (.int (((((((((0 : Int32) + ((2 : Int32) - (1 : Int32))).toUInt32 >>> ((1 : Int32) &&& 31).toUInt32).toInt32) + (1 : Int32)) + ((2 : Int32) - (1 : Int32))).toUInt32 >>> ((1 : Int32) &&& 31).toUInt32).toInt32) - (1 : Int32))), .val (.int ((((((((0 : Int32) + ((2 : Int32) - (1 : Int32))).toUInt32 >>> ((1 : Int32) &&& 31).toUInt32).toInt32) + (1 : Int32)) + ((2 : Int32) - (1 : Int32))).toUInt32 >>> ((1 : Int32) &&& 31).toUInt32).toInt32)), .val (.int v1)]) rfl ?_
            refine g_goto X B bz2_d57 (pc' := 63) (by decide) rfl ?_
            refine g_goto X B bz2_d63 (pc' := 8) (by decide) rfl ?_
            refine g_iload X B bz2_d8 (pc' := 10) rfl (v := (((((0 : Int32) + ((2 : Int32) - (1 : Int32))).toUInt32 >>> ((1 : Int32) &&& 31).toUInt32).toInt32) + (1 : Int32))) rfl ?_
            refine g_iload X B bz2_d10 (pc' := 12) rfl (v := (((((((((0 : Int32) + ((2 : Int32) - (1 : Int32))).toUInt32 >>> ((1 : Int32) &&& 31).toUInt32).toInt32) + (1 : Int32)) + ((2 : Int32) - (1 : Int32))).toUInt32 >>> ((1 : Int32) &&& 31).toUInt32).toInt32) - (1 : Int32))) rfl ?_
            refine g_icmp_gt X B bz2_d12 (pcT := 66) (pcF := 15) (by decide) rfl rfl (fun c12_5 => ?_) (fun c12_5 => ?_)
            · refine g_iload X B bz2_d66 (pc' := 68) rfl (v := (((((0 : Int32) + ((2 : Int32) - (1 : Int32))).toUInt32 >>> ((1 : Int32) &&& 31).toUInt32).toInt32) + (1 : Int32))) rfl ?_
              refine g_iconst X B bz2_d68 (pc' := 69) rfl (v := (1 : Int32)) (by decide) ?_
              refine g_iadd X B bz2_d69 (pc' := 70) rfl ?_
              refine g_ineg X B bz2_d70 (pc' := 71) rfl ?_
              exact g_retI X B rfl bz2_d71 (by decide) (by decide) ⟨congrArg (fun q => some (Value.int q)) (Eq.trans (by decide : ((-((((((0 : Int32) + ((2 : Int32) - (1 : Int32))).toUInt32 >>> ((1 : Int32) &&& 31).toUInt32).toInt32) + (1 : Int32)) + (1 : Int32)))) = (-2 : Int32)) (by rw [show own_bs [v0, v1] i3 = (if v0 < i3 then (if v1 < i3 then -3 else if i3 < v1 then -2 else 1) else if i3 < v0 then -1 else 0) from rfl, if_pos c33_1, if_neg c33_3, if_pos c48_4])), eT, rfl⟩
            · exact absurd (by decide) c12_5
          · refine g_iload X B bz2_d60 (pc' := 62) rfl (v := ((((((((0 : Int32) + ((2 : Int32) - (1 : Int32))).toUInt32 >>> ((1 : Int32) &&& 31).toUInt32).toInt32) + (1 : Int32)) + ((2 : Int32) - (1 : Int32))).toUInt32 >>> ((1 : Int32) &&& 31).toUInt32).toInt32)) rfl ?_
            exact g_retI X B rfl bz2_d62 (by decide) (by decide) ⟨congrArg (fun q => some (Value.int q)) (Eq.trans (by decide : ((((((((0 : Int32) + ((2 : Int32) - (1 : Int32))).toUInt32 >>> ((1 : Int32) &&& 31).toUInt32).toInt32) + (1 : Int32)) + ((2 : Int32) - (1 : Int32))).toUInt32 >>> ((1 : Int32) &&& 31).toUInt32).toInt32) = (1 : Int32)) (by rw [show own_bs [v0, v1] i3 = (if v0 < i3 then (if v1 < i3 then -3 else if i3 < v1 then -2 else 1) else if i3 < v0 then -1 else 0) from rfl, if_pos c33_1, if_neg c33_3, if_neg c48_4])), eT, rfl⟩
    · refine g_iload X B bz2_d45 (pc' := 47) rfl (v := v0) rfl ?_
      refine g_iloadN X B bz2_d47 (pc' := 48) rfl (v := i3) rfl ?_
      refine g_icmp_le X B bz2_d48 (pcT := 60) (pcF := 51) (by decide) rfl rfl (fun c48_2 => ?_) (fun c48_2 => ?_)
      · refine g_iload X B bz2_d51 (pc' := 53) rfl (v := ((((0 : Int32) + ((2 : Int32) - (1 : Int32))).toUInt32 >>> ((1 : Int32) &&& 31).toUInt32).toInt32)) rfl ?_
        refine g_iconst X B bz2_d53 (pc' := 54) rfl (v := (1 : Int32)) (by decide) ?_
        refine g_isub X B bz2_d54 (pc' := 55) rfl ?_
        refine g_istore X B bz2_d55 (pc' := 57) rfl (Ls' := #[.val (.ref o0), .val (.int (0 : Int32)), .val (.int (2 : Int32)), .val (.int i3), .val (.int (0 : Int32)), .val (.int (((((0 : Int32) + ((2 : Int32) - (1 : Int32))).toUInt32 >>> ((1 : Int32) &&& 31).toUInt32).toInt32) - (1 : Int32))), .val (.int ((((0 : Int32) + ((2 : Int32) - (1 : Int32))).toUInt32 >>> ((1 : Int32) &&& 31).toUInt32).toInt32)), .val (.int v0)]) rfl ?_
        refine g_goto X B bz2_d57 (pc' := 63) (by decide) rfl ?_
        refine g_goto X B bz2_d63 (pc' := 8) (by decide) rfl ?_
        refine g_iload X B bz2_d8 (pc' := 10) rfl (v := (0 : Int32)) rfl ?_
        refine g_iload X B bz2_d10 (pc' := 12) rfl (v := (((((0 : Int32) + ((2 : Int32) - (1 : Int32))).toUInt32 >>> ((1 : Int32) &&& 31).toUInt32).toInt32) - (1 : Int32))) rfl ?_
        refine g_icmp_gt X B bz2_d12 (pcT := 66) (pcF := 15) (by decide) rfl rfl (fun c12_3 => ?_) (fun c12_3 => ?_)
        · refine g_iload X B bz2_d66 (pc' := 68) rfl (v := (0 : Int32)) rfl ?_
          refine g_iconst X B bz2_d68 (pc' := 69) rfl (v := (1 : Int32)) (by decide) ?_
          refine g_iadd X B bz2_d69 (pc' := 70) rfl ?_
          refine g_ineg X B bz2_d70 (pc' := 71) rfl ?_
          exact g_retI X B rfl bz2_d71 (by decide) (by decide) ⟨congrArg (fun q => some (Value.int q)) (Eq.trans (by decide : ((-((0 : Int32) + (1 : Int32)))) = (-1 : Int32)) (by rw [show own_bs [v0, v1] i3 = (if v0 < i3 then (if v1 < i3 then -3 else if i3 < v1 then -2 else 1) else if i3 < v0 then -1 else 0) from rfl, if_neg c33_1, if_pos c48_2])), eT, rfl⟩
        · exact absurd (by decide) c12_3
      · refine g_iload X B bz2_d60 (pc' := 62) rfl (v := ((((0 : Int32) + ((2 : Int32) - (1 : Int32))).toUInt32 >>> ((1 : Int32) &&& 31).toUInt32).toInt32)) rfl ?_
        exact g_retI X B rfl bz2_d62 (by decide) (by decide) ⟨congrArg (fun q => some (Value.int q)) (Eq.trans (by decide : ((((0 : Int32) + ((2 : Int32) - (1 : Int32))).toUInt32 >>> ((1 : Int32) &&& 31).toUInt32).toInt32) = (0 : Int32)) (by rw [show own_bs [v0, v1] i3 = (if v0 < i3 then (if v1 < i3 then -3 else if i3 < v1 then -2 else 1) else if i3 < v0 then -1 else 0) from rfl, if_neg c33_1, if_neg c48_2])), eT, rfl⟩
theorem bz2_met (l : Launch) (Z : State) (a0 : Array Value) (hw : ∀ d ∈ tables_1, d.before a0 Z = true) (ws : List Jvm.Cond) (h : Heap) (o0 : Addr) (i1 : Int32) (i2 : Int32) (i3 : Int32) (v0 : Int32) (v1 : Int32) (v2 : Int32) (v3 : Int32) (h1 : i1 = (0 : Int32)) (h2 : i2 = (2 : Int32)) (Aw : Ax Z h o0 .int 4 (own_f v0 v1 v2 v3)) :
    Met l Z (⟨"java/util/Arrays", "binarySearch0", "([IIII)I"⟩ : MethodName) jdk_65_method_59_code 8 (some .int) ws (⟨0, 0, 0, 0⟩ : Room) #[(.ref o0), (.int i1), (.int i2), (.int i3)] h (PQ (some (.int (own_bs [v0, v1] i3))) h []) :=
  met_of own_pn_bz2 hw fun p e s m below meth c T X B eT => Go.top (own_ef_bz2 m o0 i1 i2 i3) (bz2_go X B eT o0 i1 i2 i3 v0 v1 v2 v3 h1 h2 Aw)
theorem bs0_d0 : decode jdk_65_method_58_code 0 = .ok (.aload_n 0, 1) := by decide +kernel
theorem bs0_d1 : decode jdk_65_method_58_code 1 = .ok (.arraylength, 1) := by decide +kernel
theorem bs0_d2 : decode jdk_65_method_58_code 2 = .ok (.iload_n 1, 1) := by decide +kernel
theorem bs0_d3 : decode jdk_65_method_58_code 3 = .ok (.iload_n 2, 1) := by decide +kernel
theorem bs0_d4 : decode jdk_65_method_58_code 4 = .ok (.invokestatic 13, 3) := by decide +kernel
theorem bs0_d7 : decode jdk_65_method_58_code 7 = .ok (.aload_n 0, 1) := by decide +kernel
theorem bs0_d8 : decode jdk_65_method_58_code 8 = .ok (.iload_n 1, 1) := by decide +kernel
theorem bs0_d9 : decode jdk_65_method_58_code 9 = .ok (.iload_n 2, 1) := by decide +kernel
theorem bs0_d10 : decode jdk_65_method_58_code 10 = .ok (.iload_n 3, 1) := by decide +kernel
theorem bs0_d11 : decode jdk_65_method_58_code 11 = .ok (.invokestatic 209, 3) := by decide +kernel
theorem bs0_d14 : decode jdk_65_method_58_code 14 = .ok (.ireturn, 1) := by decide +kernel
theorem own_pn_bs0 : plainFor (⟨"java/util/Arrays", "binarySearch", "([IIII)I"⟩ : MethodName) = true := by decide +kernel
theorem own_ef_bs0 (m : MethodId) (o0 : Addr) (i1 : Int32) (i2 : Int32) (i3 : Int32) : entryFrame m #[(.ref o0), (.int i1), (.int i2), (.int i3)] 4 = (mkF m 0 #[.val (.ref o0), .val (.int i1), .val (.int i2), .val (.int i3)] []) := by first | (simp [entryFrame, mkF, argsToLocals, Value.category]; done) | rfl
set_option maxRecDepth 65536 in
set_option maxHeartbeats 40000000 in
theorem bs0_go {p : Program} {l : Launch} {e : Env} {s : State} {m : MethodId} {args : Array Value} {below : List Frame} {meth : Method} {c : Code} {T : State} {Z : State} {a0 : Array Value} {h : Heap} (X : Stand p l e (⟨1, 0, 0, 19⟩ : Room) s m args below meth c T [] 0 0) (B : Bdy p s m meth c Z a0 "java/util/Arrays" "binarySearch" jdk_65_method_58_code 4 (some .int) tables_1) (eT : T.heap = h) (o0 : Addr) (i1 : Int32) (i2 : Int32) (i3 : Int32) (v0 : Int32) (v1 : Int32) (v2 : Int32) (v3 : Int32) (h1 : i1 = (0 : Int32)) (h2 : i2 = (0 : Int32)) (Aw : Ax Z h o0 .int 4 (own_f v0 v1 v2 v3)) :
    Go p e below s 0 0 (PQ (some (.int (own_bs ([] : List Int32) i3))) h []) (T.setTop (mkF m 0 #[.val (.ref o0), .val (.int i1), .val (.int i2), .val (.int i3)] [])) := by
  subst h1 h2
  refine g_aloadN X B bs0_d0 (pc' := 1) rfl (v := (.ref o0)) rfl rfl ?_
  refine g_arrlen X B (4 : Int32) eT Aw (by decide) bs0_d1 (pc' := 2) rfl ?_
  refine g_iloadN X B bs0_d2 (pc' := 3) rfl (v := (0 : Int32)) rfl ?_
  refine g_iloadN X B bs0_d3 (pc' := 4) rfl (v := (0 : Int32)) rfl ?_
  refine g_callS X B eT 0 (y := (⟨"java/util/Arrays", "rangeCheck", "(III)V"⟩ : MethodName)) (argsL := [(.int (4 : Int32)), (.int (0 : Int32)), (.int (0 : Int32))]) (rest := []) (B.w 27 rfl) (B.w 28 rfl) (B.w 25 rfl) (B.w 29 rfl) (by decide) (rc0_met l Z a0 B.2.2.1 [] h (4 : Int32) (0 : Int32) (0 : Int32) rfl rfl rfl) (by decide) (by decide) (by decide) (by decide) rfl (lenOf own_pd0 rfl) rfl (Nat.le_of_eq rfl) bs0_d4 (pc' := 7) rfl (fun T1 v1 L1 X1 Q1 => ?_)
  obtain ⟨rfl, hh1, rfl⟩ := Q1
  rw [List.append_nil] at X1
  show Go p e below s _ _ _ (T1.setTop (mkF m 7 #[.val (.ref o0), .val (.int (0 : Int32)), .val (.int (0 : Int32)), .val (.int i3)] []))
  refine g_aloadN X1 B bs0_d7 (pc' := 8) rfl (v := (.ref o0)) rfl rfl ?_
  refine g_iloadN X1 B bs0_d8 (pc' := 9) rfl (v := (0 : Int32)) rfl ?_
  refine g_iloadN X1 B bs0_d9 (pc' := 10) rfl (v := (0 : Int32)) rfl ?_
  refine g_iloadN X1 B bs0_d10 (pc' := 11) rfl (v := i3) rfl ?_
  refine g_callS X1 B hh1 0 (y := (⟨"java/util/Arrays", "binarySearch0", "([IIII)I"⟩ : MethodName)) (argsL := [(.ref o0), (.int (0 : Int32)), (.int (0 : Int32)), (.int i3)]) (rest := []) (B.w 30 rfl) (B.w 31 rfl) (B.w 25 rfl) (B.w 32 rfl) (by decide) (bz0_met l Z a0 B.2.2.1 [] h o0 (0 : Int32) (0 : Int32) i3 v0 v1 v2 v3 rfl rfl Aw) (by decide) (by decide) (by decide) (by decide) rfl (lenOf own_pd1 rfl) rfl (Nat.le_of_eq rfl) bs0_d11 (pc' := 14) rfl (fun T2 v2 L2 X2 Q2 => ?_)
  obtain ⟨rfl, hh2, rfl⟩ := Q2
  rw [List.append_nil] at X2
  show Go p e below s _ _ _ (T2.setTop (mkF m 14 #[.val (.ref o0), .val (.int (0 : Int32)), .val (.int (0 : Int32)), .val (.int i3)] [(.int (own_bs ([] : List Int32) i3))]))
  exact g_retI X2 B rfl bs0_d14 (by decide) (by decide) ⟨rfl, hh2, rfl⟩
theorem bs0_met (l : Launch) (Z : State) (a0 : Array Value) (hw : ∀ d ∈ tables_1, d.before a0 Z = true) (ws : List Jvm.Cond) (h : Heap) (o0 : Addr) (i1 : Int32) (i2 : Int32) (i3 : Int32) (v0 : Int32) (v1 : Int32) (v2 : Int32) (v3 : Int32) (h1 : i1 = (0 : Int32)) (h2 : i2 = (0 : Int32)) (Aw : Ax Z h o0 .int 4 (own_f v0 v1 v2 v3)) :
    Met l Z (⟨"java/util/Arrays", "binarySearch", "([IIII)I"⟩ : MethodName) jdk_65_method_58_code 4 (some .int) ws (⟨1, 0, 0, 19⟩ : Room) #[(.ref o0), (.int i1), (.int i2), (.int i3)] h (PQ (some (.int (own_bs ([] : List Int32) i3))) h []) :=
  met_of own_pn_bs0 hw fun p e s m below meth c T X B eT => Go.top (own_ef_bs0 m o0 i1 i2 i3) (bs0_go X B eT o0 i1 i2 i3 v0 v1 v2 v3 h1 h2 Aw)
theorem bs1_d0 : decode jdk_65_method_58_code 0 = .ok (.aload_n 0, 1) := by decide +kernel
theorem bs1_d1 : decode jdk_65_method_58_code 1 = .ok (.arraylength, 1) := by decide +kernel
theorem bs1_d2 : decode jdk_65_method_58_code 2 = .ok (.iload_n 1, 1) := by decide +kernel
theorem bs1_d3 : decode jdk_65_method_58_code 3 = .ok (.iload_n 2, 1) := by decide +kernel
theorem bs1_d4 : decode jdk_65_method_58_code 4 = .ok (.invokestatic 13, 3) := by decide +kernel
theorem bs1_d7 : decode jdk_65_method_58_code 7 = .ok (.aload_n 0, 1) := by decide +kernel
theorem bs1_d8 : decode jdk_65_method_58_code 8 = .ok (.iload_n 1, 1) := by decide +kernel
theorem bs1_d9 : decode jdk_65_method_58_code 9 = .ok (.iload_n 2, 1) := by decide +kernel
theorem bs1_d10 : decode jdk_65_method_58_code 10 = .ok (.iload_n 3, 1) := by decide +kernel
theorem bs1_d11 : decode jdk_65_method_58_code 11 = .ok (.invokestatic 209, 3) := by decide +kernel
theorem bs1_d14 : decode jdk_65_method_58_code 14 = .ok (.ireturn, 1) := by decide +kernel
theorem own_pn_bs1 : plainFor (⟨"java/util/Arrays", "binarySearch", "([IIII)I"⟩ : MethodName) = true := by decide +kernel
theorem own_ef_bs1 (m : MethodId) (o0 : Addr) (i1 : Int32) (i2 : Int32) (i3 : Int32) : entryFrame m #[(.ref o0), (.int i1), (.int i2), (.int i3)] 4 = (mkF m 0 #[.val (.ref o0), .val (.int i1), .val (.int i2), .val (.int i3)] []) := by first | (simp [entryFrame, mkF, argsToLocals, Value.category]; done) | rfl
set_option maxRecDepth 65536 in
set_option maxHeartbeats 40000000 in
theorem bs1_go {p : Program} {l : Launch} {e : Env} {s : State} {m : MethodId} {args : Array Value} {below : List Frame} {meth : Method} {c : Code} {T : State} {Z : State} {a0 : Array Value} {h : Heap} (X : Stand p l e (⟨1, 0, 0, 19⟩ : Room) s m args below meth c T [] 0 0) (B : Bdy p s m meth c Z a0 "java/util/Arrays" "binarySearch" jdk_65_method_58_code 4 (some .int) tables_1) (eT : T.heap = h) (o0 : Addr) (i1 : Int32) (i2 : Int32) (i3 : Int32) (v0 : Int32) (v1 : Int32) (v2 : Int32) (v3 : Int32) (h1 : i1 = (0 : Int32)) (h2 : i2 = (1 : Int32)) (Aw : Ax Z h o0 .int 4 (own_f v0 v1 v2 v3)) :
    Go p e below s 0 0 (PQ (some (.int (own_bs [v0] i3))) h []) (T.setTop (mkF m 0 #[.val (.ref o0), .val (.int i1), .val (.int i2), .val (.int i3)] [])) := by
  subst h1 h2
  refine g_aloadN X B bs1_d0 (pc' := 1) rfl (v := (.ref o0)) rfl rfl ?_
  refine g_arrlen X B (4 : Int32) eT Aw (by decide) bs1_d1 (pc' := 2) rfl ?_
  refine g_iloadN X B bs1_d2 (pc' := 3) rfl (v := (0 : Int32)) rfl ?_
  refine g_iloadN X B bs1_d3 (pc' := 4) rfl (v := (1 : Int32)) rfl ?_
  refine g_callS X B eT 0 (y := (⟨"java/util/Arrays", "rangeCheck", "(III)V"⟩ : MethodName)) (argsL := [(.int (4 : Int32)), (.int (0 : Int32)), (.int (1 : Int32))]) (rest := []) (B.w 27 rfl) (B.w 28 rfl) (B.w 25 rfl) (B.w 29 rfl) (by decide) (rc1_met l Z a0 B.2.2.1 [] h (4 : Int32) (0 : Int32) (1 : Int32) rfl rfl rfl) (by decide) (by decide) (by decide) (by decide) rfl (lenOf own_pd0 rfl) rfl (Nat.le_of_eq rfl) bs1_d4 (pc' := 7) rfl (fun T1 v1 L1 X1 Q1 => ?_)
  obtain ⟨rfl, hh1, rfl⟩ := Q1
  rw [List.append_nil] at X1
  show Go p e below s _ _ _ (T1.setTop (mkF m 7 #[.val (.ref o0), .val (.int (0 : Int32)), .val (.int (1 : Int32)), .val (.int i3)] []))
  refine g_aloadN X1 B bs1_d7 (pc' := 8) rfl (v := (.ref o0)) rfl rfl ?_
  refine g_iloadN X1 B bs1_d8 (pc' := 9) rfl (v := (0 : Int32)) rfl ?_
  refine g_iloadN X1 B bs1_d9 (pc' := 10) rfl (v := (1 : Int32)) rfl ?_
  refine g_iloadN X1 B bs1_d10 (pc' := 11) rfl (v := i3) rfl ?_
  refine g_callS X1 B hh1 0 (y := (⟨"java/util/Arrays", "binarySearch0", "([IIII)I"⟩ : MethodName)) (argsL := [(.ref o0), (.int (0 : Int32)), (.int (1 : Int32)), (.int i3)]) (rest := []) (B.w 30 rfl) (B.w 31 rfl) (B.w 25 rfl) (B.w 32 rfl) (by decide) (bz1_met l Z a0 B.2.2.1 [] h o0 (0 : Int32) (1 : Int32) i3 v0 v1 v2 v3 rfl rfl Aw) (by decide) (by decide) (by decide) (by decide) rfl (lenOf own_pd1 rfl) rfl (Nat.le_of_eq rfl) bs1_d11 (pc' := 14) rfl (fun T2 v2 L2 X2 Q2 => ?_)
  obtain ⟨rfl, hh2, rfl⟩ := Q2
  rw [List.append_nil] at X2
  show Go p e below s _ _ _ (T2.setTop (mkF m 14 #[.val (.ref o0), .val (.int (0 : Int32)), .val (.int (1 : Int32)), .val (.int i3)] [(.int (own_bs [v0] i3))]))
  exact g_retI X2 B rfl bs1_d14 (by decide) (by decide) ⟨rfl, hh2, rfl⟩
theorem bs1_met (l : Launch) (Z : State) (a0 : Array Value) (hw : ∀ d ∈ tables_1, d.before a0 Z = true) (ws : List Jvm.Cond) (h : Heap) (o0 : Addr) (i1 : Int32) (i2 : Int32) (i3 : Int32) (v0 : Int32) (v1 : Int32) (v2 : Int32) (v3 : Int32) (h1 : i1 = (0 : Int32)) (h2 : i2 = (1 : Int32)) (Aw : Ax Z h o0 .int 4 (own_f v0 v1 v2 v3)) :
    Met l Z (⟨"java/util/Arrays", "binarySearch", "([IIII)I"⟩ : MethodName) jdk_65_method_58_code 4 (some .int) ws (⟨1, 0, 0, 19⟩ : Room) #[(.ref o0), (.int i1), (.int i2), (.int i3)] h (PQ (some (.int (own_bs [v0] i3))) h []) :=
  met_of own_pn_bs1 hw fun p e s m below meth c T X B eT => Go.top (own_ef_bs1 m o0 i1 i2 i3) (bs1_go X B eT o0 i1 i2 i3 v0 v1 v2 v3 h1 h2 Aw)
theorem bs2_d0 : decode jdk_65_method_58_code 0 = .ok (.aload_n 0, 1) := by decide +kernel
theorem bs2_d1 : decode jdk_65_method_58_code 1 = .ok (.arraylength, 1) := by decide +kernel
theorem bs2_d2 : decode jdk_65_method_58_code 2 = .ok (.iload_n 1, 1) := by decide +kernel
theorem bs2_d3 : decode jdk_65_method_58_code 3 = .ok (.iload_n 2, 1) := by decide +kernel
theorem bs2_d4 : decode jdk_65_method_58_code 4 = .ok (.invokestatic 13, 3) := by decide +kernel
theorem bs2_d7 : decode jdk_65_method_58_code 7 = .ok (.aload_n 0, 1) := by decide +kernel
theorem bs2_d8 : decode jdk_65_method_58_code 8 = .ok (.iload_n 1, 1) := by decide +kernel
theorem bs2_d9 : decode jdk_65_method_58_code 9 = .ok (.iload_n 2, 1) := by decide +kernel
theorem bs2_d10 : decode jdk_65_method_58_code 10 = .ok (.iload_n 3, 1) := by decide +kernel
theorem bs2_d11 : decode jdk_65_method_58_code 11 = .ok (.invokestatic 209, 3) := by decide +kernel
theorem bs2_d14 : decode jdk_65_method_58_code 14 = .ok (.ireturn, 1) := by decide +kernel
theorem own_pn_bs2 : plainFor (⟨"java/util/Arrays", "binarySearch", "([IIII)I"⟩ : MethodName) = true := by decide +kernel
theorem own_ef_bs2 (m : MethodId) (o0 : Addr) (i1 : Int32) (i2 : Int32) (i3 : Int32) : entryFrame m #[(.ref o0), (.int i1), (.int i2), (.int i3)] 4 = (mkF m 0 #[.val (.ref o0), .val (.int i1), .val (.int i2), .val (.int i3)] []) := by first | (simp [entryFrame, mkF, argsToLocals, Value.category]; done) | rfl
set_option maxRecDepth 65536 in
set_option maxHeartbeats 40000000 in
theorem bs2_go {p : Program} {l : Launch} {e : Env} {s : State} {m : MethodId} {args : Array Value} {below : List Frame} {meth : Method} {c : Code} {T : State} {Z : State} {a0 : Array Value} {h : Heap} (X : Stand p l e (⟨1, 0, 0, 19⟩ : Room) s m args below meth c T [] 0 0) (B : Bdy p s m meth c Z a0 "java/util/Arrays" "binarySearch" jdk_65_method_58_code 4 (some .int) tables_1) (eT : T.heap = h) (o0 : Addr) (i1 : Int32) (i2 : Int32) (i3 : Int32) (v0 : Int32) (v1 : Int32) (v2 : Int32) (v3 : Int32) (h1 : i1 = (0 : Int32)) (h2 : i2 = (2 : Int32)) (Aw : Ax Z h o0 .int 4 (own_f v0 v1 v2 v3)) :
    Go p e below s 0 0 (PQ (some (.int (own_bs [v0, v1] i3))) h []) (T.setTop (mkF m 0 #[.val (.ref o0), .val (.int i1), .val (.int i2), .val (.int i3)] [])) := by
  subst h1 h2
  refine g_aloadN X B bs2_d0 (pc' := 1) rfl (v := (.ref o0)) rfl rfl ?_
  refine g_arrlen X B (4 : Int32) eT Aw (by decide) bs2_d1 (pc' := 2) rfl ?_
  refine g_iloadN X B bs2_d2 (pc' := 3) rfl (v := (0 : Int32)) rfl ?_
  refine g_iloadN X B bs2_d3 (pc' := 4) rfl (v := (2 : Int32)) rfl ?_
  refine g_callS X B eT 0 (y := (⟨"java/util/Arrays", "rangeCheck", "(III)V"⟩ : MethodName)) (argsL := [(.int (4 : Int32)), (.int (0 : Int32)), (.int (2 : Int32))]) (rest := []) (B.w 27 rfl) (B.w 28 rfl) (B.w 25 rfl) (B.w 29 rfl) (by decide) (rc2_met l Z a0 B.2.2.1 [] h (4 : Int32) (0 : Int32) (2 : Int32) rfl rfl rfl) (by decide) (by decide) (by decide) (by decide) rfl (lenOf own_pd0 rfl) rfl (Nat.le_of_eq rfl) bs2_d4 (pc' := 7) rfl (fun T1 v1 L1 X1 Q1 => ?_)
  obtain ⟨rfl, hh1, rfl⟩ := Q1
  rw [List.append_nil] at X1
  show Go p e below s _ _ _ (T1.setTop (mkF m 7 #[.val (.ref o0), .val (.int (0 : Int32)), .val (.int (2 : Int32)), .val (.int i3)] []))
  refine g_aloadN X1 B bs2_d7 (pc' := 8) rfl (v := (.ref o0)) rfl rfl ?_
  refine g_iloadN X1 B bs2_d8 (pc' := 9) rfl (v := (0 : Int32)) rfl ?_
  refine g_iloadN X1 B bs2_d9 (pc' := 10) rfl (v := (2 : Int32)) rfl ?_
  refine g_iloadN X1 B bs2_d10 (pc' := 11) rfl (v := i3) rfl ?_
  refine g_callS X1 B hh1 0 (y := (⟨"java/util/Arrays", "binarySearch0", "([IIII)I"⟩ : MethodName)) (argsL := [(.ref o0), (.int (0 : Int32)), (.int (2 : Int32)), (.int i3)]) (rest := []) (B.w 30 rfl) (B.w 31 rfl) (B.w 25 rfl) (B.w 32 rfl) (by decide) (bz2_met l Z a0 B.2.2.1 [] h o0 (0 : Int32) (2 : Int32) i3 v0 v1 v2 v3 rfl rfl Aw) (by decide) (by decide) (by decide) (by decide) rfl (lenOf own_pd1 rfl) rfl (Nat.le_of_eq rfl) bs2_d11 (pc' := 14) rfl (fun T2 v2 L2 X2 Q2 => ?_)
  obtain ⟨rfl, hh2, rfl⟩ := Q2
  rw [List.append_nil] at X2
  show Go p e below s _ _ _ (T2.setTop (mkF m 14 #[.val (.ref o0), .val (.int (0 : Int32)), .val (.int (2 : Int32)), .val (.int i3)] [(.int (own_bs [v0, v1] i3))]))
  exact g_retI X2 B rfl bs2_d14 (by decide) (by decide) ⟨rfl, hh2, rfl⟩
theorem bs2_met (l : Launch) (Z : State) (a0 : Array Value) (hw : ∀ d ∈ tables_1, d.before a0 Z = true) (ws : List Jvm.Cond) (h : Heap) (o0 : Addr) (i1 : Int32) (i2 : Int32) (i3 : Int32) (v0 : Int32) (v1 : Int32) (v2 : Int32) (v3 : Int32) (h1 : i1 = (0 : Int32)) (h2 : i2 = (2 : Int32)) (Aw : Ax Z h o0 .int 4 (own_f v0 v1 v2 v3)) :
    Met l Z (⟨"java/util/Arrays", "binarySearch", "([IIII)I"⟩ : MethodName) jdk_65_method_58_code 4 (some .int) ws (⟨1, 0, 0, 19⟩ : Room) #[(.ref o0), (.int i1), (.int i2), (.int i3)] h (PQ (some (.int (own_bs [v0, v1] i3))) h []) :=
  met_of own_pn_bs2 hw fun p e s m below meth c T X B eT => Go.top (own_ef_bs2 m o0 i1 i2 i3) (bs2_go X B eT o0 i1 i2 i3 v0 v1 v2 v3 h1 h2 Aw)
theorem li0_d0 : decode prog_78_method_23_code 0 = .ok (.aload_n 0, 1) := by decide +kernel
theorem li0_d1 : decode prog_78_method_23_code 1 = .ok (.getfield 30, 3) := by decide +kernel
theorem li0_d4 : decode prog_78_method_23_code 4 = .ok (.ifCond .eq 18, 3) := by decide +kernel
theorem li0_d22 : decode prog_78_method_23_code 22 = .ok (.iconst 1, 1) := by decide +kernel
theorem li0_d23 : decode prog_78_method_23_code 23 = .ok (.goto 4, 3) := by decide +kernel
theorem li0_d27 : decode prog_78_method_23_code 27 = .ok (.istore_n 2, 1) := by decide +kernel
theorem li0_d28 : decode prog_78_method_23_code 28 = .ok (.iload_n 2, 1) := by decide +kernel
theorem li0_d29 : decode prog_78_method_23_code 29 = .ok (.ifCond .eq 13, 3) := by decide +kernel
theorem li0_d32 : decode prog_78_method_23_code 32 = .ok (.aload_n 0, 1) := by decide +kernel
theorem li0_d33 : decode prog_78_method_23_code 33 = .ok (.getfield 30, 3) := by decide +kernel
theorem li0_d36 : decode prog_78_method_23_code 36 = .ok (.ineg, 1) := by decide +kernel
theorem li0_d37 : decode prog_78_method_23_code 37 = .ok (.iconst 1, 1) := by decide +kernel
theorem li0_d38 : decode prog_78_method_23_code 38 = .ok (.isub, 1) := by decide +kernel
theorem li0_d39 : decode prog_78_method_23_code 39 = .ok (.goto 16, 3) := by decide +kernel
theorem li0_d55 : decode prog_78_method_23_code 55 = .ok (.istore_n 3, 1) := by decide +kernel
theorem li0_d56 : decode prog_78_method_23_code 56 = .ok (.iload_n 3, 1) := by decide +kernel
theorem li0_d57 : decode prog_78_method_23_code 57 = .ok (.ifCond .lt 4, 3) := by decide +kernel
theorem li0_d61 : decode prog_78_method_23_code 61 = .ok (.aload_n 0, 1) := by decide +kernel
theorem li0_d62 : decode prog_78_method_23_code 62 = .ok (.getfield 30, 3) := by decide +kernel
theorem li0_d65 : decode prog_78_method_23_code 65 = .ok (.bipush 64, 2) := by decide +kernel
theorem li0_d67 : decode prog_78_method_23_code 67 = .ok (.if_icmp .ne 13, 3) := by decide +kernel
theorem li0_d80 : decode prog_78_method_23_code 80 = .ok (.aload_n 0, 1) := by decide +kernel
theorem li0_d81 : decode prog_78_method_23_code 81 = .ok (.getfield 30, 3) := by decide +kernel
theorem li0_d84 : decode prog_78_method_23_code 84 = .ok (.aload_n 0, 1) := by decide +kernel
theorem li0_d85 : decode prog_78_method_23_code 85 = .ok (.getfield 7, 3) := by decide +kernel
theorem li0_d88 : decode prog_78_method_23_code 88 = .ok (.arraylength, 1) := by decide +kernel
theorem li0_d89 : decode prog_78_method_23_code 89 = .ok (.if_icmp .ne 20, 3) := by decide +kernel
theorem li0_d109 : decode prog_78_method_23_code 109 = .ok (.iload_n 3, 1) := by decide +kernel
theorem li0_d110 : decode prog_78_method_23_code 110 = .ok (.ineg, 1) := by decide +kernel
theorem li0_d111 : decode prog_78_method_23_code 111 = .ok (.iconst 1, 1) := by decide +kernel
theorem li0_d112 : decode prog_78_method_23_code 112 = .ok (.isub, 1) := by decide +kernel
theorem li0_d113 : decode prog_78_method_23_code 113 = .ok (.istore 4, 2) := by decide +kernel
theorem li0_d115 : decode prog_78_method_23_code 115 = .ok (.aload_n 0, 1) := by decide +kernel
theorem li0_d116 : decode prog_78_method_23_code 116 = .ok (.getfield 7, 3) := by decide +kernel
theorem li0_d119 : decode prog_78_method_23_code 119 = .ok (.iload 4, 2) := by decide +kernel
theorem li0_d121 : decode prog_78_method_23_code 121 = .ok (.aload_n 0, 1) := by decide +kernel
theorem li0_d122 : decode prog_78_method_23_code 122 = .ok (.getfield 7, 3) := by decide +kernel
theorem li0_d125 : decode prog_78_method_23_code 125 = .ok (.iload 4, 2) := by decide +kernel
theorem li0_d127 : decode prog_78_method_23_code 127 = .ok (.iconst 1, 1) := by decide +kernel
theorem li0_d128 : decode prog_78_method_23_code 128 = .ok (.iadd, 1) := by decide +kernel
theorem li0_d129 : decode prog_78_method_23_code 129 = .ok (.aload_n 0, 1) := by decide +kernel
theorem li0_d130 : decode prog_78_method_23_code 130 = .ok (.getfield 30, 3) := by decide +kernel
theorem li0_d133 : decode prog_78_method_23_code 133 = .ok (.iload 4, 2) := by decide +kernel
theorem li0_d135 : decode prog_78_method_23_code 135 = .ok (.isub, 1) := by decide +kernel
theorem li0_d136 : decode prog_78_method_23_code 136 = .ok (.invokestatic 81, 3) := by decide +kernel
theorem li0_d139 : decode prog_78_method_23_code 139 = .ok (.aload_n 0, 1) := by decide +kernel
theorem li0_d140 : decode prog_78_method_23_code 140 = .ok (.getfield 7, 3) := by decide +kernel
theorem li0_d143 : decode prog_78_method_23_code 143 = .ok (.iload 4, 2) := by decide +kernel
theorem li0_d145 : decode prog_78_method_23_code 145 = .ok (.iload_n 1, 1) := by decide +kernel
theorem li0_d146 : decode prog_78_method_23_code 146 = .ok (.iastore, 1) := by decide +kernel
theorem li0_d147 : decode prog_78_method_23_code 147 = .ok (.aload_n 0, 1) := by decide +kernel
theorem li0_d148 : decode prog_78_method_23_code 148 = .ok (.dup, 1) := by decide +kernel
theorem li0_d149 : decode prog_78_method_23_code 149 = .ok (.getfield 30, 3) := by decide +kernel
theorem li0_d152 : decode prog_78_method_23_code 152 = .ok (.iconst 1, 1) := by decide +kernel
theorem li0_d153 : decode prog_78_method_23_code 153 = .ok (.iadd, 1) := by decide +kernel
theorem li0_d154 : decode prog_78_method_23_code 154 = .ok (.putfield 30, 3) := by decide +kernel
theorem li0_d157 : decode prog_78_method_23_code 157 = .ok (.return_, 1) := by decide +kernel
theorem own_pn_li0 : plainFor (⟨"com/example/unseen_nodes/unseennodes/NodeSet", "list", "(I)V"⟩ : MethodName) = true := plainFor_of_name (by first | (simp [plainName, overriddenIn]; done) | decide +kernel)
theorem own_ef_li0 (m : MethodId) (o0 : Addr) (i1 : Int32) : entryFrame m #[(.ref o0), (.int i1)] 5 = (mkF m 0 #[.val (.ref o0), .val (.int i1), .unset, .unset, .unset] []) := by first | (simp [entryFrame, mkF, argsToLocals, Value.category]; done) | rfl
set_option maxRecDepth 65536 in
set_option maxHeartbeats 40000000 in
theorem li0_go {p : Program} {l : Launch} {e : Env} {s : State} {m : MethodId} {args : Array Value} {below : List Frame} {meth : Method} {c : Code} {T : State} {Z : State} {a0 : Array Value} {h : Heap} (X : Stand p l e (⟨2, 0, 0, 34⟩ : Room) s m args below meth c T [] 0 0) (B : Bdy p s m meth c Z a0 "com/example/unseen_nodes/unseennodes/NodeSet" "list" prog_78_method_23_code 5 none tables_1) (eT : T.heap = h) (o0 : Addr) (i1 : Int32) (fa : Addr) (n0 : Nat) (Zs : n0 ≤ h.size) (hE : Exa Z h o0 "com/example/unseen_nodes/unseennodes/NodeSet") (g0 : n0 ≤ o0) (ga : n0 ≤ fa) (noa : o0 ≠ fa) (hS : own_S Z h o0 fa []) :
    Go p e below s 0 0 (fun v h2 L => v = none ∧ Fr n0 L ∧ Keep h h2 [o0, fa] ∧ own_S Z h2 o0 fa (own_ins [] i1)) (T.setTop (mkF m 0 #[.val (.ref o0), .val (.int i1), .unset, .unset, .unset] [])) := by
  have N := Fr.nil n0
  have K := Keep.refl h [o0, fa]
  obtain ⟨v0, v1, v2, v3, Fl, Fc, Aw, hm⟩ := hS
  have Fc' : Fld Z h o0 "com/example/unseen_nodes/unseennodes/NodeSet" "listedCount" "I" (.int (0 : Int32)) := Fc
  refine g_aloadN X B li0_d0 (pc' := 1) rfl (v := (.ref o0)) rfl rfl ?_
  refine g_getF X B (B.w 21 rfl) Via.refl eT Fc' li0_d1 (pc' := 4) rfl (fun T1 X1 e1 => ?_)
  refine g_if_eq X1 B li0_d4 (pcT := 22) (pcF := 7) (by decide) rfl rfl (fun c4_0 => ?_) (fun c4_0 => ?_)
  · refine g_iconst X1 B li0_d22 (pc' := 23) rfl (v := (1 : Int32)) (by decide) ?_
    refine g_goto X1 B li0_d23 (pc' := 27) (by decide) rfl ?_
    refine g_istoreN X1 B li0_d27 (pc' := 28) rfl (Ls' := #[.val (.ref o0), .val (.int i1), .val (.int (1 : Int32)), .unset, .unset]) rfl ?_
    refine g_iloadN X1 B li0_d28 (pc' := 29) rfl (v := (1 : Int32)) rfl ?_
    refine g_if_eq X1 B li0_d29 (pcT := 42) (pcF := 32) (by decide) rfl rfl (fun c29_1 => ?_) (fun c29_1 => ?_)
    · exact absurd c29_1 (by decide)
    · refine g_aloadN X1 B li0_d32 (pc' := 33) rfl (v := (.ref o0)) rfl rfl ?_
      refine g_getF X1 B (B.w 21 rfl) Via.refl e1 Fc' li0_d33 (pc' := 36) rfl (fun T2 X2 e2 => ?_)
      refine g_ineg X2 B li0_d36 (pc' := 37) rfl ?_
      refine g_iconst X2 B li0_d37 (pc' := 38) rfl (v := (1 : Int32)) (by decide) ?_
      refine g_isub X2 B li0_d38 (pc' := 39) rfl ?_
      refine g_goto X2 B li0_d39 (pc' := 55) (by decide) rfl ?_
      refine g_istoreN X2 B li0_d55 (pc' := 56) rfl (Ls' := #[.val (.ref o0), .val (.int i1), .val (.int (1 : Int32)), .val (.int (((-(0 : Int32))) - (1 : Int32))), .unset]) rfl ?_
      refine g_iloadN X2 B li0_d56 (pc' := 57) rfl (v := (((-(0 : Int32))) - (1 : Int32))) rfl ?_
      refine g_if_lt X2 B li0_d57 (pcT := 61) (pcF := 60) (by decide) rfl rfl (fun c57_2 => ?_) (fun c57_2 => ?_)
      · refine g_aloadN X2 B li0_d61 (pc' := 62) rfl (v := (.ref o0)) rfl rfl ?_
        refine g_getF X2 B (B.w 21 rfl) Via.refl e2 Fc' li0_d62 (pc' := 65) rfl (fun T3 X3 e3 => ?_)
        refine g_bipush X3 B li0_d65 (pc' := 67) rfl (v := (64 : Int32)) (by decide) ?_
        refine g_icmp_ne X3 B li0_d67 (pcT := 80) (pcF := 70) (by decide) rfl rfl (fun c67_3 => ?_) (fun c67_3 => ?_)
        · exact absurd c67_3 (by decide)
        · refine g_aloadN X3 B li0_d80 (pc' := 81) rfl (v := (.ref o0)) rfl rfl ?_
          refine g_getF X3 B (B.w 21 rfl) Via.refl e3 Fc' li0_d81 (pc' := 84) rfl (fun T4 X4 e4 => ?_)
          refine g_aloadN X4 B li0_d84 (pc' := 85) rfl (v := (.ref o0)) rfl rfl ?_
          refine g_getF X4 B (B.w 10 rfl) Via.refl e4 Fl li0_d85 (pc' := 88) rfl (fun T5 X5 e5 => ?_)
          refine g_arrlen X5 B (4 : Int32) e5 Aw (by decide) li0_d88 (pc' := 89) rfl ?_
          refine g_icmp_ne X5 B li0_d89 (pcT := 109) (pcF := 92) (by decide) rfl rfl (fun c89_4 => ?_) (fun c89_4 => ?_)
          · exact absurd c89_4 (by decide)
          · refine g_iloadN X5 B li0_d109 (pc' := 110) rfl (v := (((-(0 : Int32))) - (1 : Int32))) rfl ?_
            refine g_ineg X5 B li0_d110 (pc' := 111) rfl ?_
            refine g_iconst X5 B li0_d111 (pc' := 112) rfl (v := (1 : Int32)) (by decide) ?_
            refine g_isub X5 B li0_d112 (pc' := 113) rfl ?_
            refine g_istore X5 B li0_d113 (pc' := 115) rfl (Ls' := #[.val (.ref o0), .val (.int i1), .val (.int (1 : Int32)), .val (.int (((-(0 : Int32))) - (1 : Int32))), .val (.int (((-(((-(0 : Int32))) - (1 : Int32)))) - (1 : Int32)))]) rfl ?_
            refine g_aloadN X5 B li0_d115 (pc' := 116) rfl (v := (.ref o0)) rfl rfl ?_
            refine g_getF X5 B (B.w 10 rfl) Via.refl e5 Fl li0_d116 (pc' := 119) rfl (fun T6 X6 e6 => ?_)
            refine g_iload X6 B li0_d119 (pc' := 121) rfl (v := (((-(((-(0 : Int32))) - (1 : Int32)))) - (1 : Int32))) rfl ?_
            refine g_aloadN X6 B li0_d121 (pc' := 122) rfl (v := (.ref o0)) rfl rfl ?_
            refine g_getF X6 B (B.w 10 rfl) Via.refl e6 Fl li0_d122 (pc' := 125) rfl (fun T7 X7 e7 => ?_)
            refine g_iload X7 B li0_d125 (pc' := 127) rfl (v := (((-(((-(0 : Int32))) - (1 : Int32)))) - (1 : Int32))) rfl ?_
            refine g_iconst X7 B li0_d127 (pc' := 128) rfl (v := (1 : Int32)) (by decide) ?_
            refine g_iadd X7 B li0_d128 (pc' := 129) rfl ?_
            refine g_aloadN X7 B li0_d129 (pc' := 130) rfl (v := (.ref o0)) rfl rfl ?_
            refine g_getF X7 B (B.w 21 rfl) Via.refl e7 Fc' li0_d130 (pc' := 133) rfl (fun T8 X8 e8 => ?_)
            refine g_iload X8 B li0_d133 (pc' := 135) rfl (v := (((-(((-(0 : Int32))) - (1 : Int32)))) - (1 : Int32))) rfl ?_
            refine g_isub X8 B li0_d135 (pc' := 136) rfl ?_
            refine g_copyV X8 B 0 1 0 0 (B.w 71 rfl) (B.w 74 rfl) (B.w 72 rfl) (B.w 73 rfl) e8 Aw Aw rfl (fun j hj => own_ff _ _ _ _ j) (fun j hj => own_ff _ _ _ _ j) (by decide) (by decide) (by decide) (by decide) (by decide) N ga rfl li0_d136 (pc' := 139) rfl (by decide) (Nat.le_of_eq rfl) (by decide) (fun T9 h9 L9 X9 e9 N9 Kq9 A9 => ?_)
            have E_o0_9 := hE.keep Kq9
            have F_o0_listed_9 := Fl.keep Kq9 (by simp only [List.mem_cons, List.not_mem_nil, or_false, not_or]; exact noa)
            have F_o0_listedCount_9 := Fc'.keep Kq9 (by simp only [List.mem_cons, List.not_mem_nil, or_false, not_or]; exact noa)
            have Zs_9 := Nat.le_trans Zs Kq9.1
            have K_9 := K.trans Kq9 (by intro x hx; simp only [List.mem_cons, List.not_mem_nil, or_false] at hx; subst hx; exact Or.inl (List.mem_of_getElem? (i := 1) rfl))
            refine g_aloadN X9 B li0_d139 (pc' := 140) rfl (v := (.ref o0)) rfl rfl ?_
            refine g_getF X9 B (B.w 10 rfl) Via.refl e9 F_o0_listed_9 li0_d140 (pc' := 143) rfl (fun T10 X10 e10 => ?_)
            refine g_iload X10 B li0_d143 (pc' := 145) rfl (v := (((-(((-(0 : Int32))) - (1 : Int32)))) - (1 : Int32))) rfl ?_
            refine g_iloadN X10 B li0_d145 (pc' := 146) rfl (v := i1) rfl ?_
            refine g_iastore X10 B 0 e10 A9 (by decide) (by decide) li0_d146 (pc' := 147) rfl (fun T11 h11 X11 e11 W11 => ?_)
            have N11 := Fr.snoc X11 N9 ga
            have E_o0_11 := E_o0_9.wr W11
            have F_o0_listed_11 := F_o0_listed_9.other W11 (Or.inl noa)
            have F_o0_listedCount_11 := F_o0_listedCount_9.other W11 (Or.inl noa)
            have A_fa_11 := A9.set W11
            have Zs_11 := Nat.le_trans Zs_9 (Keep.of_wr W11).1
            have K_11 := K_9.wr W11 (Or.inl (List.mem_of_getElem? (i := 1) rfl))
            refine g_aloadN X11 B li0_d147 (pc' := 148) rfl (v := (.ref o0)) rfl rfl ?_
            refine g_dup X11 B li0_d148 (pc' := 149) rfl rfl ?_
            refine g_getF X11 B (B.w 21 rfl) Via.refl e11 F_o0_listedCount_11 li0_d149 (pc' := 152) rfl (fun T12 X12 e12 => ?_)
            refine g_iconst X12 B li0_d152 (pc' := 153) rfl (v := (1 : Int32)) (by decide) ?_
            refine g_iadd X12 B li0_d153 (pc' := 154) rfl ?_
            refine g_putF X12 B (B.w 21 rfl) Via.refl e12 F_o0_listedCount_11 E_o0_11 (Or.inl (B.w 22 rfl)) (B.w 1 rfl) (ty := .int) (by decide) rfl rfl li0_d154 (pc' := 157) rfl (fun T13 h13 X13 e13 W13 => ?_)
            have N13 := Fr.snoc X13 N11 g0
            have E_o0_13 := E_o0_11.wr W13
            have F_o0_listed_13 := F_o0_listed_11.other W13 (Or.inr (slot_ne (Or.inl (B.w 11 rfl)) (Or.inl (B.w 22 rfl)) (by decide) (t := (.array .int)) (t' := .int) (by decide) (by decide)))
            have F_o0_listedCount_13 := F_o0_listedCount_11.same W13
            have A_fa_13 := A_fa_11.other W13 (Ne.symm noa)
            have Zs_13 := Nat.le_trans Zs_11 (Keep.of_wr W13).1
            have K_13 := K_11.wr W13 (Or.inl (List.mem_of_getElem? (i := 0) rfl))
            exact g_ret0 X13 B rfl li0_d157 (by decide) (by decide) (by rw [e13]; exact ⟨rfl, N13, K_13, i1, v1, v2, v3, F_o0_listed_13, (by have e : ((0 : Int32) + (1 : Int32)) = (1 : Int32) := (by decide); have z := F_o0_listedCount_13; rw [e] at z; exact z), A_fa_13.eqw (fun j hj => by have q : j = 0 ∨ j = 1 ∨ j = 2 ∨ j = 3 := (by omega); rcases q with rfl | rfl | rfl | rfl <;> first | rfl | simp [own_f]), rfl⟩)
      · exact absurd (by decide) c57_2
  · exact absurd (by decide) c4_0
theorem li0_met (l : Launch) (Z : State) (a0 : Array Value) (hw : ∀ d ∈ tables_1, d.before a0 Z = true) (ws : List Jvm.Cond) (h : Heap) (o0 : Addr) (i1 : Int32) (fa : Addr) (n0 : Nat) (Zs : n0 ≤ h.size) (hE : Exa Z h o0 "com/example/unseen_nodes/unseennodes/NodeSet") (g0 : n0 ≤ o0) (ga : n0 ≤ fa) (noa : o0 ≠ fa) (hS : own_S Z h o0 fa []) :
    Met l Z (⟨"com/example/unseen_nodes/unseennodes/NodeSet", "list", "(I)V"⟩ : MethodName) prog_78_method_23_code 5 none ws (⟨2, 0, 0, 34⟩ : Room) #[(.ref o0), (.int i1)] h (fun v h2 L => v = none ∧ Fr n0 L ∧ Keep h h2 [o0, fa] ∧ own_S Z h2 o0 fa (own_ins [] i1)) :=
  met_of own_pn_li0 hw fun p e s m below meth c T X B eT => Go.top (own_ef_li0 m o0 i1) (li0_go X B eT o0 i1 fa n0 Zs hE g0 ga noa hS)
theorem li1_d0 : decode prog_78_method_23_code 0 = .ok (.aload_n 0, 1) := by decide +kernel
theorem li1_d1 : decode prog_78_method_23_code 1 = .ok (.getfield 30, 3) := by decide +kernel
theorem li1_d4 : decode prog_78_method_23_code 4 = .ok (.ifCond .eq 18, 3) := by decide +kernel
theorem li1_d7 : decode prog_78_method_23_code 7 = .ok (.aload_n 0, 1) := by decide +kernel
theorem li1_d8 : decode prog_78_method_23_code 8 = .ok (.getfield 7, 3) := by decide +kernel
theorem li1_d11 : decode prog_78_method_23_code 11 = .ok (.aload_n 0, 1) := by decide +kernel
theorem li1_d12 : decode prog_78_method_23_code 12 = .ok (.getfield 30, 3) := by decide +kernel
theorem li1_d15 : decode prog_78_method_23_code 15 = .ok (.iconst 1, 1) := by decide +kernel
theorem li1_d16 : decode prog_78_method_23_code 16 = .ok (.isub, 1) := by decide +kernel
theorem li1_d17 : decode prog_78_method_23_code 17 = .ok (.iaload, 1) := by decide +kernel
theorem li1_d18 : decode prog_78_method_23_code 18 = .ok (.iload_n 1, 1) := by decide +kernel
theorem li1_d19 : decode prog_78_method_23_code 19 = .ok (.if_icmp .ge 7, 3) := by decide +kernel
theorem li1_d22 : decode prog_78_method_23_code 22 = .ok (.iconst 1, 1) := by decide +kernel
theorem li1_d23 : decode prog_78_method_23_code 23 = .ok (.goto 4, 3) := by decide +kernel
theorem li1_d26 : decode prog_78_method_23_code 26 = .ok (.iconst 0, 1) := by decide +kernel
theorem li1_d27 : decode prog_78_method_23_code 27 = .ok (.istore_n 2, 1) := by decide +kernel
theorem li1_d28 : decode prog_78_method_23_code 28 = .ok (.iload_n 2, 1) := by decide +kernel
theorem li1_d29 : decode prog_78_method_23_code 29 = .ok (.ifCond .eq 13, 3) := by decide +kernel
theorem li1_d32 : decode prog_78_method_23_code 32 = .ok (.aload_n 0, 1) := by decide +kernel
theorem li1_d33 : decode prog_78_method_23_code 33 = .ok (.getfield 30, 3) := by decide +kernel
theorem li1_d36 : decode prog_78_method_23_code 36 = .ok (.ineg, 1) := by decide +kernel
theorem li1_d37 : decode prog_78_method_23_code 37 = .ok (.iconst 1, 1) := by decide +kernel
theorem li1_d38 : decode prog_78_method_23_code 38 = .ok (.isub, 1) := by decide +kernel
theorem li1_d39 : decode prog_78_method_23_code 39 = .ok (.goto 16, 3) := by decide +kernel
theorem li1_d42 : decode prog_78_method_23_code 42 = .ok (.aload_n 0, 1) := by decide +kernel
theorem li1_d43 : decode prog_78_method_23_code 43 = .ok (.getfield 7, 3) := by decide +kernel
theorem li1_d46 : decode prog_78_method_23_code 46 = .ok (.iconst 0, 1) := by decide +kernel
theorem li1_d47 : decode prog_78_method_23_code 47 = .ok (.aload_n 0, 1) := by decide +kernel
theorem li1_d48 : decode prog_78_method_23_code 48 = .ok (.getfield 30, 3) := by decide +kernel
theorem li1_d51 : decode prog_78_method_23_code 51 = .ok (.iload_n 1, 1) := by decide +kernel
theorem li1_d52 : decode prog_78_method_23_code 52 = .ok (.invokestatic 51, 3) := by decide +kernel
theorem li1_d55 : decode prog_78_method_23_code 55 = .ok (.istore_n 3, 1) := by decide +kernel
theorem li1_d56 : decode prog_78_method_23_code 56 = .ok (.iload_n 3, 1) := by decide +kernel
theorem li1_d57 : decode prog_78_method_23_code 57 = .ok (.ifCond .lt 4, 3) := by decide +kernel
theorem li1_d60 : decode prog_78_method_23_code 60 = .ok (.return_, 1) := by decide +kernel
theorem li1_d61 : decode prog_78_method_23_code 61 = .ok (.aload_n 0, 1) := by decide +kernel
theorem li1_d62 : decode prog_78_method_23_code 62 = .ok (.getfield 30, 3) := by decide +kernel
theorem li1_d65 : decode prog_78_method_23_code 65 = .ok (.bipush 64, 2) := by decide +kernel
theorem li1_d67 : decode prog_78_method_23_code 67 = .ok (.if_icmp .ne 13, 3) := by decide +kernel
theorem li1_d80 : decode prog_78_method_23_code 80 = .ok (.aload_n 0, 1) := by decide +kernel
theorem li1_d81 : decode prog_78_method_23_code 81 = .ok (.getfield 30, 3) := by decide +kernel
theorem li1_d84 : decode prog_78_method_23_code 84 = .ok (.aload_n 0, 1) := by decide +kernel
theorem li1_d85 : decode prog_78_method_23_code 85 = .ok (.getfield 7, 3) := by decide +kernel
theorem li1_d88 : decode prog_78_method_23_code 88 = .ok (.arraylength, 1) := by decide +kernel
theorem li1_d89 : decode prog_78_method_23_code 89 = .ok (.if_icmp .ne 20, 3) := by decide +kernel
theorem li1_d109 : decode prog_78_method_23_code 109 = .ok (.iload_n 3, 1) := by decide +kernel
theorem li1_d110 : decode prog_78_method_23_code 110 = .ok (.ineg, 1) := by decide +kernel
theorem li1_d111 : decode prog_78_method_23_code 111 = .ok (.iconst 1, 1) := by decide +kernel
theorem li1_d112 : decode prog_78_method_23_code 112 = .ok (.isub, 1) := by decide +kernel
theorem li1_d113 : decode prog_78_method_23_code 113 = .ok (.istore 4, 2) := by decide +kernel
theorem li1_d115 : decode prog_78_method_23_code 115 = .ok (.aload_n 0, 1) := by decide +kernel
theorem li1_d116 : decode prog_78_method_23_code 116 = .ok (.getfield 7, 3) := by decide +kernel
theorem li1_d119 : decode prog_78_method_23_code 119 = .ok (.iload 4, 2) := by decide +kernel
theorem li1_d121 : decode prog_78_method_23_code 121 = .ok (.aload_n 0, 1) := by decide +kernel
theorem li1_d122 : decode prog_78_method_23_code 122 = .ok (.getfield 7, 3) := by decide +kernel
theorem li1_d125 : decode prog_78_method_23_code 125 = .ok (.iload 4, 2) := by decide +kernel
theorem li1_d127 : decode prog_78_method_23_code 127 = .ok (.iconst 1, 1) := by decide +kernel
theorem li1_d128 : decode prog_78_method_23_code 128 = .ok (.iadd, 1) := by decide +kernel
theorem li1_d129 : decode prog_78_method_23_code 129 = .ok (.aload_n 0, 1) := by decide +kernel
theorem li1_d130 : decode prog_78_method_23_code 130 = .ok (.getfield 30, 3) := by decide +kernel
theorem li1_d133 : decode prog_78_method_23_code 133 = .ok (.iload 4, 2) := by decide +kernel
theorem li1_d135 : decode prog_78_method_23_code 135 = .ok (.isub, 1) := by decide +kernel
theorem li1_d136 : decode prog_78_method_23_code 136 = .ok (.invokestatic 81, 3) := by decide +kernel
theorem li1_d139 : decode prog_78_method_23_code 139 = .ok (.aload_n 0, 1) := by decide +kernel
theorem li1_d140 : decode prog_78_method_23_code 140 = .ok (.getfield 7, 3) := by decide +kernel
theorem li1_d143 : decode prog_78_method_23_code 143 = .ok (.iload 4, 2) := by decide +kernel
theorem li1_d145 : decode prog_78_method_23_code 145 = .ok (.iload_n 1, 1) := by decide +kernel
theorem li1_d146 : decode prog_78_method_23_code 146 = .ok (.iastore, 1) := by decide +kernel
theorem li1_d147 : decode prog_78_method_23_code 147 = .ok (.aload_n 0, 1) := by decide +kernel
theorem li1_d148 : decode prog_78_method_23_code 148 = .ok (.dup, 1) := by decide +kernel
theorem li1_d149 : decode prog_78_method_23_code 149 = .ok (.getfield 30, 3) := by decide +kernel
theorem li1_d152 : decode prog_78_method_23_code 152 = .ok (.iconst 1, 1) := by decide +kernel
theorem li1_d153 : decode prog_78_method_23_code 153 = .ok (.iadd, 1) := by decide +kernel
theorem li1_d154 : decode prog_78_method_23_code 154 = .ok (.putfield 30, 3) := by decide +kernel
theorem li1_d157 : decode prog_78_method_23_code 157 = .ok (.return_, 1) := by decide +kernel
theorem own_pn_li1 : plainFor (⟨"com/example/unseen_nodes/unseennodes/NodeSet", "list", "(I)V"⟩ : MethodName) = true := plainFor_of_name (by first | (simp [plainName, overriddenIn]; done) | decide +kernel)
theorem own_ef_li1 (m : MethodId) (o0 : Addr) (i1 : Int32) : entryFrame m #[(.ref o0), (.int i1)] 5 = (mkF m 0 #[.val (.ref o0), .val (.int i1), .unset, .unset, .unset] []) := by first | (simp [entryFrame, mkF, argsToLocals, Value.category]; done) | rfl
set_option maxRecDepth 65536 in
set_option maxHeartbeats 40000000 in
theorem li1_go {p : Program} {l : Launch} {e : Env} {s : State} {m : MethodId} {args : Array Value} {below : List Frame} {meth : Method} {c : Code} {T : State} {Z : State} {a0 : Array Value} {h : Heap} (X : Stand p l e (⟨2, 0, 0, 34⟩ : Room) s m args below meth c T [] 0 0) (B : Bdy p s m meth c Z a0 "com/example/unseen_nodes/unseennodes/NodeSet" "list" prog_78_method_23_code 5 none tables_1) (eT : T.heap = h) (o0 : Addr) (i1 : Int32) (fa : Addr) (x : Int32) (n0 : Nat) (Zs : n0 ≤ h.size) (hE : Exa Z h o0 "com/example/unseen_nodes/unseennodes/NodeSet") (g0 : n0 ≤ o0) (ga : n0 ≤ fa) (noa : o0 ≠ fa) (hS : own_S Z h o0 fa [x]) :
    Go p e below s 0 0 (fun v h2 L => v = none ∧ Fr n0 L ∧ Keep h h2 [o0, fa] ∧ own_S Z h2 o0 fa (own_ins [x] i1)) (T.setTop (mkF m 0 #[.val (.ref o0), .val (.int i1), .unset, .unset, .unset] [])) := by
  have N := Fr.nil n0
  have K := Keep.refl h [o0, fa]
  obtain ⟨v0, v1, v2, v3, Fl, Fc, Aw, hm⟩ := hS
  have hm' : v0 = x := hm
  subst hm'
  have Fc' : Fld Z h o0 "com/example/unseen_nodes/unseennodes/NodeSet" "listedCount" "I" (.int (1 : Int32)) := Fc
  refine g_aloadN X B li1_d0 (pc' := 1) rfl (v := (.ref o0)) rfl rfl ?_
  refine g_getF X B (B.w 21 rfl) Via.refl eT Fc' li1_d1 (pc' := 4) rfl (fun T1 X1 e1 => ?_)
  refine g_if_eq X1 B li1_d4 (pcT := 22) (pcF := 7) (by decide) rfl rfl (fun c4_0 => ?_) (fun c4_0 => ?_)
  · exact absurd c4_0 (by decide)
  · refine g_aloadN X1 B li1_d7 (pc' := 8) rfl (v := (.ref o0)) rfl rfl ?_
    refine g_getF X1 B (B.w 10 rfl) Via.refl e1 Fl li1_d8 (pc' := 11) rfl (fun T2 X2 e2 => ?_)
    refine g_aloadN X2 B li1_d11 (pc' := 12) rfl (v := (.ref o0)) rfl rfl ?_
    refine g_getF X2 B (B.w 21 rfl) Via.refl e2 Fc' li1_d12 (pc' := 15) rfl (fun T3 X3 e3 => ?_)
    refine g_iconst X3 B li1_d15 (pc' := 16) rfl (v := (1 : Int32)) (by decide) ?_
    refine g_isub X3 B li1_d16 (pc' := 17) rfl ?_
    refine g_iaload X3 B 0 e3 Aw (by decide) (by decide) (v := (.int v0)) rfl li1_d17 (pc' := 18) rfl ?_
    refine g_iloadN X3 B li1_d18 (pc' := 19) rfl (v := i1) rfl ?_
    refine g_icmp_ge X3 B li1_d19 (pcT := 26) (pcF := 22) (by decide) rfl rfl (fun c19_1 => ?_) (fun c19_1 => ?_)
    · refine g_iconst X3 B li1_d22 (pc' := 23) rfl (v := (1 : Int32)) (by decide) ?_
      refine g_goto X3 B li1_d23 (pc' := 27) (by decide) rfl ?_
      refine g_istoreN X3 B li1_d27 (pc' := 28) rfl (Ls' := #[.val (.ref o0), .val (.int i1), .val (.int (1 : Int32)), .unset, .unset]) rfl ?_
      refine g_iloadN X3 B li1_d28 (pc' := 29) rfl (v := (1 : Int32)) rfl ?_
      refine g_if_eq X3 B li1_d29 (pcT := 42) (pcF := 32) (by decide) rfl rfl (fun c29_2 => ?_) (fun c29_2 => ?_)
      · exact absurd c29_2 (by decide)
      · refine g_aloadN X3 B li1_d32 (pc' := 33) rfl (v := (.ref o0)) rfl rfl ?_
        refine g_getF X3 B (B.w 21 rfl) Via.refl e3 Fc' li1_d33 (pc' := 36) rfl (fun T4 X4 e4 => ?_)
        refine g_ineg X4 B li1_d36 (pc' := 37) rfl ?_
        refine g_iconst X4 B li1_d37 (pc' := 38) rfl (v := (1 : Int32)) (by decide) ?_
        refine g_isub X4 B li1_d38 (pc' := 39) rfl ?_
        refine g_goto X4 B li1_d39 (pc' := 55) (by decide) rfl ?_
        refine g_istoreN X4 B li1_d55 (pc' := 56) rfl (Ls' := #[.val (.ref o0), .val (.int i1), .val (.int (1 : Int32)), .val (.int (((-(1 : Int32))) - (1 : Int32))), .unset]) rfl ?_
        refine g_iloadN X4 B li1_d56 (pc' := 57) rfl (v := (((-(1 : Int32))) - (1 : Int32))) rfl ?_
        refine g_if_lt X4 B li1_d57 (pcT := 61) (pcF := 60) (by decide) rfl rfl (fun c57_3 => ?_) (fun c57_3 => ?_)
        · refine g_aloadN X4 B li1_d61 (pc' := 62) rfl (v := (.ref o0)) rfl rfl ?_
          refine g_getF X4 B (B.w 21 rfl) Via.refl e4 Fc' li1_d62 (pc' := 65) rfl (fun T5 X5 e5 => ?_)
          refine g_bipush X5 B li1_d65 (pc' := 67) rfl (v := (64 : Int32)) (by decide) ?_
          refine g_icmp_ne X5 B li1_d67 (pcT := 80) (pcF := 70) (by decide) rfl rfl (fun c67_4 => ?_) (fun c67_4 => ?_)
          · exact absurd c67_4 (by decide)
          · refine g_aloadN X5 B li1_d80 (pc' := 81) rfl (v := (.ref o0)) rfl rfl ?_
            refine g_getF X5 B (B.w 21 rfl) Via.refl e5 Fc' li1_d81 (pc' := 84) rfl (fun T6 X6 e6 => ?_)
            refine g_aloadN X6 B li1_d84 (pc' := 85) rfl (v := (.ref o0)) rfl rfl ?_
            refine g_getF X6 B (B.w 10 rfl) Via.refl e6 Fl li1_d85 (pc' := 88) rfl (fun T7 X7 e7 => ?_)
            refine g_arrlen X7 B (4 : Int32) e7 Aw (by decide) li1_d88 (pc' := 89) rfl ?_
            refine g_icmp_ne X7 B li1_d89 (pcT := 109) (pcF := 92) (by decide) rfl rfl (fun c89_5 => ?_) (fun c89_5 => ?_)
            · exact absurd c89_5 (by decide)
            · refine g_iloadN X7 B li1_d109 (pc' := 110) rfl (v := (((-(1 : Int32))) - (1 : Int32))) rfl ?_
              refine g_ineg X7 B li1_d110 (pc' := 111) rfl ?_
              refine g_iconst X7 B li1_d111 (pc' := 112) rfl (v := (1 : Int32)) (by decide) ?_
              refine g_isub X7 B li1_d112 (pc' := 113) rfl ?_
              refine g_istore X7 B li1_d113 (pc' := 115) rfl (Ls' := #[.val (.ref o0), .val (.int i1), .val (.int (1 : Int32)), .val (.int (((-(1 : Int32))) - (1 : Int32))), .val (.int (((-(((-(1 : Int32))) - (1 : Int32)))) - (1 : Int32)))]) rfl ?_
              refine g_aloadN X7 B li1_d115 (pc' := 116) rfl (v := (.ref o0)) rfl rfl ?_
              refine g_getF X7 B (B.w 10 rfl) Via.refl e7 Fl li1_d116 (pc' := 119) rfl (fun T8 X8 e8 => ?_)
              refine g_iload X8 B li1_d119 (pc' := 121) rfl (v := (((-(((-(1 : Int32))) - (1 : Int32)))) - (1 : Int32))) rfl ?_
              refine g_aloadN X8 B li1_d121 (pc' := 122) rfl (v := (.ref o0)) rfl rfl ?_
              refine g_getF X8 B (B.w 10 rfl) Via.refl e8 Fl li1_d122 (pc' := 125) rfl (fun T9 X9 e9 => ?_)
              refine g_iload X9 B li1_d125 (pc' := 127) rfl (v := (((-(((-(1 : Int32))) - (1 : Int32)))) - (1 : Int32))) rfl ?_
              refine g_iconst X9 B li1_d127 (pc' := 128) rfl (v := (1 : Int32)) (by decide) ?_
              refine g_iadd X9 B li1_d128 (pc' := 129) rfl ?_
              refine g_aloadN X9 B li1_d129 (pc' := 130) rfl (v := (.ref o0)) rfl rfl ?_
              refine g_getF X9 B (B.w 21 rfl) Via.refl e9 Fc' li1_d130 (pc' := 133) rfl (fun T10 X10 e10 => ?_)
              refine g_iload X10 B li1_d133 (pc' := 135) rfl (v := (((-(((-(1 : Int32))) - (1 : Int32)))) - (1 : Int32))) rfl ?_
              refine g_isub X10 B li1_d135 (pc' := 136) rfl ?_
              refine g_copyV X10 B 1 2 0 0 (B.w 71 rfl) (B.w 74 rfl) (B.w 72 rfl) (B.w 73 rfl) e10 Aw Aw rfl (fun j hj => own_ff _ _ _ _ j) (fun j hj => own_ff _ _ _ _ j) (by decide) (by decide) (by decide) (by decide) (by decide) N ga rfl li1_d136 (pc' := 139) rfl (by decide) (Nat.le_of_eq rfl) (by decide) (fun T11 h11 L11 X11 e11 N11 Kq11 A11 => ?_)
              have E_o0_11 := hE.keep Kq11
              have F_o0_listed_11 := Fl.keep Kq11 (by simp only [List.mem_cons, List.not_mem_nil, or_false, not_or]; exact noa)
              have F_o0_listedCount_11 := Fc'.keep Kq11 (by simp only [List.mem_cons, List.not_mem_nil, or_false, not_or]; exact noa)
              have Zs_11 := Nat.le_trans Zs Kq11.1
              have K_11 := K.trans Kq11 (by intro x hx; simp only [List.mem_cons, List.not_mem_nil, or_false] at hx; subst hx; exact Or.inl (List.mem_of_getElem? (i := 1) rfl))
              refine g_aloadN X11 B li1_d139 (pc' := 140) rfl (v := (.ref o0)) rfl rfl ?_
              refine g_getF X11 B (B.w 10 rfl) Via.refl e11 F_o0_listed_11 li1_d140 (pc' := 143) rfl (fun T12 X12 e12 => ?_)
              refine g_iload X12 B li1_d143 (pc' := 145) rfl (v := (((-(((-(1 : Int32))) - (1 : Int32)))) - (1 : Int32))) rfl ?_
              refine g_iloadN X12 B li1_d145 (pc' := 146) rfl (v := i1) rfl ?_
              refine g_iastore X12 B 1 e12 A11 (by decide) (by decide) li1_d146 (pc' := 147) rfl (fun T13 h13 X13 e13 W13 => ?_)
              have N13 := Fr.snoc X13 N11 ga
              have E_o0_13 := E_o0_11.wr W13
              have F_o0_listed_13 := F_o0_listed_11.other W13 (Or.inl noa)
              have F_o0_listedCount_13 := F_o0_listedCount_11.other W13 (Or.inl noa)
              have A_fa_13 := A11.set W13
              have Zs_13 := Nat.le_trans Zs_11 (Keep.of_wr W13).1
              have K_13 := K_11.wr W13 (Or.inl (List.mem_of_getElem? (i := 1) rfl))
              refine g_aloadN X13 B li1_d147 (pc' := 148) rfl (v := (.ref o0)) rfl rfl ?_
              refine g_dup X13 B li1_d148 (pc' := 149) rfl rfl ?_
              refine g_getF X13 B (B.w 21 rfl) Via.refl e13 F_o0_listedCount_13 li1_d149 (pc' := 152) rfl (fun T14 X14 e14 => ?_)
              refine g_iconst X14 B li1_d152 (pc' := 153) rfl (v := (1 : Int32)) (by decide) ?_
              refine g_iadd X14 B li1_d153 (pc' := 154) rfl ?_
              refine g_putF X14 B (B.w 21 rfl) Via.refl e14 F_o0_listedCount_13 E_o0_13 (Or.inl (B.w 22 rfl)) (B.w 1 rfl) (ty := .int) (by decide) rfl rfl li1_d154 (pc' := 157) rfl (fun T15 h15 X15 e15 W15 => ?_)
              have N15 := Fr.snoc X15 N13 g0
              have E_o0_15 := E_o0_13.wr W15
              have F_o0_listed_15 := F_o0_listed_13.other W15 (Or.inr (slot_ne (Or.inl (B.w 11 rfl)) (Or.inl (B.w 22 rfl)) (by decide) (t := (.array .int)) (t' := .int) (by decide) (by decide)))
              have F_o0_listedCount_15 := F_o0_listedCount_13.same W15
              have A_fa_15 := A_fa_13.other W15 (Ne.symm noa)
              have Zs_15 := Nat.le_trans Zs_13 (Keep.of_wr W15).1
              have K_15 := K_13.wr W15 (Or.inl (List.mem_of_getElem? (i := 0) rfl))
              rw [show own_ins [v0] i1 = (if v0 < i1 then [v0, i1] else if i1 < v0 then [i1, v0] else [v0]) from rfl, if_pos c19_1]
              exact g_ret0 X15 B rfl li1_d157 (by decide) (by decide) (by rw [e15]; exact ⟨rfl, N15, K_15, v0, i1, v2, v3, F_o0_listed_15, (by have e : ((1 : Int32) + (1 : Int32)) = (2 : Int32) := (by decide); have z := F_o0_listedCount_15; rw [e] at z; exact z), A_fa_15.eqw (fun j hj => by have q : j = 0 ∨ j = 1 ∨ j = 2 ∨ j = 3 := (by omega); rcases q with rfl | rfl | rfl | rfl <;> first | rfl | simp [own_f]), ⟨rfl, rfl, c19_1⟩⟩)
        · exact absurd (by decide) c57_3
    · refine g_iconst X3 B li1_d26 (pc' := 27) rfl (v := (0 : Int32)) (by decide) ?_
      refine g_istoreN X3 B li1_d27 (pc' := 28) rfl (Ls' := #[.val (.ref o0), .val (.int i1), .val (.int (0 : Int32)), .unset, .unset]) rfl ?_
      refine g_iloadN X3 B li1_d28 (pc' := 29) rfl (v := (0 : Int32)) rfl ?_
      refine g_if_eq X3 B li1_d29 (pcT := 42) (pcF := 32) (by decide) rfl rfl (fun c29_2 => ?_) (fun c29_2 => ?_)
      · refine g_aloadN X3 B li1_d42 (pc' := 43) rfl (v := (.ref o0)) rfl rfl ?_
        refine g_getF X3 B (B.w 10 rfl) Via.refl e3 Fl li1_d43 (pc' := 46) rfl (fun T16 X16 e16 => ?_)
        refine g_iconst X16 B li1_d46 (pc' := 47) rfl (v := (0 : Int32)) (by decide) ?_
        refine g_aloadN X16 B li1_d47 (pc' := 48) rfl (v := (.ref o0)) rfl rfl ?_
        refine g_getF X16 B (B.w 21 rfl) Via.refl e16 Fc' li1_d48 (pc' := 51) rfl (fun T17 X17 e17 => ?_)
        refine g_iloadN X17 B li1_d51 (pc' := 52) rfl (v := i1) rfl ?_
        refine g_callS X17 B e17 0 (y := (⟨"java/util/Arrays", "binarySearch", "([IIII)I"⟩ : MethodName)) (argsL := [(.ref fa), (.int (0 : Int32)), (.int (1 : Int32)), (.int i1)]) (rest := []) (B.w 23 rfl) (B.w 24 rfl) (B.w 25 rfl) (B.w 26 rfl) (by decide) (bs1_met l Z a0 B.2.2.1 [] h fa (0 : Int32) (1 : Int32) i1 v0 v1 v2 v3 rfl rfl Aw) (by decide) (by decide) (by decide) (by decide) rfl (lenOf own_pd1 rfl) rfl (Nat.le_of_eq rfl) li1_d52 (pc' := 55) rfl (fun T18 v18 L18 X18 Q18 => ?_)
        obtain ⟨rfl, hh18, rfl⟩ := Q18
        rw [List.append_nil] at X18
        show Go p e below s _ _ _ (T18.setTop (mkF m 55 #[.val (.ref o0), .val (.int i1), .val (.int (0 : Int32)), .unset, .unset] [(.int (own_bs [v0] i1))]))
        refine g_istoreN X18 B li1_d55 (pc' := 56) rfl (Ls' := #[.val (.ref o0), .val (.int i1), .val (.int (0 : Int32)), .val (.int (own_bs [v0] i1)), .unset]) rfl ?_
        rcases own_bs1 v0 i1 with ⟨hb, q⟩ | ⟨hb, q⟩ | ⟨hb, q⟩
        · rw [hb]
          refine g_iloadN X18 B li1_d56 (pc' := 57) rfl (v := (-2 : Int32)) rfl ?_
          refine g_if_lt X18 B li1_d57 (pcT := 61) (pcF := 60) (by decide) rfl rfl (fun c57_3 => ?_) (fun c57_3 => ?_)
          · refine g_aloadN X18 B li1_d61 (pc' := 62) rfl (v := (.ref o0)) rfl rfl ?_
            refine g_getF X18 B (B.w 21 rfl) Via.refl hh18 Fc' li1_d62 (pc' := 65) rfl (fun T19 X19 e19 => ?_)
            refine g_bipush X19 B li1_d65 (pc' := 67) rfl (v := (64 : Int32)) (by decide) ?_
            refine g_icmp_ne X19 B li1_d67 (pcT := 80) (pcF := 70) (by decide) rfl rfl (fun c67_4 => ?_) (fun c67_4 => ?_)
            · exact absurd c67_4 (by decide)
            · refine g_aloadN X19 B li1_d80 (pc' := 81) rfl (v := (.ref o0)) rfl rfl ?_
              refine g_getF X19 B (B.w 21 rfl) Via.refl e19 Fc' li1_d81 (pc' := 84) rfl (fun T20 X20 e20 => ?_)
              refine g_aloadN X20 B li1_d84 (pc' := 85) rfl (v := (.ref o0)) rfl rfl ?_
              refine g_getF X20 B (B.w 10 rfl) Via.refl e20 Fl li1_d85 (pc' := 88) rfl (fun T21 X21 e21 => ?_)
              refine g_arrlen X21 B (4 : Int32) e21 Aw (by decide) li1_d88 (pc' := 89) rfl ?_
              refine g_icmp_ne X21 B li1_d89 (pcT := 109) (pcF := 92) (by decide) rfl rfl (fun c89_5 => ?_) (fun c89_5 => ?_)
              · exact absurd c89_5 (by decide)
              · refine g_iloadN X21 B li1_d109 (pc' := 110) rfl (v := (-2 : Int32)) rfl ?_
                refine g_ineg X21 B li1_d110 (pc' := 111) rfl ?_
                refine g_iconst X21 B li1_d111 (pc' := 112) rfl (v := (1 : Int32)) (by decide) ?_
                refine g_isub X21 B li1_d112 (pc' := 113) rfl ?_
                refine g_istore X21 B li1_d113 (pc' := 115) rfl (Ls' := #[.val (.ref o0), .val (.int i1), .val (.int (0 : Int32)), .val (.int (-2 : Int32)), .val (.int (((-(-2 : Int32))) - (1 : Int32)))]) rfl ?_
                refine g_aloadN X21 B li1_d115 (pc' := 116) rfl (v := (.ref o0)) rfl rfl ?_
                refine g_getF X21 B (B.w 10 rfl) Via.refl e21 Fl li1_d116 (pc' := 119) rfl (fun T22 X22 e22 => ?_)
                refine g_iload X22 B li1_d119 (pc' := 121) rfl (v := (((-(-2 : Int32))) - (1 : Int32))) rfl ?_
                refine g_aloadN X22 B li1_d121 (pc' := 122) rfl (v := (.ref o0)) rfl rfl ?_
                refine g_getF X22 B (B.w 10 rfl) Via.refl e22 Fl li1_d122 (pc' := 125) rfl (fun T23 X23 e23 => ?_)
                refine g_iload X23 B li1_d125 (pc' := 127) rfl (v := (((-(-2 : Int32))) - (1 : Int32))) rfl ?_
                refine g_iconst X23 B li1_d127 (pc' := 128) rfl (v := (1 : Int32)) (by decide) ?_
                refine g_iadd X23 B li1_d128 (pc' := 129) rfl ?_
                refine g_aloadN X23 B li1_d129 (pc' := 130) rfl (v := (.ref o0)) rfl rfl ?_
                refine g_getF X23 B (B.w 21 rfl) Via.refl e23 Fc' li1_d130 (pc' := 133) rfl (fun T24 X24 e24 => ?_)
                refine g_iload X24 B li1_d133 (pc' := 135) rfl (v := (((-(-2 : Int32))) - (1 : Int32))) rfl ?_
                refine g_isub X24 B li1_d135 (pc' := 136) rfl ?_
                refine g_copyV X24 B 1 2 0 0 (B.w 71 rfl) (B.w 74 rfl) (B.w 72 rfl) (B.w 73 rfl) e24 Aw Aw rfl (fun j hj => own_ff _ _ _ _ j) (fun j hj => own_ff _ _ _ _ j) (by decide) (by decide) (by decide) (by decide) (by decide) N ga rfl li1_d136 (pc' := 139) rfl (by decide) (Nat.le_of_eq rfl) (by decide) (fun T25 h25 L25 X25 e25 N25 Kq25 A25 => ?_)
                have E_o0_25 := hE.keep Kq25
                have F_o0_listed_25 := Fl.keep Kq25 (by simp only [List.mem_cons, List.not_mem_nil, or_false, not_or]; exact noa)
                have F_o0_listedCount_25 := Fc'.keep Kq25 (by simp only [List.mem_cons, List.not_mem_nil, or_false, not_or]; exact noa)
                have Zs_25 := Nat.le_trans Zs Kq25.1
                have K_25 := K.trans Kq25 (by intro x hx; simp only [List.mem_cons, List.not_mem_nil, or_false] at hx; subst hx; exact Or.inl (List.mem_of_getElem? (i := 1) rfl))
                refine g_aloadN X25 B li1_d139 (pc' := 140) rfl (v := (.ref o0)) rfl rfl ?_
                refine g_getF X25 B (B.w 10 rfl) Via.refl e25 F_o0_listed_25 li1_d140 (pc' := 143) rfl (fun T26 X26 e26 => ?_)
                refine g_iload X26 B li1_d143 (pc' := 145) rfl (v := (((-(-2 : Int32))) - (1 : Int32))) rfl ?_
                refine g_iloadN X26 B li1_d145 (pc' := 146) rfl (v := i1) rfl ?_
                refine g_iastore X26 B 1 e26 A25 (by decide) (by decide) li1_d146 (pc' := 147) rfl (fun T27 h27 X27 e27 W27 => ?_)
                have N27 := Fr.snoc X27 N25 ga
                have E_o0_27 := E_o0_25.wr W27
                have F_o0_listed_27 := F_o0_listed_25.other W27 (Or.inl noa)
                have F_o0_listedCount_27 := F_o0_listedCount_25.other W27 (Or.inl noa)
                have A_fa_27 := A25.set W27
                have Zs_27 := Nat.le_trans Zs_25 (Keep.of_wr W27).1
                have K_27 := K_25.wr W27 (Or.inl (List.mem_of_getElem? (i := 1) rfl))
                refine g_aloadN X27 B li1_d147 (pc' := 148) rfl (v := (.ref o0)) rfl rfl ?_
                refine g_dup X27 B li1_d148 (pc' := 149) rfl rfl ?_
                refine g_getF X27 B (B.w 21 rfl) Via.refl e27 F_o0_listedCount_27 li1_d149 (pc' := 152) rfl (fun T28 X28 e28 => ?_)
                refine g_iconst X28 B li1_d152 (pc' := 153) rfl (v := (1 : Int32)) (by decide) ?_
                refine g_iadd X28 B li1_d153 (pc' := 154) rfl ?_
                refine g_putF X28 B (B.w 21 rfl) Via.refl e28 F_o0_listedCount_27 E_o0_27 (Or.inl (B.w 22 rfl)) (B.w 1 rfl) (ty := .int) (by decide) rfl rfl li1_d154 (pc' := 157) rfl (fun T29 h29 X29 e29 W29 => ?_)
                have N29 := Fr.snoc X29 N27 g0
                have E_o0_29 := E_o0_27.wr W29
                have F_o0_listed_29 := F_o0_listed_27.other W29 (Or.inr (slot_ne (Or.inl (B.w 11 rfl)) (Or.inl (B.w 22 rfl)) (by decide) (t := (.array .int)) (t' := .int) (by decide) (by decide)))
                have F_o0_listedCount_29 := F_o0_listedCount_27.same W29
                have A_fa_29 := A_fa_27.other W29 (Ne.symm noa)
                have Zs_29 := Nat.le_trans Zs_27 (Keep.of_wr W29).1
                have K_29 := K_27.wr W29 (Or.inl (List.mem_of_getElem? (i := 0) rfl))
                exact absurd q c19_1
          · exact absurd (by decide) c57_3
        · rw [hb]
          refine g_iloadN X18 B li1_d56 (pc' := 57) rfl (v := (-1 : Int32)) rfl ?_
          refine g_if_lt X18 B li1_d57 (pcT := 61) (pcF := 60) (by decide) rfl rfl (fun c57_3 => ?_) (fun c57_3 => ?_)
          · refine g_aloadN X18 B li1_d61 (pc' := 62) rfl (v := (.ref o0)) rfl rfl ?_
            refine g_getF X18 B (B.w 21 rfl) Via.refl hh18 Fc' li1_d62 (pc' := 65) rfl (fun T30 X30 e30 => ?_)
            refine g_bipush X30 B li1_d65 (pc' := 67) rfl (v := (64 : Int32)) (by decide) ?_
            refine g_icmp_ne X30 B li1_d67 (pcT := 80) (pcF := 70) (by decide) rfl rfl (fun c67_4 => ?_) (fun c67_4 => ?_)
            · exact absurd c67_4 (by decide)
            · refine g_aloadN X30 B li1_d80 (pc' := 81) rfl (v := (.ref o0)) rfl rfl ?_
              refine g_getF X30 B (B.w 21 rfl) Via.refl e30 Fc' li1_d81 (pc' := 84) rfl (fun T31 X31 e31 => ?_)
              refine g_aloadN X31 B li1_d84 (pc' := 85) rfl (v := (.ref o0)) rfl rfl ?_
              refine g_getF X31 B (B.w 10 rfl) Via.refl e31 Fl li1_d85 (pc' := 88) rfl (fun T32 X32 e32 => ?_)
              refine g_arrlen X32 B (4 : Int32) e32 Aw (by decide) li1_d88 (pc' := 89) rfl ?_
              refine g_icmp_ne X32 B li1_d89 (pcT := 109) (pcF := 92) (by decide) rfl rfl (fun c89_5 => ?_) (fun c89_5 => ?_)
              · exact absurd c89_5 (by decide)
              · refine g_iloadN X32 B li1_d109 (pc' := 110) rfl (v := (-1 : Int32)) rfl ?_
                refine g_ineg X32 B li1_d110 (pc' := 111) rfl ?_
                refine g_iconst X32 B li1_d111 (pc' := 112) rfl (v := (1 : Int32)) (by decide) ?_
                refine g_isub X32 B li1_d112 (pc' := 113) rfl ?_
                refine g_istore X32 B li1_d113 (pc' := 115) rfl (Ls' := #[.val (.ref o0), .val (.int i1), .val (.int (0 : Int32)), .val (.int (-1 : Int32)), .val (.int (((-(-1 : Int32))) - (1 : Int32)))]) rfl ?_
                refine g_aloadN X32 B li1_d115 (pc' := 116) rfl (v := (.ref o0)) rfl rfl ?_
                refine g_getF X32 B (B.w 10 rfl) Via.refl e32 Fl li1_d116 (pc' := 119) rfl (fun T33 X33 e33 => ?_)
                refine g_iload X33 B li1_d119 (pc' := 121) rfl (v := (((-(-1 : Int32))) - (1 : Int32))) rfl ?_
                refine g_aloadN X33 B li1_d121 (pc' := 122) rfl (v := (.ref o0)) rfl rfl ?_
                refine g_getF X33 B (B.w 10 rfl) Via.refl e33 Fl li1_d122 (pc' := 125) rfl (fun T34 X34 e34 => ?_)
                refine g_iload X34 B li1_d125 (pc' := 127) rfl (v := (((-(-1 : Int32))) - (1 : Int32))) rfl ?_
                refine g_iconst X34 B li1_d127 (pc' := 128) rfl (v := (1 : Int32)) (by decide) ?_
                refine g_iadd X34 B li1_d128 (pc' := 129) rfl ?_
                refine g_aloadN X34 B li1_d129 (pc' := 130) rfl (v := (.ref o0)) rfl rfl ?_
                refine g_getF X34 B (B.w 21 rfl) Via.refl e34 Fc' li1_d130 (pc' := 133) rfl (fun T35 X35 e35 => ?_)
                refine g_iload X35 B li1_d133 (pc' := 135) rfl (v := (((-(-1 : Int32))) - (1 : Int32))) rfl ?_
                refine g_isub X35 B li1_d135 (pc' := 136) rfl ?_
                refine g_copyV X35 B 0 1 1 0 (B.w 71 rfl) (B.w 74 rfl) (B.w 72 rfl) (B.w 73 rfl) e35 Aw Aw rfl (fun j hj => own_ff _ _ _ _ j) (fun j hj => own_ff _ _ _ _ j) (by decide) (by decide) (by decide) (by decide) (by decide) N ga rfl li1_d136 (pc' := 139) rfl (by decide) (Nat.le_of_eq rfl) (by decide) (fun T36 h36 L36 X36 e36 N36 Kq36 A36 => ?_)
                have E_o0_36 := hE.keep Kq36
                have F_o0_listed_36 := Fl.keep Kq36 (by simp only [List.mem_cons, List.not_mem_nil, or_false, not_or]; exact noa)
                have F_o0_listedCount_36 := Fc'.keep Kq36 (by simp only [List.mem_cons, List.not_mem_nil, or_false, not_or]; exact noa)
                have Zs_36 := Nat.le_trans Zs Kq36.1
                have K_36 := K.trans Kq36 (by intro x hx; simp only [List.mem_cons, List.not_mem_nil, or_false] at hx; subst hx; exact Or.inl (List.mem_of_getElem? (i := 1) rfl))
                refine g_aloadN X36 B li1_d139 (pc' := 140) rfl (v := (.ref o0)) rfl rfl ?_
                refine g_getF X36 B (B.w 10 rfl) Via.refl e36 F_o0_listed_36 li1_d140 (pc' := 143) rfl (fun T37 X37 e37 => ?_)
                refine g_iload X37 B li1_d143 (pc' := 145) rfl (v := (((-(-1 : Int32))) - (1 : Int32))) rfl ?_
                refine g_iloadN X37 B li1_d145 (pc' := 146) rfl (v := i1) rfl ?_
                refine g_iastore X37 B 0 e37 A36 (by decide) (by decide) li1_d146 (pc' := 147) rfl (fun T38 h38 X38 e38 W38 => ?_)
                have N38 := Fr.snoc X38 N36 ga
                have E_o0_38 := E_o0_36.wr W38
                have F_o0_listed_38 := F_o0_listed_36.other W38 (Or.inl noa)
                have F_o0_listedCount_38 := F_o0_listedCount_36.other W38 (Or.inl noa)
                have A_fa_38 := A36.set W38
                have Zs_38 := Nat.le_trans Zs_36 (Keep.of_wr W38).1
                have K_38 := K_36.wr W38 (Or.inl (List.mem_of_getElem? (i := 1) rfl))
                refine g_aloadN X38 B li1_d147 (pc' := 148) rfl (v := (.ref o0)) rfl rfl ?_
                refine g_dup X38 B li1_d148 (pc' := 149) rfl rfl ?_
                refine g_getF X38 B (B.w 21 rfl) Via.refl e38 F_o0_listedCount_38 li1_d149 (pc' := 152) rfl (fun T39 X39 e39 => ?_)
                refine g_iconst X39 B li1_d152 (pc' := 153) rfl (v := (1 : Int32)) (by decide) ?_
                refine g_iadd X39 B li1_d153 (pc' := 154) rfl ?_
                refine g_putF X39 B (B.w 21 rfl) Via.refl e39 F_o0_listedCount_38 E_o0_38 (Or.inl (B.w 22 rfl)) (B.w 1 rfl) (ty := .int) (by decide) rfl rfl li1_d154 (pc' := 157) rfl (fun T40 h40 X40 e40 W40 => ?_)
                have N40 := Fr.snoc X40 N38 g0
                have E_o0_40 := E_o0_38.wr W40
                have F_o0_listed_40 := F_o0_listed_38.other W40 (Or.inr (slot_ne (Or.inl (B.w 11 rfl)) (Or.inl (B.w 22 rfl)) (by decide) (t := (.array .int)) (t' := .int) (by decide) (by decide)))
                have F_o0_listedCount_40 := F_o0_listedCount_38.same W40
                have A_fa_40 := A_fa_38.other W40 (Ne.symm noa)
                have Zs_40 := Nat.le_trans Zs_38 (Keep.of_wr W40).1
                have K_40 := K_38.wr W40 (Or.inl (List.mem_of_getElem? (i := 0) rfl))
                rw [show own_ins [v0] i1 = (if v0 < i1 then [v0, i1] else if i1 < v0 then [i1, v0] else [v0]) from rfl, if_neg c19_1, if_pos q]
                exact g_ret0 X40 B rfl li1_d157 (by decide) (by decide) (by rw [e40]; exact ⟨rfl, N40, K_40, i1, v0, v2, v3, F_o0_listed_40, (by have e : ((1 : Int32) + (1 : Int32)) = (2 : Int32) := (by decide); have z := F_o0_listedCount_40; rw [e] at z; exact z), A_fa_40.eqw (fun j hj => by have q : j = 0 ∨ j = 1 ∨ j = 2 ∨ j = 3 := (by omega); rcases q with rfl | rfl | rfl | rfl <;> first | rfl | simp [own_f]), ⟨rfl, rfl, q⟩⟩)
          · exact absurd (by decide) c57_3
        · rw [hb]
          refine g_iloadN X18 B li1_d56 (pc' := 57) rfl (v := (0 : Int32)) rfl ?_
          refine g_if_lt X18 B li1_d57 (pcT := 61) (pcF := 60) (by decide) rfl rfl (fun c57_3 => ?_) (fun c57_3 => ?_)
          · exact absurd c57_3 (by decide)
          · rw [show own_ins [v0] i1 = (if v0 < i1 then [v0, i1] else if i1 < v0 then [i1, v0] else [v0]) from rfl, if_neg c19_1, if_neg (by rw [q]; exact fun z => c19_1 (by rw [q]; exact z))]
            exact g_ret0 X18 B rfl li1_d60 (by decide) (by decide) (by rw [hh18]; exact ⟨rfl, N, K, v0, v1, v2, v3, Fl, Fc', Aw.eqw (fun j hj => by have q : j = 0 ∨ j = 1 ∨ j = 2 ∨ j = 3 := (by omega); rcases q with rfl | rfl | rfl | rfl <;> first | rfl | simp [own_f]), rfl⟩)
      · exact absurd (by decide) c29_2
theorem li1_met (l : Launch) (Z : State) (a0 : Array Value) (hw : ∀ d ∈ tables_1, d.before a0 Z = true) (ws : List Jvm.Cond) (h : Heap) (o0 : Addr) (i1 : Int32) (fa : Addr) (x : Int32) (n0 : Nat) (Zs : n0 ≤ h.size) (hE : Exa Z h o0 "com/example/unseen_nodes/unseennodes/NodeSet") (g0 : n0 ≤ o0) (ga : n0 ≤ fa) (noa : o0 ≠ fa) (hS : own_S Z h o0 fa [x]) :
    Met l Z (⟨"com/example/unseen_nodes/unseennodes/NodeSet", "list", "(I)V"⟩ : MethodName) prog_78_method_23_code 5 none ws (⟨2, 0, 0, 34⟩ : Room) #[(.ref o0), (.int i1)] h (fun v h2 L => v = none ∧ Fr n0 L ∧ Keep h h2 [o0, fa] ∧ own_S Z h2 o0 fa (own_ins [x] i1)) :=
  met_of own_pn_li1 hw fun p e s m below meth c T X B eT => Go.top (own_ef_li1 m o0 i1) (li1_go X B eT o0 i1 fa x n0 Zs hE g0 ga noa hS)
theorem se0_d0 : decode prog_78_method_7_code 0 = .ok (.aload_n 0, 1) := by decide +kernel
theorem se0_d1 : decode prog_78_method_7_code 1 = .ok (.getfield 7, 3) := by decide +kernel
theorem se0_d4 : decode prog_78_method_7_code 4 = .ok (.ifnull 9, 3) := by decide +kernel
theorem se0_d7 : decode prog_78_method_7_code 7 = .ok (.aload_n 0, 1) := by decide +kernel
theorem se0_d8 : decode prog_78_method_7_code 8 = .ok (.iload_n 1, 1) := by decide +kernel
theorem se0_d9 : decode prog_78_method_7_code 9 = .ok (.invokevirtual 58, 3) := by decide +kernel
theorem se0_d12 : decode prog_78_method_7_code 12 = .ok (.return_, 1) := by decide +kernel
theorem own_pn_se0 : plainFor (⟨"com/example/unseen_nodes/unseennodes/NodeSet", "set", "(I)V"⟩ : MethodName) = true := plainFor_of_name (by first | (simp [plainName, overriddenIn]; done) | decide +kernel)
theorem own_ef_se0 (m : MethodId) (o0 : Addr) (i1 : Int32) : entryFrame m #[(.ref o0), (.int i1)] 3 = (mkF m 0 #[.val (.ref o0), .val (.int i1), .unset] []) := by first | (simp [entryFrame, mkF, argsToLocals, Value.category]; done) | rfl
set_option maxRecDepth 65536 in
set_option maxHeartbeats 40000000 in
theorem se0_go {p : Program} {l : Launch} {e : Env} {s : State} {m : MethodId} {args : Array Value} {below : List Frame} {meth : Method} {c : Code} {T : State} {Z : State} {a0 : Array Value} {h : Heap} (X : Stand p l e (⟨3, 0, 0, 50⟩ : Room) s m args below meth c T [] 0 0) (B : Bdy p s m meth c Z a0 "com/example/unseen_nodes/unseennodes/NodeSet" "set" prog_78_method_7_code 3 none tables_1) (eT : T.heap = h) (o0 : Addr) (i1 : Int32) (fa : Addr) (n0 : Nat) (Zs : n0 ≤ h.size) (hE : Exa Z h o0 "com/example/unseen_nodes/unseennodes/NodeSet") (g0 : n0 ≤ o0) (ga : n0 ≤ fa) (noa : o0 ≠ fa) (hS : own_S Z h o0 fa []) :
    Go p e below s 0 0 (fun v h2 L => v = none ∧ Fr n0 L ∧ Keep h h2 [o0, fa] ∧ own_S Z h2 o0 fa (own_ins [] i1)) (T.setTop (mkF m 0 #[.val (.ref o0), .val (.int i1), .unset] [])) := by
  have N := Fr.nil n0
  have K := Keep.refl h [o0, fa]
  have hS0 := hS
  obtain ⟨v0, v1, v2, v3, Fl, Fc, Aw, hm⟩ := hS
  have Fc' : Fld Z h o0 "com/example/unseen_nodes/unseennodes/NodeSet" "listedCount" "I" (.int (0 : Int32)) := Fc
  refine g_aloadN X B se0_d0 (pc' := 1) rfl (v := (.ref o0)) rfl rfl ?_
  refine g_getF X B (B.w 10 rfl) Via.refl eT Fl se0_d1 (pc' := 4) rfl (fun T1 X1 e1 => ?_)
  refine g_ifnullR X1 B se0_d4 (pc' := 7) rfl ?_
  refine g_aloadN X1 B se0_d7 (pc' := 8) rfl (v := (.ref o0)) rfl rfl ?_
  refine g_iloadN X1 B se0_d8 (pc' := 9) rfl (v := i1) rfl ?_
  refine g_private X1 B e1 0 hE (y := (⟨"com/example/unseen_nodes/unseennodes/NodeSet", "list", "(I)V"⟩ : MethodName)) (argsL := [(.int i1)]) (rest := []) (a := o0) (B.w 67 rfl) (B.w 1 rfl) (B.w 69 rfl) (B.w 68 rfl) (B.w 2 rfl) (B.w 70 rfl) (by decide) (li0_met l Z a0 B.2.2.1 [] h o0 i1 fa  n0 Zs hE g0 ga noa hS0) (by decide) (by decide) (by decide) (by decide) rfl (lenOf own_pd2 rfl) rfl (Nat.le_of_eq rfl) se0_d9 (pc' := 12) rfl (fun T2 v2 L2 X2 Q2 => ?_)
  obtain ⟨rfl, Nq2, Kq2, Sq2⟩ := Q2
  have N2 := Fr.app N Nq2
  have E_o0_2 := hE.keep Kq2
  have Zs_2 := Nat.le_trans Zs Kq2.1
  have K_2 := K.trans Kq2 (by intro x hx; simp only [List.mem_cons, List.not_mem_nil, or_false] at hx; rcases hx with rfl | rfl <;> first | exact Or.inl (List.mem_of_getElem? (i := 0) rfl) | exact Or.inl (List.mem_of_getElem? (i := 1) rfl))
  show Go p e below s _ _ _ (T2.setTop (mkF m 12 #[.val (.ref o0), .val (.int i1), .unset] []))
  exact g_ret0 X2 B rfl se0_d12 (by decide) (by decide) ⟨rfl, N2, K_2, Sq2⟩
theorem se0_met (l : Launch) (Z : State) (a0 : Array Value) (hw : ∀ d ∈ tables_1, d.before a0 Z = true) (ws : List Jvm.Cond) (h : Heap) (o0 : Addr) (i1 : Int32) (fa : Addr) (n0 : Nat) (Zs : n0 ≤ h.size) (hE : Exa Z h o0 "com/example/unseen_nodes/unseennodes/NodeSet") (g0 : n0 ≤ o0) (ga : n0 ≤ fa) (noa : o0 ≠ fa) (hS : own_S Z h o0 fa []) :
    Met l Z (⟨"com/example/unseen_nodes/unseennodes/NodeSet", "set", "(I)V"⟩ : MethodName) prog_78_method_7_code 3 none ws (⟨3, 0, 0, 50⟩ : Room) #[(.ref o0), (.int i1)] h (fun v h2 L => v = none ∧ Fr n0 L ∧ Keep h h2 [o0, fa] ∧ own_S Z h2 o0 fa (own_ins [] i1)) :=
  met_of own_pn_se0 hw fun p e s m below meth c T X B eT => Go.top (own_ef_se0 m o0 i1) (se0_go X B eT o0 i1 fa n0 Zs hE g0 ga noa hS)
theorem se1_d0 : decode prog_78_method_7_code 0 = .ok (.aload_n 0, 1) := by decide +kernel
theorem se1_d1 : decode prog_78_method_7_code 1 = .ok (.getfield 7, 3) := by decide +kernel
theorem se1_d4 : decode prog_78_method_7_code 4 = .ok (.ifnull 9, 3) := by decide +kernel
theorem se1_d7 : decode prog_78_method_7_code 7 = .ok (.aload_n 0, 1) := by decide +kernel
theorem se1_d8 : decode prog_78_method_7_code 8 = .ok (.iload_n 1, 1) := by decide +kernel
theorem se1_d9 : decode prog_78_method_7_code 9 = .ok (.invokevirtual 58, 3) := by decide +kernel
theorem se1_d12 : decode prog_78_method_7_code 12 = .ok (.return_, 1) := by decide +kernel
theorem own_pn_se1 : plainFor (⟨"com/example/unseen_nodes/unseennodes/NodeSet", "set", "(I)V"⟩ : MethodName) = true := plainFor_of_name (by first | (simp [plainName, overriddenIn]; done) | decide +kernel)
theorem own_ef_se1 (m : MethodId) (o0 : Addr) (i1 : Int32) : entryFrame m #[(.ref o0), (.int i1)] 3 = (mkF m 0 #[.val (.ref o0), .val (.int i1), .unset] []) := by first | (simp [entryFrame, mkF, argsToLocals, Value.category]; done) | rfl
set_option maxRecDepth 65536 in
set_option maxHeartbeats 40000000 in
theorem se1_go {p : Program} {l : Launch} {e : Env} {s : State} {m : MethodId} {args : Array Value} {below : List Frame} {meth : Method} {c : Code} {T : State} {Z : State} {a0 : Array Value} {h : Heap} (X : Stand p l e (⟨3, 0, 0, 50⟩ : Room) s m args below meth c T [] 0 0) (B : Bdy p s m meth c Z a0 "com/example/unseen_nodes/unseennodes/NodeSet" "set" prog_78_method_7_code 3 none tables_1) (eT : T.heap = h) (o0 : Addr) (i1 : Int32) (fa : Addr) (x : Int32) (n0 : Nat) (Zs : n0 ≤ h.size) (hE : Exa Z h o0 "com/example/unseen_nodes/unseennodes/NodeSet") (g0 : n0 ≤ o0) (ga : n0 ≤ fa) (noa : o0 ≠ fa) (hS : own_S Z h o0 fa [x]) :
    Go p e below s 0 0 (fun v h2 L => v = none ∧ Fr n0 L ∧ Keep h h2 [o0, fa] ∧ own_S Z h2 o0 fa (own_ins [x] i1)) (T.setTop (mkF m 0 #[.val (.ref o0), .val (.int i1), .unset] [])) := by
  have N := Fr.nil n0
  have K := Keep.refl h [o0, fa]
  have hS0 := hS
  obtain ⟨v0, v1, v2, v3, Fl, Fc, Aw, hm⟩ := hS
  have hm' : v0 = x := hm
  subst hm'
  have Fc' : Fld Z h o0 "com/example/unseen_nodes/unseennodes/NodeSet" "listedCount" "I" (.int (1 : Int32)) := Fc
  refine g_aloadN X B se1_d0 (pc' := 1) rfl (v := (.ref o0)) rfl rfl ?_
  refine g_getF X B (B.w 10 rfl) Via.refl eT Fl se1_d1 (pc' := 4) rfl (fun T1 X1 e1 => ?_)
  refine g_ifnullR X1 B se1_d4 (pc' := 7) rfl ?_
  refine g_aloadN X1 B se1_d7 (pc' := 8) rfl (v := (.ref o0)) rfl rfl ?_
  refine g_iloadN X1 B se1_d8 (pc' := 9) rfl (v := i1) rfl ?_
  refine g_private X1 B e1 0 hE (y := (⟨"com/example/unseen_nodes/unseennodes/NodeSet", "list", "(I)V"⟩ : MethodName)) (argsL := [(.int i1)]) (rest := []) (a := o0) (B.w 67 rfl) (B.w 1 rfl) (B.w 69 rfl) (B.w 68 rfl) (B.w 2 rfl) (B.w 70 rfl) (by decide) (li1_met l Z a0 B.2.2.1 [] h o0 i1 fa v0 n0 Zs hE g0 ga noa hS0) (by decide) (by decide) (by decide) (by decide) rfl (lenOf own_pd2 rfl) rfl (Nat.le_of_eq rfl) se1_d9 (pc' := 12) rfl (fun T2 v2 L2 X2 Q2 => ?_)
  obtain ⟨rfl, Nq2, Kq2, Sq2⟩ := Q2
  have N2 := Fr.app N Nq2
  have E_o0_2 := hE.keep Kq2
  have Zs_2 := Nat.le_trans Zs Kq2.1
  have K_2 := K.trans Kq2 (by intro x hx; simp only [List.mem_cons, List.not_mem_nil, or_false] at hx; rcases hx with rfl | rfl <;> first | exact Or.inl (List.mem_of_getElem? (i := 0) rfl) | exact Or.inl (List.mem_of_getElem? (i := 1) rfl))
  show Go p e below s _ _ _ (T2.setTop (mkF m 12 #[.val (.ref o0), .val (.int i1), .unset] []))
  exact g_ret0 X2 B rfl se1_d12 (by decide) (by decide) ⟨rfl, N2, K_2, Sq2⟩
theorem se1_met (l : Launch) (Z : State) (a0 : Array Value) (hw : ∀ d ∈ tables_1, d.before a0 Z = true) (ws : List Jvm.Cond) (h : Heap) (o0 : Addr) (i1 : Int32) (fa : Addr) (x : Int32) (n0 : Nat) (Zs : n0 ≤ h.size) (hE : Exa Z h o0 "com/example/unseen_nodes/unseennodes/NodeSet") (g0 : n0 ≤ o0) (ga : n0 ≤ fa) (noa : o0 ≠ fa) (hS : own_S Z h o0 fa [x]) :
    Met l Z (⟨"com/example/unseen_nodes/unseennodes/NodeSet", "set", "(I)V"⟩ : MethodName) prog_78_method_7_code 3 none ws (⟨3, 0, 0, 50⟩ : Room) #[(.ref o0), (.int i1)] h (fun v h2 L => v = none ∧ Fr n0 L ∧ Keep h h2 [o0, fa] ∧ own_S Z h2 o0 fa (own_ins [x] i1)) :=
  met_of own_pn_se1 hw fun p e s m below meth c T X B eT => Go.top (own_ef_se1 m o0 i1) (se1_go X B eT o0 i1 fa x n0 Zs hE g0 ga noa hS)
theorem cl0_d0 : decode prog_78_method_10_code 0 = .ok (.aload_n 0, 1) := by decide +kernel
theorem cl0_d1 : decode prog_78_method_10_code 1 = .ok (.getfield 7, 3) := by decide +kernel
theorem cl0_d4 : decode prog_78_method_10_code 4 = .ok (.ifnull 55, 3) := by decide +kernel
theorem cl0_d7 : decode prog_78_method_10_code 7 = .ok (.aload_n 0, 1) := by decide +kernel
theorem cl0_d8 : decode prog_78_method_10_code 8 = .ok (.getfield 7, 3) := by decide +kernel
theorem cl0_d11 : decode prog_78_method_10_code 11 = .ok (.iconst 0, 1) := by decide +kernel
theorem cl0_d12 : decode prog_78_method_10_code 12 = .ok (.aload_n 0, 1) := by decide +kernel
theorem cl0_d13 : decode prog_78_method_10_code 13 = .ok (.getfield 30, 3) := by decide +kernel
theorem cl0_d16 : decode prog_78_method_10_code 16 = .ok (.iload_n 1, 1) := by decide +kernel
theorem cl0_d17 : decode prog_78_method_10_code 17 = .ok (.invokestatic 51, 3) := by decide +kernel
theorem cl0_d20 : decode prog_78_method_10_code 20 = .ok (.istore_n 2, 1) := by decide +kernel
theorem cl0_d21 : decode prog_78_method_10_code 21 = .ok (.iload_n 2, 1) := by decide +kernel
theorem cl0_d22 : decode prog_78_method_10_code 22 = .ok (.ifCond .lt 36, 3) := by decide +kernel
theorem cl0_d58 : decode prog_78_method_10_code 58 = .ok (.return_, 1) := by decide +kernel
theorem own_pn_cl0 : plainFor (⟨"com/example/unseen_nodes/unseennodes/NodeSet", "clear", "(I)V"⟩ : MethodName) = true := plainFor_of_name (by first | (simp [plainName, overriddenIn]; done) | decide +kernel)
theorem own_ef_cl0 (m : MethodId) (o0 : Addr) (i1 : Int32) : entryFrame m #[(.ref o0), (.int i1)] 3 = (mkF m 0 #[.val (.ref o0), .val (.int i1), .unset] []) := by first | (simp [entryFrame, mkF, argsToLocals, Value.category]; done) | rfl
set_option maxRecDepth 65536 in
set_option maxHeartbeats 40000000 in
theorem cl0_go {p : Program} {l : Launch} {e : Env} {s : State} {m : MethodId} {args : Array Value} {below : List Frame} {meth : Method} {c : Code} {T : State} {Z : State} {a0 : Array Value} {h : Heap} (X : Stand p l e (⟨2, 0, 0, 34⟩ : Room) s m args below meth c T [] 0 0) (B : Bdy p s m meth c Z a0 "com/example/unseen_nodes/unseennodes/NodeSet" "clear" prog_78_method_10_code 3 none tables_1) (eT : T.heap = h) (o0 : Addr) (i1 : Int32) (fa : Addr) (n0 : Nat) (Zs : n0 ≤ h.size) (hE : Exa Z h o0 "com/example/unseen_nodes/unseennodes/NodeSet") (g0 : n0 ≤ o0) (ga : n0 ≤ fa) (noa : o0 ≠ fa) (hS : own_S Z h o0 fa []) :
    Go p e below s 0 0 (fun v h2 L => v = none ∧ Fr n0 L ∧ Keep h h2 [o0, fa] ∧ own_S Z h2 o0 fa (own_del [] i1)) (T.setTop (mkF m 0 #[.val (.ref o0), .val (.int i1), .unset] [])) := by
  have N := Fr.nil n0
  have K := Keep.refl h [o0, fa]
  obtain ⟨v0, v1, v2, v3, Fl, Fc, Aw, hm⟩ := hS
  have Fc' : Fld Z h o0 "com/example/unseen_nodes/unseennodes/NodeSet" "listedCount" "I" (.int (0 : Int32)) := Fc
  refine g_aloadN X B cl0_d0 (pc' := 1) rfl (v := (.ref o0)) rfl rfl ?_
  refine g_getF X B (B.w 10 rfl) Via.refl eT Fl cl0_d1 (pc' := 4) rfl (fun T1 X1 e1 => ?_)
  refine g_ifnullR X1 B cl0_d4 (pc' := 7) rfl ?_
  refine g_aloadN X1 B cl0_d7 (pc' := 8) rfl (v := (.ref o0)) rfl rfl ?_
  refine g_getF X1 B (B.w 10 rfl) Via.refl e1 Fl cl0_d8 (pc' := 11) rfl (fun T2 X2 e2 => ?_)
  refine g_iconst X2 B cl0_d11 (pc' := 12) rfl (v := (0 : Int32)) (by decide) ?_
  refine g_aloadN X2 B cl0_d12 (pc' := 13) rfl (v := (.ref o0)) rfl rfl ?_
  refine g_getF X2 B (B.w 21 rfl) Via.refl e2 Fc' cl0_d13 (pc' := 16) rfl (fun T3 X3 e3 => ?_)
  refine g_iloadN X3 B cl0_d16 (pc' := 17) rfl (v := i1) rfl ?_
  refine g_callS X3 B e3 0 (y := (⟨"java/util/Arrays", "binarySearch", "([IIII)I"⟩ : MethodName)) (argsL := [(.ref fa), (.int (0 : Int32)), (.int (0 : Int32)), (.int i1)]) (rest := []) (B.w 23 rfl) (B.w 24 rfl) (B.w 25 rfl) (B.w 26 rfl) (by decide) (bs0_met l Z a0 B.2.2.1 [] h fa (0 : Int32) (0 : Int32) i1 v0 v1 v2 v3 rfl rfl Aw) (by decide) (by decide) (by decide) (by decide) rfl (lenOf own_pd1 rfl) rfl (Nat.le_of_eq rfl) cl0_d17 (pc' := 20) rfl (fun T4 v4 L4 X4 Q4 => ?_)
  obtain ⟨rfl, hh4, rfl⟩ := Q4
  rw [List.append_nil] at X4
  show Go p e below s _ _ _ (T4.setTop (mkF m 20 #[.val (.ref o0), .val (.int i1), .unset] [(.int (own_bs ([] : List Int32) i1))]))
  refine g_istoreN X4 B cl0_d20 (pc' := 21) rfl (Ls' := #[.val (.ref o0), .val (.int i1), .val (.int (own_bs ([] : List Int32) i1))]) rfl ?_
  have hb : own_bs ([] : List Int32) i1 = -1 := rfl
  · rw [hb]
    refine g_iloadN X4 B cl0_d21 (pc' := 22) rfl (v := (-1 : Int32)) rfl ?_
    refine g_if_lt X4 B cl0_d22 (pcT := 58) (pcF := 25) (by decide) rfl rfl (fun c22_0 => ?_) (fun c22_0 => ?_)
    · exact g_ret0 X4 B rfl cl0_d58 (by decide) (by decide) (by rw [hh4]; exact ⟨rfl, N, K, v0, v1, v2, v3, Fl, Fc', Aw.eqw (fun j hj => by have q : j = 0 ∨ j = 1 ∨ j = 2 ∨ j = 3 := (by omega); rcases q with rfl | rfl | rfl | rfl <;> first | rfl | simp [own_f]), trivial⟩)
    · exact absurd (by decide) c22_0
theorem cl0_met (l : Launch) (Z : State) (a0 : Array Value) (hw : ∀ d ∈ tables_1, d.before a0 Z = true) (ws : List Jvm.Cond) (h : Heap) (o0 : Addr) (i1 : Int32) (fa : Addr) (n0 : Nat) (Zs : n0 ≤ h.size) (hE : Exa Z h o0 "com/example/unseen_nodes/unseennodes/NodeSet") (g0 : n0 ≤ o0) (ga : n0 ≤ fa) (noa : o0 ≠ fa) (hS : own_S Z h o0 fa []) :
    Met l Z (⟨"com/example/unseen_nodes/unseennodes/NodeSet", "clear", "(I)V"⟩ : MethodName) prog_78_method_10_code 3 none ws (⟨2, 0, 0, 34⟩ : Room) #[(.ref o0), (.int i1)] h (fun v h2 L => v = none ∧ Fr n0 L ∧ Keep h h2 [o0, fa] ∧ own_S Z h2 o0 fa (own_del [] i1)) :=
  met_of own_pn_cl0 hw fun p e s m below meth c T X B eT => Go.top (own_ef_cl0 m o0 i1) (cl0_go X B eT o0 i1 fa n0 Zs hE g0 ga noa hS)
theorem cl1_d0 : decode prog_78_method_10_code 0 = .ok (.aload_n 0, 1) := by decide +kernel
theorem cl1_d1 : decode prog_78_method_10_code 1 = .ok (.getfield 7, 3) := by decide +kernel
theorem cl1_d4 : decode prog_78_method_10_code 4 = .ok (.ifnull 55, 3) := by decide +kernel
theorem cl1_d7 : decode prog_78_method_10_code 7 = .ok (.aload_n 0, 1) := by decide +kernel
theorem cl1_d8 : decode prog_78_method_10_code 8 = .ok (.getfield 7, 3) := by decide +kernel
theorem cl1_d11 : decode prog_78_method_10_code 11 = .ok (.iconst 0, 1) := by decide +kernel
theorem cl1_d12 : decode prog_78_method_10_code 12 = .ok (.aload_n 0, 1) := by decide +kernel
theorem cl1_d13 : decode prog_78_method_10_code 13 = .ok (.getfield 30, 3) := by decide +kernel
theorem cl1_d16 : decode prog_78_method_10_code 16 = .ok (.iload_n 1, 1) := by decide +kernel
theorem cl1_d17 : decode prog_78_method_10_code 17 = .ok (.invokestatic 51, 3) := by decide +kernel
theorem cl1_d20 : decode prog_78_method_10_code 20 = .ok (.istore_n 2, 1) := by decide +kernel
theorem cl1_d21 : decode prog_78_method_10_code 21 = .ok (.iload_n 2, 1) := by decide +kernel
theorem cl1_d22 : decode prog_78_method_10_code 22 = .ok (.ifCond .lt 36, 3) := by decide +kernel
theorem cl1_d25 : decode prog_78_method_10_code 25 = .ok (.aload_n 0, 1) := by decide +kernel
theorem cl1_d26 : decode prog_78_method_10_code 26 = .ok (.getfield 7, 3) := by decide +kernel
theorem cl1_d29 : decode prog_78_method_10_code 29 = .ok (.iload_n 2, 1) := by decide +kernel
theorem cl1_d30 : decode prog_78_method_10_code 30 = .ok (.iconst 1, 1) := by decide +kernel
theorem cl1_d31 : decode prog_78_method_10_code 31 = .ok (.iadd, 1) := by decide +kernel
theorem cl1_d32 : decode prog_78_method_10_code 32 = .ok (.aload_n 0, 1) := by decide +kernel
theorem cl1_d33 : decode prog_78_method_10_code 33 = .ok (.getfield 7, 3) := by decide +kernel
theorem cl1_d36 : decode prog_78_method_10_code 36 = .ok (.iload_n 2, 1) := by decide +kernel
theorem cl1_d37 : decode prog_78_method_10_code 37 = .ok (.aload_n 0, 1) := by decide +kernel
theorem cl1_d38 : decode prog_78_method_10_code 38 = .ok (.getfield 30, 3) := by decide +kernel
theorem cl1_d41 : decode prog_78_method_10_code 41 = .ok (.iload_n 2, 1) := by decide +kernel
theorem cl1_d42 : decode prog_78_method_10_code 42 = .ok (.isub, 1) := by decide +kernel
theorem cl1_d43 : decode prog_78_method_10_code 43 = .ok (.iconst 1, 1) := by decide +kernel
theorem cl1_d44 : decode prog_78_method_10_code 44 = .ok (.isub, 1) := by decide +kernel
theorem cl1_d45 : decode prog_78_method_10_code 45 = .ok (.invokestatic 81, 3) := by decide +kernel
theorem cl1_d48 : decode prog_78_method_10_code 48 = .ok (.aload_n 0, 1) := by decide +kernel
theorem cl1_d49 : decode prog_78_method_10_code 49 = .ok (.dup, 1) := by decide +kernel
theorem cl1_d50 : decode prog_78_method_10_code 50 = .ok (.getfield 30, 3) := by decide +kernel
theorem cl1_d53 : decode prog_78_method_10_code 53 = .ok (.iconst 1, 1) := by decide +kernel
theorem cl1_d54 : decode prog_78_method_10_code 54 = .ok (.isub, 1) := by decide +kernel
theorem cl1_d55 : decode prog_78_method_10_code 55 = .ok (.putfield 30, 3) := by decide +kernel
theorem cl1_d58 : decode prog_78_method_10_code 58 = .ok (.return_, 1) := by decide +kernel
theorem own_pn_cl1 : plainFor (⟨"com/example/unseen_nodes/unseennodes/NodeSet", "clear", "(I)V"⟩ : MethodName) = true := plainFor_of_name (by first | (simp [plainName, overriddenIn]; done) | decide +kernel)
theorem own_ef_cl1 (m : MethodId) (o0 : Addr) (i1 : Int32) : entryFrame m #[(.ref o0), (.int i1)] 3 = (mkF m 0 #[.val (.ref o0), .val (.int i1), .unset] []) := by first | (simp [entryFrame, mkF, argsToLocals, Value.category]; done) | rfl
set_option maxRecDepth 65536 in
set_option maxHeartbeats 40000000 in
theorem cl1_go {p : Program} {l : Launch} {e : Env} {s : State} {m : MethodId} {args : Array Value} {below : List Frame} {meth : Method} {c : Code} {T : State} {Z : State} {a0 : Array Value} {h : Heap} (X : Stand p l e (⟨2, 0, 0, 34⟩ : Room) s m args below meth c T [] 0 0) (B : Bdy p s m meth c Z a0 "com/example/unseen_nodes/unseennodes/NodeSet" "clear" prog_78_method_10_code 3 none tables_1) (eT : T.heap = h) (o0 : Addr) (i1 : Int32) (fa : Addr) (x : Int32) (n0 : Nat) (Zs : n0 ≤ h.size) (hE : Exa Z h o0 "com/example/unseen_nodes/unseennodes/NodeSet") (g0 : n0 ≤ o0) (ga : n0 ≤ fa) (noa : o0 ≠ fa) (hS : own_S Z h o0 fa [x]) :
    Go p e below s 0 0 (fun v h2 L => v = none ∧ Fr n0 L ∧ Keep h h2 [o0, fa] ∧ own_S Z h2 o0 fa (own_del [x] i1)) (T.setTop (mkF m 0 #[.val (.ref o0), .val (.int i1), .unset] [])) := by
  have N := Fr.nil n0
  have K := Keep.refl h [o0, fa]
  obtain ⟨v0, v1, v2, v3, Fl, Fc, Aw, hm⟩ := hS
  have hm' : v0 = x := hm
  subst hm'
  have Fc' : Fld Z h o0 "com/example/unseen_nodes/unseennodes/NodeSet" "listedCount" "I" (.int (1 : Int32)) := Fc
  refine g_aloadN X B cl1_d0 (pc' := 1) rfl (v := (.ref o0)) rfl rfl ?_
  refine g_getF X B (B.w 10 rfl) Via.refl eT Fl cl1_d1 (pc' := 4) rfl (fun T1 X1 e1 => ?_)
  refine g_ifnullR X1 B cl1_d4 (pc' := 7) rfl ?_
  refine g_aloadN X1 B cl1_d7 (pc' := 8) rfl (v := (.ref o0)) rfl rfl ?_
  refine g_getF X1 B (B.w 10 rfl) Via.refl e1 Fl cl1_d8 (pc' := 11) rfl (fun T2 X2 e2 => ?_)
  refine g_iconst X2 B cl1_d11 (pc' := 12) rfl (v := (0 : Int32)) (by decide) ?_
  refine g_aloadN X2 B cl1_d12 (pc' := 13) rfl (v := (.ref o0)) rfl rfl ?_
  refine g_getF X2 B (B.w 21 rfl) Via.refl e2 Fc' cl1_d13 (pc' := 16) rfl (fun T3 X3 e3 => ?_)
  refine g_iloadN X3 B cl1_d16 (pc' := 17) rfl (v := i1) rfl ?_
  refine g_callS X3 B e3 0 (y := (⟨"java/util/Arrays", "binarySearch", "([IIII)I"⟩ : MethodName)) (argsL := [(.ref fa), (.int (0 : Int32)), (.int (1 : Int32)), (.int i1)]) (rest := []) (B.w 23 rfl) (B.w 24 rfl) (B.w 25 rfl) (B.w 26 rfl) (by decide) (bs1_met l Z a0 B.2.2.1 [] h fa (0 : Int32) (1 : Int32) i1 v0 v1 v2 v3 rfl rfl Aw) (by decide) (by decide) (by decide) (by decide) rfl (lenOf own_pd1 rfl) rfl (Nat.le_of_eq rfl) cl1_d17 (pc' := 20) rfl (fun T4 v4 L4 X4 Q4 => ?_)
  obtain ⟨rfl, hh4, rfl⟩ := Q4
  rw [List.append_nil] at X4
  show Go p e below s _ _ _ (T4.setTop (mkF m 20 #[.val (.ref o0), .val (.int i1), .unset] [(.int (own_bs [v0] i1))]))
  refine g_istoreN X4 B cl1_d20 (pc' := 21) rfl (Ls' := #[.val (.ref o0), .val (.int i1), .val (.int (own_bs [v0] i1))]) rfl ?_
  rcases own_bs1 v0 i1 with ⟨hb, q⟩ | ⟨hb, q⟩ | ⟨hb, q⟩
  · rw [hb]
    refine g_iloadN X4 B cl1_d21 (pc' := 22) rfl (v := (-2 : Int32)) rfl ?_
    refine g_if_lt X4 B cl1_d22 (pcT := 58) (pcF := 25) (by decide) rfl rfl (fun c22_0 => ?_) (fun c22_0 => ?_)
    · rw [show own_del [v0] i1 = (if v0 = i1 then [] else [v0]) from rfl, if_neg (own_ltne q)]
      exact g_ret0 X4 B rfl cl1_d58 (by decide) (by decide) (by rw [hh4]; exact ⟨rfl, N, K, v0, v1, v2, v3, Fl, Fc', Aw.eqw (fun j hj => by have q : j = 0 ∨ j = 1 ∨ j = 2 ∨ j = 3 := (by omega); rcases q with rfl | rfl | rfl | rfl <;> first | rfl | simp [own_f]), rfl⟩)
    · exact absurd (by decide) c22_0
  · rw [hb]
    refine g_iloadN X4 B cl1_d21 (pc' := 22) rfl (v := (-1 : Int32)) rfl ?_
    refine g_if_lt X4 B cl1_d22 (pcT := 58) (pcF := 25) (by decide) rfl rfl (fun c22_0 => ?_) (fun c22_0 => ?_)
    · rw [show own_del [v0] i1 = (if v0 = i1 then [] else [v0]) from rfl, if_neg (own_gtne q)]
      exact g_ret0 X4 B rfl cl1_d58 (by decide) (by decide) (by rw [hh4]; exact ⟨rfl, N, K, v0, v1, v2, v3, Fl, Fc', Aw.eqw (fun j hj => by have q : j = 0 ∨ j = 1 ∨ j = 2 ∨ j = 3 := (by omega); rcases q with rfl | rfl | rfl | rfl <;> first | rfl | simp [own_f]), rfl⟩)
    · exact absurd (by decide) c22_0
  · rw [hb]
    refine g_iloadN X4 B cl1_d21 (pc' := 22) rfl (v := (0 : Int32)) rfl ?_
    refine g_if_lt X4 B cl1_d22 (pcT := 58) (pcF := 25) (by decide) rfl rfl (fun c22_0 => ?_) (fun c22_0 => ?_)
    · exact absurd c22_0 (by decide)
    · refine g_aloadN X4 B cl1_d25 (pc' := 26) rfl (v := (.ref o0)) rfl rfl ?_
      refine g_getF X4 B (B.w 10 rfl) Via.refl hh4 Fl cl1_d26 (pc' := 29) rfl (fun T5 X5 e5 => ?_)
      refine g_iloadN X5 B cl1_d29 (pc' := 30) rfl (v := (0 : Int32)) rfl ?_
      refine g_iconst X5 B cl1_d30 (pc' := 31) rfl (v := (1 : Int32)) (by decide) ?_
      refine g_iadd X5 B cl1_d31 (pc' := 32) rfl ?_
      refine g_aloadN X5 B cl1_d32 (pc' := 33) rfl (v := (.ref o0)) rfl rfl ?_
      refine g_getF X5 B (B.w 10 rfl) Via.refl e5 Fl cl1_d33 (pc' := 36) rfl (fun T6 X6 e6 => ?_)
      refine g_iloadN X6 B cl1_d36 (pc' := 37) rfl (v := (0 : Int32)) rfl ?_
      refine g_aloadN X6 B cl1_d37 (pc' := 38) rfl (v := (.ref o0)) rfl rfl ?_
      refine g_getF X6 B (B.w 21 rfl) Via.refl e6 Fc' cl1_d38 (pc' := 41) rfl (fun T7 X7 e7 => ?_)
      refine g_iloadN X7 B cl1_d41 (pc' := 42) rfl (v := (0 : Int32)) rfl ?_
      refine g_isub X7 B cl1_d42 (pc' := 43) rfl ?_
      refine g_iconst X7 B cl1_d43 (pc' := 44) rfl (v := (1 : Int32)) (by decide) ?_
      refine g_isub X7 B cl1_d44 (pc' := 45) rfl ?_
      refine g_copyV X7 B 1 0 0 0 (B.w 71 rfl) (B.w 74 rfl) (B.w 72 rfl) (B.w 73 rfl) e7 Aw Aw rfl (fun j hj => own_ff _ _ _ _ j) (fun j hj => own_ff _ _ _ _ j) (by decide) (by decide) (by decide) (by decide) (by decide) N ga rfl cl1_d45 (pc' := 48) rfl (by decide) (Nat.le_of_eq rfl) (by decide) (fun T8 h8 L8 X8 e8 N8 Kq8 A8 => ?_)
      have E_o0_8 := hE.keep Kq8
      have F_o0_listed_8 := Fl.keep Kq8 (by simp only [List.mem_cons, List.not_mem_nil, or_false, not_or]; exact noa)
      have F_o0_listedCount_8 := Fc'.keep Kq8 (by simp only [List.mem_cons, List.not_mem_nil, or_false, not_or]; exact noa)
      have Zs_8 := Nat.le_trans Zs Kq8.1
      have K_8 := K.trans Kq8 (by intro x hx; simp only [List.mem_cons, List.not_mem_nil, or_false] at hx; subst hx; exact Or.inl (List.mem_of_getElem? (i := 1) rfl))
      refine g_aloadN X8 B cl1_d48 (pc' := 49) rfl (v := (.ref o0)) rfl rfl ?_
      refine g_dup X8 B cl1_d49 (pc' := 50) rfl rfl ?_
      refine g_getF X8 B (B.w 21 rfl) Via.refl e8 F_o0_listedCount_8 cl1_d50 (pc' := 53) rfl (fun T9 X9 e9 => ?_)
      refine g_iconst X9 B cl1_d53 (pc' := 54) rfl (v := (1 : Int32)) (by decide) ?_
      refine g_isub X9 B cl1_d54 (pc' := 55) rfl ?_
      refine g_putF X9 B (B.w 21 rfl) Via.refl e9 F_o0_listedCount_8 E_o0_8 (Or.inl (B.w 22 rfl)) (B.w 1 rfl) (ty := .int) (by decide) rfl rfl cl1_d55 (pc' := 58) rfl (fun T10 h10 X10 e10 W10 => ?_)
      have N10 := Fr.snoc X10 N8 g0
      have E_o0_10 := E_o0_8.wr W10
      have F_o0_listed_10 := F_o0_listed_8.other W10 (Or.inr (slot_ne (Or.inl (B.w 11 rfl)) (Or.inl (B.w 22 rfl)) (by decide) (t := (.array .int)) (t' := .int) (by decide) (by decide)))
      have F_o0_listedCount_10 := F_o0_listedCount_8.same W10
      have A_fa_10 := A8.other W10 (Ne.symm noa)
      have Zs_10 := Nat.le_trans Zs_8 (Keep.of_wr W10).1
      have K_10 := K_8.wr W10 (Or.inl (List.mem_of_getElem? (i := 0) rfl))
      rw [show own_del [v0] i1 = (if v0 = i1 then [] else [v0]) from rfl, if_pos q]
      exact g_ret0 X10 B rfl cl1_d58 (by decide) (by decide) (by rw [e10]; exact ⟨rfl, N10, K_10, v0, v1, v2, v3, F_o0_listed_10, (by have e : ((1 : Int32) - (1 : Int32)) = (0 : Int32) := (by decide); have z := F_o0_listedCount_10; rw [e] at z; exact z), A_fa_10.eqw (fun j hj => by have q : j = 0 ∨ j = 1 ∨ j = 2 ∨ j = 3 := (by omega); rcases q with rfl | rfl | rfl | rfl <;> first | rfl | simp [own_f]), trivial⟩)
theorem cl1_met (l : Launch) (Z : State) (a0 : Array Value) (hw : ∀ d ∈ tables_1, d.before a0 Z = true) (ws : List Jvm.Cond) (h : Heap) (o0 : Addr) (i1 : Int32) (fa : Addr) (x : Int32) (n0 : Nat) (Zs : n0 ≤ h.size) (hE : Exa Z h o0 "com/example/unseen_nodes/unseennodes/NodeSet") (g0 : n0 ≤ o0) (ga : n0 ≤ fa) (noa : o0 ≠ fa) (hS : own_S Z h o0 fa [x]) :
    Met l Z (⟨"com/example/unseen_nodes/unseennodes/NodeSet", "clear", "(I)V"⟩ : MethodName) prog_78_method_10_code 3 none ws (⟨2, 0, 0, 34⟩ : Room) #[(.ref o0), (.int i1)] h (fun v h2 L => v = none ∧ Fr n0 L ∧ Keep h h2 [o0, fa] ∧ own_S Z h2 o0 fa (own_del [x] i1)) :=
  met_of own_pn_cl1 hw fun p e s m below meth c T X B eT => Go.top (own_ef_cl1 m o0 i1) (cl1_go X B eT o0 i1 fa x n0 Zs hE g0 ga noa hS)
theorem cl2_d0 : decode prog_78_method_10_code 0 = .ok (.aload_n 0, 1) := by decide +kernel
theorem cl2_d1 : decode prog_78_method_10_code 1 = .ok (.getfield 7, 3) := by decide +kernel
theorem cl2_d4 : decode prog_78_method_10_code 4 = .ok (.ifnull 55, 3) := by decide +kernel
theorem cl2_d7 : decode prog_78_method_10_code 7 = .ok (.aload_n 0, 1) := by decide +kernel
theorem cl2_d8 : decode prog_78_method_10_code 8 = .ok (.getfield 7, 3) := by decide +kernel
theorem cl2_d11 : decode prog_78_method_10_code 11 = .ok (.iconst 0, 1) := by decide +kernel
theorem cl2_d12 : decode prog_78_method_10_code 12 = .ok (.aload_n 0, 1) := by decide +kernel
theorem cl2_d13 : decode prog_78_method_10_code 13 = .ok (.getfield 30, 3) := by decide +kernel
theorem cl2_d16 : decode prog_78_method_10_code 16 = .ok (.iload_n 1, 1) := by decide +kernel
theorem cl2_d17 : decode prog_78_method_10_code 17 = .ok (.invokestatic 51, 3) := by decide +kernel
theorem cl2_d20 : decode prog_78_method_10_code 20 = .ok (.istore_n 2, 1) := by decide +kernel
theorem cl2_d21 : decode prog_78_method_10_code 21 = .ok (.iload_n 2, 1) := by decide +kernel
theorem cl2_d22 : decode prog_78_method_10_code 22 = .ok (.ifCond .lt 36, 3) := by decide +kernel
theorem cl2_d25 : decode prog_78_method_10_code 25 = .ok (.aload_n 0, 1) := by decide +kernel
theorem cl2_d26 : decode prog_78_method_10_code 26 = .ok (.getfield 7, 3) := by decide +kernel
theorem cl2_d29 : decode prog_78_method_10_code 29 = .ok (.iload_n 2, 1) := by decide +kernel
theorem cl2_d30 : decode prog_78_method_10_code 30 = .ok (.iconst 1, 1) := by decide +kernel
theorem cl2_d31 : decode prog_78_method_10_code 31 = .ok (.iadd, 1) := by decide +kernel
theorem cl2_d32 : decode prog_78_method_10_code 32 = .ok (.aload_n 0, 1) := by decide +kernel
theorem cl2_d33 : decode prog_78_method_10_code 33 = .ok (.getfield 7, 3) := by decide +kernel
theorem cl2_d36 : decode prog_78_method_10_code 36 = .ok (.iload_n 2, 1) := by decide +kernel
theorem cl2_d37 : decode prog_78_method_10_code 37 = .ok (.aload_n 0, 1) := by decide +kernel
theorem cl2_d38 : decode prog_78_method_10_code 38 = .ok (.getfield 30, 3) := by decide +kernel
theorem cl2_d41 : decode prog_78_method_10_code 41 = .ok (.iload_n 2, 1) := by decide +kernel
theorem cl2_d42 : decode prog_78_method_10_code 42 = .ok (.isub, 1) := by decide +kernel
theorem cl2_d43 : decode prog_78_method_10_code 43 = .ok (.iconst 1, 1) := by decide +kernel
theorem cl2_d44 : decode prog_78_method_10_code 44 = .ok (.isub, 1) := by decide +kernel
theorem cl2_d45 : decode prog_78_method_10_code 45 = .ok (.invokestatic 81, 3) := by decide +kernel
theorem cl2_d48 : decode prog_78_method_10_code 48 = .ok (.aload_n 0, 1) := by decide +kernel
theorem cl2_d49 : decode prog_78_method_10_code 49 = .ok (.dup, 1) := by decide +kernel
theorem cl2_d50 : decode prog_78_method_10_code 50 = .ok (.getfield 30, 3) := by decide +kernel
theorem cl2_d53 : decode prog_78_method_10_code 53 = .ok (.iconst 1, 1) := by decide +kernel
theorem cl2_d54 : decode prog_78_method_10_code 54 = .ok (.isub, 1) := by decide +kernel
theorem cl2_d55 : decode prog_78_method_10_code 55 = .ok (.putfield 30, 3) := by decide +kernel
theorem cl2_d58 : decode prog_78_method_10_code 58 = .ok (.return_, 1) := by decide +kernel
theorem own_pn_cl2 : plainFor (⟨"com/example/unseen_nodes/unseennodes/NodeSet", "clear", "(I)V"⟩ : MethodName) = true := plainFor_of_name (by first | (simp [plainName, overriddenIn]; done) | decide +kernel)
theorem own_ef_cl2 (m : MethodId) (o0 : Addr) (i1 : Int32) : entryFrame m #[(.ref o0), (.int i1)] 3 = (mkF m 0 #[.val (.ref o0), .val (.int i1), .unset] []) := by first | (simp [entryFrame, mkF, argsToLocals, Value.category]; done) | rfl
set_option maxRecDepth 65536 in
set_option maxHeartbeats 40000000 in
theorem cl2_go {p : Program} {l : Launch} {e : Env} {s : State} {m : MethodId} {args : Array Value} {below : List Frame} {meth : Method} {c : Code} {T : State} {Z : State} {a0 : Array Value} {h : Heap} (X : Stand p l e (⟨2, 0, 0, 34⟩ : Room) s m args below meth c T [] 0 0) (B : Bdy p s m meth c Z a0 "com/example/unseen_nodes/unseennodes/NodeSet" "clear" prog_78_method_10_code 3 none tables_1) (eT : T.heap = h) (o0 : Addr) (i1 : Int32) (fa : Addr) (x : Int32) (y : Int32) (n0 : Nat) (Zs : n0 ≤ h.size) (hE : Exa Z h o0 "com/example/unseen_nodes/unseennodes/NodeSet") (g0 : n0 ≤ o0) (ga : n0 ≤ fa) (noa : o0 ≠ fa) (hS : own_S Z h o0 fa [x, y]) :
    Go p e below s 0 0 (fun v h2 L => v = none ∧ Fr n0 L ∧ Keep h h2 [o0, fa] ∧ own_S Z h2 o0 fa (own_del [x, y] i1)) (T.setTop (mkF m 0 #[.val (.ref o0), .val (.int i1), .unset] [])) := by
  have N := Fr.nil n0
  have K := Keep.refl h [o0, fa]
  obtain ⟨v0, v1, v2, v3, Fl, Fc, Aw, hm⟩ := hS
  obtain ⟨hm1, hm2, hm3⟩ : v0 = x ∧ v1 = y ∧ x < y := hm
  subst hm1 hm2
  have Fc' : Fld Z h o0 "com/example/unseen_nodes/unseennodes/NodeSet" "listedCount" "I" (.int (2 : Int32)) := Fc
  refine g_aloadN X B cl2_d0 (pc' := 1) rfl (v := (.ref o0)) rfl rfl ?_
  refine g_getF X B (B.w 10 rfl) Via.refl eT Fl cl2_d1 (pc' := 4) rfl (fun T1 X1 e1 => ?_)
  refine g_ifnullR X1 B cl2_d4 (pc' := 7) rfl ?_
  refine g_aloadN X1 B cl2_d7 (pc' := 8) rfl (v := (.ref o0)) rfl rfl ?_
  refine g_getF X1 B (B.w 10 rfl) Via.refl e1 Fl cl2_d8 (pc' := 11) rfl (fun T2 X2 e2 => ?_)
  refine g_iconst X2 B cl2_d11 (pc' := 12) rfl (v := (0 : Int32)) (by decide) ?_
  refine g_aloadN X2 B cl2_d12 (pc' := 13) rfl (v := (.ref o0)) rfl rfl ?_
  refine g_getF X2 B (B.w 21 rfl) Via.refl e2 Fc' cl2_d13 (pc' := 16) rfl (fun T3 X3 e3 => ?_)
  refine g_iloadN X3 B cl2_d16 (pc' := 17) rfl (v := i1) rfl ?_
  refine g_callS X3 B e3 0 (y := (⟨"java/util/Arrays", "binarySearch", "([IIII)I"⟩ : MethodName)) (argsL := [(.ref fa), (.int (0 : Int32)), (.int (2 : Int32)), (.int i1)]) (rest := []) (B.w 23 rfl) (B.w 24 rfl) (B.w 25 rfl) (B.w 26 rfl) (by decide) (bs2_met l Z a0 B.2.2.1 [] h fa (0 : Int32) (2 : Int32) i1 v0 v1 v2 v3 rfl rfl Aw) (by decide) (by decide) (by decide) (by decide) rfl (lenOf own_pd1 rfl) rfl (Nat.le_of_eq rfl) cl2_d17 (pc' := 20) rfl (fun T4 v4 L4 X4 Q4 => ?_)
  obtain ⟨rfl, hh4, rfl⟩ := Q4
  rw [List.append_nil] at X4
  show Go p e below s _ _ _ (T4.setTop (mkF m 20 #[.val (.ref o0), .val (.int i1), .unset] [(.int (own_bs [v0, v1] i1))]))
  refine g_istoreN X4 B cl2_d20 (pc' := 21) rfl (Ls' := #[.val (.ref o0), .val (.int i1), .val (.int (own_bs [v0, v1] i1))]) rfl ?_
  rcases own_bs2 v0 v1 i1 with ⟨hb, q, q2⟩ | ⟨hb, q, q2⟩ | ⟨hb, q, q2⟩ | ⟨hb, q⟩ | ⟨hb, q⟩
  · rw [hb]
    refine g_iloadN X4 B cl2_d21 (pc' := 22) rfl (v := (-3 : Int32)) rfl ?_
    refine g_if_lt X4 B cl2_d22 (pcT := 58) (pcF := 25) (by decide) rfl rfl (fun c22_0 => ?_) (fun c22_0 => ?_)
    · rw [show own_del [v0, v1] i1 = (if v0 = i1 then [v1] else if v1 = i1 then [v0] else [v0, v1]) from rfl, if_neg (own_ltne q), if_neg (own_ltne q2)]
      exact g_ret0 X4 B rfl cl2_d58 (by decide) (by decide) (by rw [hh4]; exact ⟨rfl, N, K, v0, v1, v2, v3, Fl, Fc', Aw.eqw (fun j hj => by have q : j = 0 ∨ j = 1 ∨ j = 2 ∨ j = 3 := (by omega); rcases q with rfl | rfl | rfl | rfl <;> first | rfl | simp [own_f]), ⟨rfl, rfl, hm3⟩⟩)
    · exact absurd (by decide) c22_0
  · rw [hb]
    refine g_iloadN X4 B cl2_d21 (pc' := 22) rfl (v := (-2 : Int32)) rfl ?_
    refine g_if_lt X4 B cl2_d22 (pcT := 58) (pcF := 25) (by decide) rfl rfl (fun c22_0 => ?_) (fun c22_0 => ?_)
    · rw [show own_del [v0, v1] i1 = (if v0 = i1 then [v1] else if v1 = i1 then [v0] else [v0, v1]) from rfl, if_neg (own_ltne q), if_neg (own_gtne q2)]
      exact g_ret0 X4 B rfl cl2_d58 (by decide) (by decide) (by rw [hh4]; exact ⟨rfl, N, K, v0, v1, v2, v3, Fl, Fc', Aw.eqw (fun j hj => by have q : j = 0 ∨ j = 1 ∨ j = 2 ∨ j = 3 := (by omega); rcases q with rfl | rfl | rfl | rfl <;> first | rfl | simp [own_f]), ⟨rfl, rfl, hm3⟩⟩)
    · exact absurd (by decide) c22_0
  · rw [hb]
    refine g_iloadN X4 B cl2_d21 (pc' := 22) rfl (v := (1 : Int32)) rfl ?_
    refine g_if_lt X4 B cl2_d22 (pcT := 58) (pcF := 25) (by decide) rfl rfl (fun c22_0 => ?_) (fun c22_0 => ?_)
    · exact absurd c22_0 (by decide)
    · refine g_aloadN X4 B cl2_d25 (pc' := 26) rfl (v := (.ref o0)) rfl rfl ?_
      refine g_getF X4 B (B.w 10 rfl) Via.refl hh4 Fl cl2_d26 (pc' := 29) rfl (fun T5 X5 e5 => ?_)
      refine g_iloadN X5 B cl2_d29 (pc' := 30) rfl (v := (1 : Int32)) rfl ?_
      refine g_iconst X5 B cl2_d30 (pc' := 31) rfl (v := (1 : Int32)) (by decide) ?_
      refine g_iadd X5 B cl2_d31 (pc' := 32) rfl ?_
      refine g_aloadN X5 B cl2_d32 (pc' := 33) rfl (v := (.ref o0)) rfl rfl ?_
      refine g_getF X5 B (B.w 10 rfl) Via.refl e5 Fl cl2_d33 (pc' := 36) rfl (fun T6 X6 e6 => ?_)
      refine g_iloadN X6 B cl2_d36 (pc' := 37) rfl (v := (1 : Int32)) rfl ?_
      refine g_aloadN X6 B cl2_d37 (pc' := 38) rfl (v := (.ref o0)) rfl rfl ?_
      refine g_getF X6 B (B.w 21 rfl) Via.refl e6 Fc' cl2_d38 (pc' := 41) rfl (fun T7 X7 e7 => ?_)
      refine g_iloadN X7 B cl2_d41 (pc' := 42) rfl (v := (1 : Int32)) rfl ?_
      refine g_isub X7 B cl2_d42 (pc' := 43) rfl ?_
      refine g_iconst X7 B cl2_d43 (pc' := 44) rfl (v := (1 : Int32)) (by decide) ?_
      refine g_isub X7 B cl2_d44 (pc' := 45) rfl ?_
      refine g_copyV X7 B 2 1 0 0 (B.w 71 rfl) (B.w 74 rfl) (B.w 72 rfl) (B.w 73 rfl) e7 Aw Aw rfl (fun j hj => own_ff _ _ _ _ j) (fun j hj => own_ff _ _ _ _ j) (by decide) (by decide) (by decide) (by decide) (by decide) N ga rfl cl2_d45 (pc' := 48) rfl (by decide) (Nat.le_of_eq rfl) (by decide) (fun T8 h8 L8 X8 e8 N8 Kq8 A8 => ?_)
      have E_o0_8 := hE.keep Kq8
      have F_o0_listed_8 := Fl.keep Kq8 (by simp only [List.mem_cons, List.not_mem_nil, or_false, not_or]; exact noa)
      have F_o0_listedCount_8 := Fc'.keep Kq8 (by simp only [List.mem_cons, List.not_mem_nil, or_false, not_or]; exact noa)
      have Zs_8 := Nat.le_trans Zs Kq8.1
      have K_8 := K.trans Kq8 (by intro x hx; simp only [List.mem_cons, List.not_mem_nil, or_false] at hx; subst hx; exact Or.inl (List.mem_of_getElem? (i := 1) rfl))
      refine g_aloadN X8 B cl2_d48 (pc' := 49) rfl (v := (.ref o0)) rfl rfl ?_
      refine g_dup X8 B cl2_d49 (pc' := 50) rfl rfl ?_
      refine g_getF X8 B (B.w 21 rfl) Via.refl e8 F_o0_listedCount_8 cl2_d50 (pc' := 53) rfl (fun T9 X9 e9 => ?_)
      refine g_iconst X9 B cl2_d53 (pc' := 54) rfl (v := (1 : Int32)) (by decide) ?_
      refine g_isub X9 B cl2_d54 (pc' := 55) rfl ?_
      refine g_putF X9 B (B.w 21 rfl) Via.refl e9 F_o0_listedCount_8 E_o0_8 (Or.inl (B.w 22 rfl)) (B.w 1 rfl) (ty := .int) (by decide) rfl rfl cl2_d55 (pc' := 58) rfl (fun T10 h10 X10 e10 W10 => ?_)
      have N10 := Fr.snoc X10 N8 g0
      have E_o0_10 := E_o0_8.wr W10
      have F_o0_listed_10 := F_o0_listed_8.other W10 (Or.inr (slot_ne (Or.inl (B.w 11 rfl)) (Or.inl (B.w 22 rfl)) (by decide) (t := (.array .int)) (t' := .int) (by decide) (by decide)))
      have F_o0_listedCount_10 := F_o0_listedCount_8.same W10
      have A_fa_10 := A8.other W10 (Ne.symm noa)
      have Zs_10 := Nat.le_trans Zs_8 (Keep.of_wr W10).1
      have K_10 := K_8.wr W10 (Or.inl (List.mem_of_getElem? (i := 0) rfl))
      rw [show own_del [v0, v1] i1 = (if v0 = i1 then [v1] else if v1 = i1 then [v0] else [v0, v1]) from rfl, if_neg (own_ltne q), if_pos q2]
      exact g_ret0 X10 B rfl cl2_d58 (by decide) (by decide) (by rw [e10]; exact ⟨rfl, N10, K_10, v0, v1, v2, v3, F_o0_listed_10, (by have e : ((2 : Int32) - (1 : Int32)) = (1 : Int32) := (by decide); have z := F_o0_listedCount_10; rw [e] at z; exact z), A_fa_10.eqw (fun j hj => by have q : j = 0 ∨ j = 1 ∨ j = 2 ∨ j = 3 := (by omega); rcases q with rfl | rfl | rfl | rfl <;> first | rfl | simp [own_f]), rfl⟩)
  · rw [hb]
    refine g_iloadN X4 B cl2_d21 (pc' := 22) rfl (v := (-1 : Int32)) rfl ?_
    refine g_if_lt X4 B cl2_d22 (pcT := 58) (pcF := 25) (by decide) rfl rfl (fun c22_0 => ?_) (fun c22_0 => ?_)
    · rw [show own_del [v0, v1] i1 = (if v0 = i1 then [v1] else if v1 = i1 then [v0] else [v0, v1]) from rfl, if_neg (own_gtne q), if_neg (own_gtne (own_lttr q hm3))]
      exact g_ret0 X4 B rfl cl2_d58 (by decide) (by decide) (by rw [hh4]; exact ⟨rfl, N, K, v0, v1, v2, v3, Fl, Fc', Aw.eqw (fun j hj => by have q : j = 0 ∨ j = 1 ∨ j = 2 ∨ j = 3 := (by omega); rcases q with rfl | rfl | rfl | rfl <;> first | rfl | simp [own_f]), ⟨rfl, rfl, hm3⟩⟩)
    · exact absurd (by decide) c22_0
  · rw [hb]
    refine g_iloadN X4 B cl2_d21 (pc' := 22) rfl (v := (0 : Int32)) rfl ?_
    refine g_if_lt X4 B cl2_d22 (pcT := 58) (pcF := 25) (by decide) rfl rfl (fun c22_0 => ?_) (fun c22_0 => ?_)
    · exact absurd c22_0 (by decide)
    · refine g_aloadN X4 B cl2_d25 (pc' := 26) rfl (v := (.ref o0)) rfl rfl ?_
      refine g_getF X4 B (B.w 10 rfl) Via.refl hh4 Fl cl2_d26 (pc' := 29) rfl (fun T11 X11 e11 => ?_)
      refine g_iloadN X11 B cl2_d29 (pc' := 30) rfl (v := (0 : Int32)) rfl ?_
      refine g_iconst X11 B cl2_d30 (pc' := 31) rfl (v := (1 : Int32)) (by decide) ?_
      refine g_iadd X11 B cl2_d31 (pc' := 32) rfl ?_
      refine g_aloadN X11 B cl2_d32 (pc' := 33) rfl (v := (.ref o0)) rfl rfl ?_
      refine g_getF X11 B (B.w 10 rfl) Via.refl e11 Fl cl2_d33 (pc' := 36) rfl (fun T12 X12 e12 => ?_)
      refine g_iloadN X12 B cl2_d36 (pc' := 37) rfl (v := (0 : Int32)) rfl ?_
      refine g_aloadN X12 B cl2_d37 (pc' := 38) rfl (v := (.ref o0)) rfl rfl ?_
      refine g_getF X12 B (B.w 21 rfl) Via.refl e12 Fc' cl2_d38 (pc' := 41) rfl (fun T13 X13 e13 => ?_)
      refine g_iloadN X13 B cl2_d41 (pc' := 42) rfl (v := (0 : Int32)) rfl ?_
      refine g_isub X13 B cl2_d42 (pc' := 43) rfl ?_
      refine g_iconst X13 B cl2_d43 (pc' := 44) rfl (v := (1 : Int32)) (by decide) ?_
      refine g_isub X13 B cl2_d44 (pc' := 45) rfl ?_
      refine g_copyV X13 B 1 0 1 0 (B.w 71 rfl) (B.w 74 rfl) (B.w 72 rfl) (B.w 73 rfl) e13 Aw Aw rfl (fun j hj => own_ff _ _ _ _ j) (fun j hj => own_ff _ _ _ _ j) (by decide) (by decide) (by decide) (by decide) (by decide) N ga rfl cl2_d45 (pc' := 48) rfl (by decide) (Nat.le_of_eq rfl) (by decide) (fun T14 h14 L14 X14 e14 N14 Kq14 A14 => ?_)
      have E_o0_14 := hE.keep Kq14
      have F_o0_listed_14 := Fl.keep Kq14 (by simp only [List.mem_cons, List.not_mem_nil, or_false, not_or]; exact noa)
      have F_o0_listedCount_14 := Fc'.keep Kq14 (by simp only [List.mem_cons, List.not_mem_nil, or_false, not_or]; exact noa)
      have Zs_14 := Nat.le_trans Zs Kq14.1
      have K_14 := K.trans Kq14 (by intro x hx; simp only [List.mem_cons, List.not_mem_nil, or_false] at hx; subst hx; exact Or.inl (List.mem_of_getElem? (i := 1) rfl))
      refine g_aloadN X14 B cl2_d48 (pc' := 49) rfl (v := (.ref o0)) rfl rfl ?_
      refine g_dup X14 B cl2_d49 (pc' := 50) rfl rfl ?_
      refine g_getF X14 B (B.w 21 rfl) Via.refl e14 F_o0_listedCount_14 cl2_d50 (pc' := 53) rfl (fun T15 X15 e15 => ?_)
      refine g_iconst X15 B cl2_d53 (pc' := 54) rfl (v := (1 : Int32)) (by decide) ?_
      refine g_isub X15 B cl2_d54 (pc' := 55) rfl ?_
      refine g_putF X15 B (B.w 21 rfl) Via.refl e15 F_o0_listedCount_14 E_o0_14 (Or.inl (B.w 22 rfl)) (B.w 1 rfl) (ty := .int) (by decide) rfl rfl cl2_d55 (pc' := 58) rfl (fun T16 h16 X16 e16 W16 => ?_)
      have N16 := Fr.snoc X16 N14 g0
      have E_o0_16 := E_o0_14.wr W16
      have F_o0_listed_16 := F_o0_listed_14.other W16 (Or.inr (slot_ne (Or.inl (B.w 11 rfl)) (Or.inl (B.w 22 rfl)) (by decide) (t := (.array .int)) (t' := .int) (by decide) (by decide)))
      have F_o0_listedCount_16 := F_o0_listedCount_14.same W16
      have A_fa_16 := A14.other W16 (Ne.symm noa)
      have Zs_16 := Nat.le_trans Zs_14 (Keep.of_wr W16).1
      have K_16 := K_14.wr W16 (Or.inl (List.mem_of_getElem? (i := 0) rfl))
      rw [show own_del [v0, v1] i1 = (if v0 = i1 then [v1] else if v1 = i1 then [v0] else [v0, v1]) from rfl, if_pos q]
      exact g_ret0 X16 B rfl cl2_d58 (by decide) (by decide) (by rw [e16]; exact ⟨rfl, N16, K_16, v1, v1, v2, v3, F_o0_listed_16, (by have e : ((2 : Int32) - (1 : Int32)) = (1 : Int32) := (by decide); have z := F_o0_listedCount_16; rw [e] at z; exact z), A_fa_16.eqw (fun j hj => by have q : j = 0 ∨ j = 1 ∨ j = 2 ∨ j = 3 := (by omega); rcases q with rfl | rfl | rfl | rfl <;> first | rfl | simp [own_f]), rfl⟩)
theorem cl2_met (l : Launch) (Z : State) (a0 : Array Value) (hw : ∀ d ∈ tables_1, d.before a0 Z = true) (ws : List Jvm.Cond) (h : Heap) (o0 : Addr) (i1 : Int32) (fa : Addr) (x : Int32) (y : Int32) (n0 : Nat) (Zs : n0 ≤ h.size) (hE : Exa Z h o0 "com/example/unseen_nodes/unseennodes/NodeSet") (g0 : n0 ≤ o0) (ga : n0 ≤ fa) (noa : o0 ≠ fa) (hS : own_S Z h o0 fa [x, y]) :
    Met l Z (⟨"com/example/unseen_nodes/unseennodes/NodeSet", "clear", "(I)V"⟩ : MethodName) prog_78_method_10_code 3 none ws (⟨2, 0, 0, 34⟩ : Room) #[(.ref o0), (.int i1)] h (fun v h2 L => v = none ∧ Fr n0 L ∧ Keep h h2 [o0, fa] ∧ own_S Z h2 o0 fa (own_del [x, y] i1)) :=
  met_of own_pn_cl2 hw fun p e s m below meth c T X B eT => Go.top (own_ef_cl2 m o0 i1) (cl2_go X B eT o0 i1 fa x y n0 Zs hE g0 ga noa hS)
theorem se_any (l : Launch) (Z : State) (a0 : Array Value) (hw : ∀ d ∈ tables_1, d.before a0 Z = true) (ws : List Jvm.Cond) (h : Heap) (o0 : Addr) (i1 : Int32) (fa : Addr) (xs : List Int32) (hl : xs.length ≤ 1) (n0 : Nat) (Zs : n0 ≤ h.size) (hE : Exa Z h o0 "com/example/unseen_nodes/unseennodes/NodeSet") (g0 : n0 ≤ o0) (ga : n0 ≤ fa) (noa : o0 ≠ fa) (hS : own_S Z h o0 fa xs) :
    Met l Z (⟨"com/example/unseen_nodes/unseennodes/NodeSet", "set", "(I)V"⟩ : MethodName) prog_78_method_7_code 3 none ws (⟨3, 0, 0, 50⟩ : Room) #[.ref o0, .int i1] h (fun v h2 L => v = none ∧ Fr n0 L ∧ Keep h h2 [o0, fa] ∧ own_S Z h2 o0 fa (own_ins xs i1)) := by
  match xs, hl, hS with
  | [], _, hS => exact se0_met l Z a0 hw ws h o0 i1 fa  n0 Zs hE g0 ga noa hS
  | [x], _, hS => exact se1_met l Z a0 hw ws h o0 i1 fa x n0 Zs hE g0 ga noa hS
  | _ :: _ :: _, hl, _ => exact absurd hl (by simp)
theorem cl_any (l : Launch) (Z : State) (a0 : Array Value) (hw : ∀ d ∈ tables_1, d.before a0 Z = true) (ws : List Jvm.Cond) (h : Heap) (o0 : Addr) (i1 : Int32) (fa : Addr) (xs : List Int32) (hl : xs.length ≤ 2) (n0 : Nat) (Zs : n0 ≤ h.size) (hE : Exa Z h o0 "com/example/unseen_nodes/unseennodes/NodeSet") (g0 : n0 ≤ o0) (ga : n0 ≤ fa) (noa : o0 ≠ fa) (hS : own_S Z h o0 fa xs) :
    Met l Z (⟨"com/example/unseen_nodes/unseennodes/NodeSet", "clear", "(I)V"⟩ : MethodName) prog_78_method_10_code 3 none ws (⟨2, 0, 0, 34⟩ : Room) #[.ref o0, .int i1] h (fun v h2 L => v = none ∧ Fr n0 L ∧ Keep h h2 [o0, fa] ∧ own_S Z h2 o0 fa (own_del xs i1)) := by
  match xs, hl, hS with
  | [], _, hS => exact cl0_met l Z a0 hw ws h o0 i1 fa  n0 Zs hE g0 ga noa hS
  | [x], _, hS => exact cl1_met l Z a0 hw ws h o0 i1 fa x n0 Zs hE g0 ga noa hS
  | [x, y], _, hS => exact cl2_met l Z a0 hw ws h o0 i1 fa x y n0 Zs hE g0 ga noa hS
  | _ :: _ :: _ :: _, hl, _ => exact absurd hl (by simp)
theorem tr02_d0 : decode prog_78_method_28_code 0 = .ok (.aload_n 0, 1) := by decide +kernel
theorem tr02_d1 : decode prog_78_method_28_code 1 = .ok (.getfield 24, 3) := by decide +kernel
theorem tr02_d4 : decode prog_78_method_28_code 4 = .ok (.ifCond .le 37, 3) := by decide +kernel
theorem tr02_d7 : decode prog_78_method_28_code 7 = .ok (.aload_n 0, 1) := by decide +kernel
theorem tr02_d8 : decode prog_78_method_28_code 8 = .ok (.getfield 17, 3) := by decide +kernel
theorem tr02_d11 : decode prog_78_method_28_code 11 = .ok (.aload_n 0, 1) := by decide +kernel
theorem tr02_d12 : decode prog_78_method_28_code 12 = .ok (.getfield 55, 3) := by decide +kernel
theorem tr02_d15 : decode prog_78_method_28_code 15 = .ok (.aload_n 0, 1) := by decide +kernel
theorem tr02_d16 : decode prog_78_method_28_code 16 = .ok (.getfield 24, 3) := by decide +kernel
theorem tr02_d19 : decode prog_78_method_28_code 19 = .ok (.iadd, 1) := by decide +kernel
theorem tr02_d20 : decode prog_78_method_28_code 20 = .ok (.iconst 1, 1) := by decide +kernel
theorem tr02_d21 : decode prog_78_method_28_code 21 = .ok (.isub, 1) := by decide +kernel
theorem tr02_d22 : decode prog_78_method_28_code 22 = .ok (.laload, 1) := by decide +kernel
theorem tr02_d23 : decode prog_78_method_28_code 23 = .ok (.lconst 0, 1) := by decide +kernel
theorem tr02_d24 : decode prog_78_method_28_code 24 = .ok (.lcmp, 1) := by decide +kernel
theorem tr02_d25 : decode prog_78_method_28_code 25 = .ok (.ifCond .ne 16, 3) := by decide +kernel
theorem tr02_d28 : decode prog_78_method_28_code 28 = .ok (.aload_n 0, 1) := by decide +kernel
theorem tr02_d29 : decode prog_78_method_28_code 29 = .ok (.dup, 1) := by decide +kernel
theorem tr02_d30 : decode prog_78_method_28_code 30 = .ok (.getfield 24, 3) := by decide +kernel
theorem tr02_d33 : decode prog_78_method_28_code 33 = .ok (.iconst 1, 1) := by decide +kernel
theorem tr02_d34 : decode prog_78_method_28_code 34 = .ok (.isub, 1) := by decide +kernel
theorem tr02_d35 : decode prog_78_method_28_code 35 = .ok (.putfield 24, 3) := by decide +kernel
theorem tr02_d38 : decode prog_78_method_28_code 38 = .ok (.goto (-38), 3) := by decide +kernel
theorem tr02_d41 : decode prog_78_method_28_code 41 = .ok (.aload_n 0, 1) := by decide +kernel
theorem tr02_d42 : decode prog_78_method_28_code 42 = .ok (.getfield 24, 3) := by decide +kernel
theorem tr02_d45 : decode prog_78_method_28_code 45 = .ok (.ifCond .le 50, 3) := by decide +kernel
theorem tr02_d48 : decode prog_78_method_28_code 48 = .ok (.aload_n 0, 1) := by decide +kernel
theorem tr02_d49 : decode prog_78_method_28_code 49 = .ok (.getfield 17, 3) := by decide +kernel
theorem tr02_d52 : decode prog_78_method_28_code 52 = .ok (.aload_n 0, 1) := by decide +kernel
theorem tr02_d53 : decode prog_78_method_28_code 53 = .ok (.getfield 55, 3) := by decide +kernel
theorem tr02_d56 : decode prog_78_method_28_code 56 = .ok (.laload, 1) := by decide +kernel
theorem tr02_d57 : decode prog_78_method_28_code 57 = .ok (.lconst 0, 1) := by decide +kernel
theorem tr02_d58 : decode prog_78_method_28_code 58 = .ok (.lcmp, 1) := by decide +kernel
theorem tr02_d59 : decode prog_78_method_28_code 59 = .ok (.ifCond .ne 36, 3) := by decide +kernel
theorem tr02_d62 : decode prog_78_method_28_code 62 = .ok (.aload_n 0, 1) := by decide +kernel
theorem tr02_d63 : decode prog_78_method_28_code 63 = .ok (.dup, 1) := by decide +kernel
theorem tr02_d64 : decode prog_78_method_28_code 64 = .ok (.getfield 55, 3) := by decide +kernel
theorem tr02_d67 : decode prog_78_method_28_code 67 = .ok (.iconst 1, 1) := by decide +kernel
theorem tr02_d68 : decode prog_78_method_28_code 68 = .ok (.iadd, 1) := by decide +kernel
theorem tr02_d69 : decode prog_78_method_28_code 69 = .ok (.putfield 55, 3) := by decide +kernel
theorem tr02_d72 : decode prog_78_method_28_code 72 = .ok (.aload_n 0, 1) := by decide +kernel
theorem tr02_d73 : decode prog_78_method_28_code 73 = .ok (.dup, 1) := by decide +kernel
theorem tr02_d74 : decode prog_78_method_28_code 74 = .ok (.getfield 20, 3) := by decide +kernel
theorem tr02_d77 : decode prog_78_method_28_code 77 = .ok (.iconst 1, 1) := by decide +kernel
theorem tr02_d78 : decode prog_78_method_28_code 78 = .ok (.iadd, 1) := by decide +kernel
theorem tr02_d79 : decode prog_78_method_28_code 79 = .ok (.putfield 20, 3) := by decide +kernel
theorem tr02_d82 : decode prog_78_method_28_code 82 = .ok (.aload_n 0, 1) := by decide +kernel
theorem tr02_d83 : decode prog_78_method_28_code 83 = .ok (.dup, 1) := by decide +kernel
theorem tr02_d84 : decode prog_78_method_28_code 84 = .ok (.getfield 24, 3) := by decide +kernel
theorem tr02_d87 : decode prog_78_method_28_code 87 = .ok (.iconst 1, 1) := by decide +kernel
theorem tr02_d88 : decode prog_78_method_28_code 88 = .ok (.isub, 1) := by decide +kernel
theorem tr02_d89 : decode prog_78_method_28_code 89 = .ok (.putfield 24, 3) := by decide +kernel
theorem tr02_d92 : decode prog_78_method_28_code 92 = .ok (.goto (-51), 3) := by decide +kernel
theorem tr02_d95 : decode prog_78_method_28_code 95 = .ok (.return_, 1) := by decide +kernel
theorem own_pn_tr02 : plainFor (⟨"com/example/unseen_nodes/unseennodes/NodeSet", "trim", "()V"⟩ : MethodName) = true := plainFor_of_name (by first | (simp [plainName, overriddenIn]; done) | decide +kernel)
theorem own_ef_tr02 (m : MethodId) (o0 : Addr) : entryFrame m #[(.ref o0)] 1 = (mkF m 0 #[.val (.ref o0)] []) := by first | (simp [entryFrame, mkF, argsToLocals, Value.category]; done) | rfl
set_option maxRecDepth 65536 in
set_option maxHeartbeats 40000000 in
theorem tr02_go {p : Program} {l : Launch} {e : Env} {s : State} {m : MethodId} {args : Array Value} {below : List Frame} {meth : Method} {c : Code} {T : State} {Z : State} {a0 : Array Value} {h : Heap} (X : Stand p l e (⟨0, 0, 0, 0⟩ : Room) s m args below meth c T [] 0 0) (B : Bdy p s m meth c Z a0 "com/example/unseen_nodes/unseennodes/NodeSet" "trim" prog_78_method_28_code 1 none tables_1) (eT : T.heap = h) (o0 : Addr) (fa : Addr) (w0 : Int64) (w1 : Int64) (n0 : Nat) (Zs : n0 ≤ h.size) (hE : Exa Z h o0 "com/example/unseen_nodes/unseennodes/NodeSet") (g0 : n0 ≤ o0) (ga : n0 ≤ fa) (noa : o0 ≠ fa) (hW : own_W Z h o0 fa (0 : Int32) (2 : Int32) w0 w1) :
    Go p e below s 0 0 (fun v h2 L => ∃ f' c' : Int32, v = none ∧ Fr n0 L ∧ Keep h h2 [o0] ∧ own_W Z h2 o0 fa f' c' w0 w1 ∧ own_nf f' c' w0 w1) (T.setTop (mkF m 0 #[.val (.ref o0)] [])) := by
  have N := Fr.nil n0
  have K := Keep.refl h [o0]
  obtain ⟨Fl, Fw, Ff, Fs, Fc, Aw⟩ := hW
  refine g_aloadN X B tr02_d0 (pc' := 1) rfl (v := (.ref o0)) rfl rfl ?_
  refine g_getF X B (B.w 48 rfl) Via.refl eT Fc tr02_d1 (pc' := 4) rfl (fun T1 X1 e1 => ?_)
  refine g_if_le X1 B tr02_d4 (pcT := 41) (pcF := 7) (by decide) rfl rfl (fun c4_0 => ?_) (fun c4_0 => ?_)
  · refine g_aloadN X1 B tr02_d7 (pc' := 8) rfl (v := (.ref o0)) rfl rfl ?_
    refine g_getF X1 B (B.w 14 rfl) Via.refl e1 Fw tr02_d8 (pc' := 11) rfl (fun T2 X2 e2 => ?_)
    refine g_aloadN X2 B tr02_d11 (pc' := 12) rfl (v := (.ref o0)) rfl rfl ?_
    refine g_getF X2 B (B.w 54 rfl) Via.refl e2 Fs tr02_d12 (pc' := 15) rfl (fun T3 X3 e3 => ?_)
    refine g_aloadN X3 B tr02_d15 (pc' := 16) rfl (v := (.ref o0)) rfl rfl ?_
    refine g_getF X3 B (B.w 48 rfl) Via.refl e3 Fc tr02_d16 (pc' := 19) rfl (fun T4 X4 e4 => ?_)
    refine g_iadd X4 B tr02_d19 (pc' := 20) rfl ?_
    refine g_iconst X4 B tr02_d20 (pc' := 21) rfl (v := (1 : Int32)) (by decide) ?_
    refine g_isub X4 B tr02_d21 (pc' := 22) rfl ?_
    refine g_laload X4 B 1 e4 Aw (by decide) (by decide) (v := (.long w1)) rfl tr02_d22 (pc' := 23) rfl ?_
    refine g_lconst X4 B tr02_d23 (pc' := 24) rfl (v := (0 : Int64)) (by decide) ?_
    refine g_lcmp_ne X4 B tr02_d24 tr02_d25 (pcT := 41) (pcF := 28) (by decide) rfl rfl (fun c24_1 => ?_) (fun c24_1 => ?_)
    · refine g_aloadN X4 B tr02_d28 (pc' := 29) rfl (v := (.ref o0)) rfl rfl ?_
      refine g_dup X4 B tr02_d29 (pc' := 30) rfl rfl ?_
      refine g_getF X4 B (B.w 48 rfl) Via.refl e4 Fc tr02_d30 (pc' := 33) rfl (fun T5 X5 e5 => ?_)
      refine g_iconst X5 B tr02_d33 (pc' := 34) rfl (v := (1 : Int32)) (by decide) ?_
      refine g_isub X5 B tr02_d34 (pc' := 35) rfl ?_
      refine g_putF X5 B (B.w 48 rfl) Via.refl e5 Fc hE (Or.inl (B.w 49 rfl)) (B.w 1 rfl) (ty := .int) (by decide) rfl rfl tr02_d35 (pc' := 38) rfl (fun T6 h6 X6 e6 W6 => ?_)
      have N6 := Fr.snoc X6 N g0
      have E_o0_6 := hE.wr W6
      have F_o0_listed_6 := Fl.other W6 (Or.inr (slot_ne (Or.inl (B.w 11 rfl)) (Or.inl (B.w 49 rfl)) (by decide) (t := (.array .int)) (t' := .int) (by decide) (by decide)))
      have F_o0_words_6 := Fw.other W6 (Or.inr (slot_ne (Or.inl (B.w 15 rfl)) (Or.inl (B.w 49 rfl)) (by decide) (t := (.array .long)) (t' := .int) (by decide) (by decide)))
      have A_fa_6 := Aw.other W6 (Ne.symm noa)
      have F_o0_firstWord_6 := Ff.other W6 (Or.inr (slot_ne (Or.inl (B.w 47 rfl)) (Or.inl (B.w 49 rfl)) (by decide) (t := .int) (t' := .int) (by decide) (by decide)))
      have F_o0_start_6 := Fs.other W6 (Or.inr (slot_ne (Or.inl (B.w 55 rfl)) (Or.inl (B.w 49 rfl)) (by decide) (t := .int) (t' := .int) (by decide) (by decide)))
      have F_o0_count_6 := Fc.same W6
      have Zs_6 := Nat.le_trans Zs (Keep.of_wr W6).1
      have K_6 := K.wr W6 (Or.inl (List.mem_of_getElem? (i := 0) rfl))
      refine g_goto X6 B tr02_d38 (pc' := 0) (by decide) rfl ?_
      refine g_aloadN X6 B tr02_d0 (pc' := 1) rfl (v := (.ref o0)) rfl rfl ?_
      refine g_getF X6 B (B.w 48 rfl) Via.refl e6 F_o0_count_6 tr02_d1 (pc' := 4) rfl (fun T7 X7 e7 => ?_)
      refine g_if_le X7 B tr02_d4 (pcT := 41) (pcF := 7) (by decide) rfl rfl (fun c4_2 => ?_) (fun c4_2 => ?_)
      · refine g_aloadN X7 B tr02_d7 (pc' := 8) rfl (v := (.ref o0)) rfl rfl ?_
        refine g_getF X7 B (B.w 14 rfl) Via.refl e7 F_o0_words_6 tr02_d8 (pc' := 11) rfl (fun T8 X8 e8 => ?_)
        refine g_aloadN X8 B tr02_d11 (pc' := 12) rfl (v := (.ref o0)) rfl rfl ?_
        refine g_getF X8 B (B.w 54 rfl) Via.refl e8 F_o0_start_6 tr02_d12 (pc' := 15) rfl (fun T9 X9 e9 => ?_)
        refine g_aloadN X9 B tr02_d15 (pc' := 16) rfl (v := (.ref o0)) rfl rfl ?_
        refine g_getF X9 B (B.w 48 rfl) Via.refl e9 F_o0_count_6 tr02_d16 (pc' := 19) rfl (fun T10 X10 e10 => ?_)
        refine g_iadd X10 B tr02_d19 (pc' := 20) rfl ?_
        refine g_iconst X10 B tr02_d20 (pc' := 21) rfl (v := (1 : Int32)) (by decide) ?_
        refine g_isub X10 B tr02_d21 (pc' := 22) rfl ?_
        refine g_laload X10 B 0 e10 A_fa_6 (by decide) (by decide) (v := (.long w0)) rfl tr02_d22 (pc' := 23) rfl ?_
        refine g_lconst X10 B tr02_d23 (pc' := 24) rfl (v := (0 : Int64)) (by decide) ?_
        refine g_lcmp_ne X10 B tr02_d24 tr02_d25 (pcT := 41) (pcF := 28) (by decide) rfl rfl (fun c24_3 => ?_) (fun c24_3 => ?_)
        · refine g_aloadN X10 B tr02_d28 (pc' := 29) rfl (v := (.ref o0)) rfl rfl ?_
          refine g_dup X10 B tr02_d29 (pc' := 30) rfl rfl ?_
          refine g_getF X10 B (B.w 48 rfl) Via.refl e10 F_o0_count_6 tr02_d30 (pc' := 33) rfl (fun T11 X11 e11 => ?_)
          refine g_iconst X11 B tr02_d33 (pc' := 34) rfl (v := (1 : Int32)) (by decide) ?_
          refine g_isub X11 B tr02_d34 (pc' := 35) rfl ?_
          refine g_putF X11 B (B.w 48 rfl) Via.refl e11 F_o0_count_6 E_o0_6 (Or.inl (B.w 49 rfl)) (B.w 1 rfl) (ty := .int) (by decide) rfl rfl tr02_d35 (pc' := 38) rfl (fun T12 h12 X12 e12 W12 => ?_)
          have N12 := Fr.snoc X12 N6 g0
          have E_o0_12 := E_o0_6.wr W12
          have F_o0_listed_12 := F_o0_listed_6.other W12 (Or.inr (slot_ne (Or.inl (B.w 11 rfl)) (Or.inl (B.w 49 rfl)) (by decide) (t := (.array .int)) (t' := .int) (by decide) (by decide)))
          have F_o0_words_12 := F_o0_words_6.other W12 (Or.inr (slot_ne (Or.inl (B.w 15 rfl)) (Or.inl (B.w 49 rfl)) (by decide) (t := (.array .long)) (t' := .int) (by decide) (by decide)))
          have A_fa_12 := A_fa_6.other W12 (Ne.symm noa)
          have F_o0_firstWord_12 := F_o0_firstWord_6.other W12 (Or.inr (slot_ne (Or.inl (B.w 47 rfl)) (Or.inl (B.w 49 rfl)) (by decide) (t := .int) (t' := .int) (by decide) (by decide)))
          have F_o0_start_12 := F_o0_start_6.other W12 (Or.inr (slot_ne (Or.inl (B.w 55 rfl)) (Or.inl (B.w 49 rfl)) (by decide) (t := .int) (t' := .int) (by decide) (by decide)))
          have F_o0_count_12 := F_o0_count_6.same W12
          have Zs_12 := Nat.le_trans Zs_6 (Keep.of_wr W12).1
          have K_12 := K_6.wr W12 (Or.inl (List.mem_of_getElem? (i := 0) rfl))
          refine g_goto X12 B tr02_d38 (pc' := 0) (by decide) rfl ?_
          refine g_aloadN X12 B tr02_d0 (pc' := 1) rfl (v := (.ref o0)) rfl rfl ?_
          refine g_getF X12 B (B.w 48 rfl) Via.refl e12 F_o0_count_12 tr02_d1 (pc' := 4) rfl (fun T13 X13 e13 => ?_)
          refine g_if_le X13 B tr02_d4 (pcT := 41) (pcF := 7) (by decide) rfl rfl (fun c4_4 => ?_) (fun c4_4 => ?_)
          · exact absurd c4_4 (by decide)
          · refine g_aloadN X13 B tr02_d41 (pc' := 42) rfl (v := (.ref o0)) rfl rfl ?_
            refine g_getF X13 B (B.w 48 rfl) Via.refl e13 F_o0_count_12 tr02_d42 (pc' := 45) rfl (fun T14 X14 e14 => ?_)
            refine g_if_le X14 B tr02_d45 (pcT := 95) (pcF := 48) (by decide) rfl rfl (fun c45_5 => ?_) (fun c45_5 => ?_)
            · exact absurd c45_5 (by decide)
            · exact g_ret0 X14 B rfl tr02_d95 (by decide) (by decide) (by rw [e14]; exact ⟨(0 : Int32), (0 : Int32), rfl, N12, K_12, ⟨F_o0_listed_12, F_o0_words_12, F_o0_firstWord_12, F_o0_start_12, (by have e : (((2 : Int32) - (1 : Int32)) - (1 : Int32)) = (0 : Int32) := (by decide); have z := F_o0_count_12; rw [e] at z; exact z), A_fa_12⟩, (by simp +decide [own_nf, c24_1, c24_3])⟩)
        · refine g_aloadN X10 B tr02_d41 (pc' := 42) rfl (v := (.ref o0)) rfl rfl ?_
          refine g_getF X10 B (B.w 48 rfl) Via.refl e10 F_o0_count_6 tr02_d42 (pc' := 45) rfl (fun T15 X15 e15 => ?_)
          refine g_if_le X15 B tr02_d45 (pcT := 95) (pcF := 48) (by decide) rfl rfl (fun c45_4 => ?_) (fun c45_4 => ?_)
          · refine g_aloadN X15 B tr02_d48 (pc' := 49) rfl (v := (.ref o0)) rfl rfl ?_
            refine g_getF X15 B (B.w 14 rfl) Via.refl e15 F_o0_words_6 tr02_d49 (pc' := 52) rfl (fun T16 X16 e16 => ?_)
            refine g_aloadN X16 B tr02_d52 (pc' := 53) rfl (v := (.ref o0)) rfl rfl ?_
            refine g_getF X16 B (B.w 54 rfl) Via.refl e16 F_o0_start_6 tr02_d53 (pc' := 56) rfl (fun T17 X17 e17 => ?_)
            refine g_laload X17 B 0 e17 A_fa_6 (by decide) (by decide) (v := (.long w0)) rfl tr02_d56 (pc' := 57) rfl ?_
            refine g_lconst X17 B tr02_d57 (pc' := 58) rfl (v := (0 : Int64)) (by decide) ?_
            refine g_lcmp_ne X17 B tr02_d58 tr02_d59 (pcT := 95) (pcF := 62) (by decide) rfl rfl (fun c58_5 => ?_) (fun c58_5 => ?_)
            · refine g_aloadN X17 B tr02_d62 (pc' := 63) rfl (v := (.ref o0)) rfl rfl ?_
              refine g_dup X17 B tr02_d63 (pc' := 64) rfl rfl ?_
              refine g_getF X17 B (B.w 54 rfl) Via.refl e17 F_o0_start_6 tr02_d64 (pc' := 67) rfl (fun T18 X18 e18 => ?_)
              refine g_iconst X18 B tr02_d67 (pc' := 68) rfl (v := (1 : Int32)) (by decide) ?_
              refine g_iadd X18 B tr02_d68 (pc' := 69) rfl ?_
              refine g_putF X18 B (B.w 54 rfl) Via.refl e18 F_o0_start_6 E_o0_6 (Or.inl (B.w 55 rfl)) (B.w 1 rfl) (ty := .int) (by decide) rfl rfl tr02_d69 (pc' := 72) rfl (fun T19 h19 X19 e19 W19 => ?_)
              have N19 := Fr.snoc X19 N6 g0
              have E_o0_19 := E_o0_6.wr W19
              have F_o0_listed_19 := F_o0_listed_6.other W19 (Or.inr (slot_ne (Or.inl (B.w 11 rfl)) (Or.inl (B.w 55 rfl)) (by decide) (t := (.array .int)) (t' := .int) (by decide) (by decide)))
              have F_o0_words_19 := F_o0_words_6.other W19 (Or.inr (slot_ne (Or.inl (B.w 15 rfl)) (Or.inl (B.w 55 rfl)) (by decide) (t := (.array .long)) (t' := .int) (by decide) (by decide)))
              have A_fa_19 := A_fa_6.other W19 (Ne.symm noa)
              have F_o0_firstWord_19 := F_o0_firstWord_6.other W19 (Or.inr (slot_ne (Or.inl (B.w 47 rfl)) (Or.inl (B.w 55 rfl)) (by decide) (t := .int) (t' := .int) (by decide) (by decide)))
              have F_o0_start_19 := F_o0_start_6.same W19
              have F_o0_count_19 := F_o0_count_6.other W19 (Or.inr (slot_ne (Or.inl (B.w 49 rfl)) (Or.inl (B.w 55 rfl)) (by decide) (t := .int) (t' := .int) (by decide) (by decide)))
              have Zs_19 := Nat.le_trans Zs_6 (Keep.of_wr W19).1
              have K_19 := K_6.wr W19 (Or.inl (List.mem_of_getElem? (i := 0) rfl))
              refine g_aloadN X19 B tr02_d72 (pc' := 73) rfl (v := (.ref o0)) rfl rfl ?_
              refine g_dup X19 B tr02_d73 (pc' := 74) rfl rfl ?_
              refine g_getF X19 B (B.w 46 rfl) Via.refl e19 F_o0_firstWord_19 tr02_d74 (pc' := 77) rfl (fun T20 X20 e20 => ?_)
              refine g_iconst X20 B tr02_d77 (pc' := 78) rfl (v := (1 : Int32)) (by decide) ?_
              refine g_iadd X20 B tr02_d78 (pc' := 79) rfl ?_
              refine g_putF X20 B (B.w 46 rfl) Via.refl e20 F_o0_firstWord_19 E_o0_19 (Or.inl (B.w 47 rfl)) (B.w 1 rfl) (ty := .int) (by decide) rfl rfl tr02_d79 (pc' := 82) rfl (fun T21 h21 X21 e21 W21 => ?_)
              have N21 := Fr.snoc X21 N19 g0
              have E_o0_21 := E_o0_19.wr W21
              have F_o0_listed_21 := F_o0_listed_19.other W21 (Or.inr (slot_ne (Or.inl (B.w 11 rfl)) (Or.inl (B.w 47 rfl)) (by decide) (t := (.array .int)) (t' := .int) (by decide) (by decide)))
              have F_o0_words_21 := F_o0_words_19.other W21 (Or.inr (slot_ne (Or.inl (B.w 15 rfl)) (Or.inl (B.w 47 rfl)) (by decide) (t := (.array .long)) (t' := .int) (by decide) (by decide)))
              have A_fa_21 := A_fa_19.other W21 (Ne.symm noa)
              have F_o0_firstWord_21 := F_o0_firstWord_19.same W21
              have F_o0_start_21 := F_o0_start_19.other W21 (Or.inr (slot_ne (Or.inl (B.w 55 rfl)) (Or.inl (B.w 47 rfl)) (by decide) (t := .int) (t' := .int) (by decide) (by decide)))
              have F_o0_count_21 := F_o0_count_19.other W21 (Or.inr (slot_ne (Or.inl (B.w 49 rfl)) (Or.inl (B.w 47 rfl)) (by decide) (t := .int) (t' := .int) (by decide) (by decide)))
              have Zs_21 := Nat.le_trans Zs_19 (Keep.of_wr W21).1
              have K_21 := K_19.wr W21 (Or.inl (List.mem_of_getElem? (i := 0) rfl))
              refine g_aloadN X21 B tr02_d82 (pc' := 83) rfl (v := (.ref o0)) rfl rfl ?_
              refine g_dup X21 B tr02_d83 (pc' := 84) rfl rfl ?_
              refine g_getF X21 B (B.w 48 rfl) Via.refl e21 F_o0_count_21 tr02_d84 (pc' := 87) rfl (fun T22 X22 e22 => ?_)
              refine g_iconst X22 B tr02_d87 (pc' := 88) rfl (v := (1 : Int32)) (by decide) ?_
              refine g_isub X22 B tr02_d88 (pc' := 89) rfl ?_
              refine g_putF X22 B (B.w 48 rfl) Via.refl e22 F_o0_count_21 E_o0_21 (Or.inl (B.w 49 rfl)) (B.w 1 rfl) (ty := .int) (by decide) rfl rfl tr02_d89 (pc' := 92) rfl (fun T23 h23 X23 e23 W23 => ?_)
              have N23 := Fr.snoc X23 N21 g0
              have E_o0_23 := E_o0_21.wr W23
              have F_o0_listed_23 := F_o0_listed_21.other W23 (Or.inr (slot_ne (Or.inl (B.w 11 rfl)) (Or.inl (B.w 49 rfl)) (by decide) (t := (.array .int)) (t' := .int) (by decide) (by decide)))
              have F_o0_words_23 := F_o0_words_21.other W23 (Or.inr (slot_ne (Or.inl (B.w 15 rfl)) (Or.inl (B.w 49 rfl)) (by decide) (t := (.array .long)) (t' := .int) (by decide) (by decide)))
              have A_fa_23 := A_fa_21.other W23 (Ne.symm noa)
              have F_o0_firstWord_23 := F_o0_firstWord_21.other W23 (Or.inr (slot_ne (Or.inl (B.w 47 rfl)) (Or.inl (B.w 49 rfl)) (by decide) (t := .int) (t' := .int) (by decide) (by decide)))
              have F_o0_start_23 := F_o0_start_21.other W23 (Or.inr (slot_ne (Or.inl (B.w 55 rfl)) (Or.inl (B.w 49 rfl)) (by decide) (t := .int) (t' := .int) (by decide) (by decide)))
              have F_o0_count_23 := F_o0_count_21.same W23
              have Zs_23 := Nat.le_trans Zs_21 (Keep.of_wr W23).1
              have K_23 := K_21.wr W23 (Or.inl (List.mem_of_getElem? (i := 0) rfl))
              refine g_goto X23 B tr02_d92 (pc' := 41) (by decide) rfl ?_
              refine g_aloadN X23 B tr02_d41 (pc' := 42) rfl (v := (.ref o0)) rfl rfl ?_
              refine g_getF X23 B (B.w 48 rfl) Via.refl e23 F_o0_count_23 tr02_d42 (pc' := 45) rfl (fun T24 X24 e24 => ?_)
              refine g_if_le X24 B tr02_d45 (pcT := 95) (pcF := 48) (by decide) rfl rfl (fun c45_6 => ?_) (fun c45_6 => ?_)
              · exact absurd c45_6 (by decide)
              · exact absurd c58_5 c24_3
            · exact g_ret0 X17 B rfl tr02_d95 (by decide) (by decide) (by rw [e17]; exact ⟨(0 : Int32), (1 : Int32), rfl, N6, K_6, ⟨F_o0_listed_6, F_o0_words_6, F_o0_firstWord_6, F_o0_start_6, (by have e : ((2 : Int32) - (1 : Int32)) = (1 : Int32) := (by decide); have z := F_o0_count_6; rw [e] at z; exact z), A_fa_6⟩, (by simp +decide [own_nf, c24_1, c24_3, c58_5])⟩)
          · exact absurd (by decide) c45_4
      · exact absurd (by decide) c4_2
    · refine g_aloadN X4 B tr02_d41 (pc' := 42) rfl (v := (.ref o0)) rfl rfl ?_
      refine g_getF X4 B (B.w 48 rfl) Via.refl e4 Fc tr02_d42 (pc' := 45) rfl (fun T25 X25 e25 => ?_)
      refine g_if_le X25 B tr02_d45 (pcT := 95) (pcF := 48) (by decide) rfl rfl (fun c45_2 => ?_) (fun c45_2 => ?_)
      · refine g_aloadN X25 B tr02_d48 (pc' := 49) rfl (v := (.ref o0)) rfl rfl ?_
        refine g_getF X25 B (B.w 14 rfl) Via.refl e25 Fw tr02_d49 (pc' := 52) rfl (fun T26 X26 e26 => ?_)
        refine g_aloadN X26 B tr02_d52 (pc' := 53) rfl (v := (.ref o0)) rfl rfl ?_
        refine g_getF X26 B (B.w 54 rfl) Via.refl e26 Fs tr02_d53 (pc' := 56) rfl (fun T27 X27 e27 => ?_)
        refine g_laload X27 B 0 e27 Aw (by decide) (by decide) (v := (.long w0)) rfl tr02_d56 (pc' := 57) rfl ?_
        refine g_lconst X27 B tr02_d57 (pc' := 58) rfl (v := (0 : Int64)) (by decide) ?_
        refine g_lcmp_ne X27 B tr02_d58 tr02_d59 (pcT := 95) (pcF := 62) (by decide) rfl rfl (fun c58_3 => ?_) (fun c58_3 => ?_)
        · refine g_aloadN X27 B tr02_d62 (pc' := 63) rfl (v := (.ref o0)) rfl rfl ?_
          refine g_dup X27 B tr02_d63 (pc' := 64) rfl rfl ?_
          refine g_getF X27 B (B.w 54 rfl) Via.refl e27 Fs tr02_d64 (pc' := 67) rfl (fun T28 X28 e28 => ?_)
          refine g_iconst X28 B tr02_d67 (pc' := 68) rfl (v := (1 : Int32)) (by decide) ?_
          refine g_iadd X28 B tr02_d68 (pc' := 69) rfl ?_
          refine g_putF X28 B (B.w 54 rfl) Via.refl e28 Fs hE (Or.inl (B.w 55 rfl)) (B.w 1 rfl) (ty := .int) (by decide) rfl rfl tr02_d69 (pc' := 72) rfl (fun T29 h29 X29 e29 W29 => ?_)
          have N29 := Fr.snoc X29 N g0
          have E_o0_29 := hE.wr W29
          have F_o0_listed_29 := Fl.other W29 (Or.inr (slot_ne (Or.inl (B.w 11 rfl)) (Or.inl (B.w 55 rfl)) (by decide) (t := (.array .int)) (t' := .int) (by decide) (by decide)))
          have F_o0_words_29 := Fw.other W29 (Or.inr (slot_ne (Or.inl (B.w 15 rfl)) (Or.inl (B.w 55 rfl)) (by decide) (t := (.array .long)) (t' := .int) (by decide) (by decide)))
          have A_fa_29 := Aw.other W29 (Ne.symm noa)
          have F_o0_firstWord_29 := Ff.other W29 (Or.inr (slot_ne (Or.inl (B.w 47 rfl)) (Or.inl (B.w 55 rfl)) (by decide) (t := .int) (t' := .int) (by decide) (by decide)))
          have F_o0_start_29 := Fs.same W29
          have F_o0_count_29 := Fc.other W29 (Or.inr (slot_ne (Or.inl (B.w 49 rfl)) (Or.inl (B.w 55 rfl)) (by decide) (t := .int) (t' := .int) (by decide) (by decide)))
          have Zs_29 := Nat.le_trans Zs (Keep.of_wr W29).1
          have K_29 := K.wr W29 (Or.inl (List.mem_of_getElem? (i := 0) rfl))
          refine g_aloadN X29 B tr02_d72 (pc' := 73) rfl (v := (.ref o0)) rfl rfl ?_
          refine g_dup X29 B tr02_d73 (pc' := 74) rfl rfl ?_
          refine g_getF X29 B (B.w 46 rfl) Via.refl e29 F_o0_firstWord_29 tr02_d74 (pc' := 77) rfl (fun T30 X30 e30 => ?_)
          refine g_iconst X30 B tr02_d77 (pc' := 78) rfl (v := (1 : Int32)) (by decide) ?_
          refine g_iadd X30 B tr02_d78 (pc' := 79) rfl ?_
          refine g_putF X30 B (B.w 46 rfl) Via.refl e30 F_o0_firstWord_29 E_o0_29 (Or.inl (B.w 47 rfl)) (B.w 1 rfl) (ty := .int) (by decide) rfl rfl tr02_d79 (pc' := 82) rfl (fun T31 h31 X31 e31 W31 => ?_)
          have N31 := Fr.snoc X31 N29 g0
          have E_o0_31 := E_o0_29.wr W31
          have F_o0_listed_31 := F_o0_listed_29.other W31 (Or.inr (slot_ne (Or.inl (B.w 11 rfl)) (Or.inl (B.w 47 rfl)) (by decide) (t := (.array .int)) (t' := .int) (by decide) (by decide)))
          have F_o0_words_31 := F_o0_words_29.other W31 (Or.inr (slot_ne (Or.inl (B.w 15 rfl)) (Or.inl (B.w 47 rfl)) (by decide) (t := (.array .long)) (t' := .int) (by decide) (by decide)))
          have A_fa_31 := A_fa_29.other W31 (Ne.symm noa)
          have F_o0_firstWord_31 := F_o0_firstWord_29.same W31
          have F_o0_start_31 := F_o0_start_29.other W31 (Or.inr (slot_ne (Or.inl (B.w 55 rfl)) (Or.inl (B.w 47 rfl)) (by decide) (t := .int) (t' := .int) (by decide) (by decide)))
          have F_o0_count_31 := F_o0_count_29.other W31 (Or.inr (slot_ne (Or.inl (B.w 49 rfl)) (Or.inl (B.w 47 rfl)) (by decide) (t := .int) (t' := .int) (by decide) (by decide)))
          have Zs_31 := Nat.le_trans Zs_29 (Keep.of_wr W31).1
          have K_31 := K_29.wr W31 (Or.inl (List.mem_of_getElem? (i := 0) rfl))
          refine g_aloadN X31 B tr02_d82 (pc' := 83) rfl (v := (.ref o0)) rfl rfl ?_
          refine g_dup X31 B tr02_d83 (pc' := 84) rfl rfl ?_
          refine g_getF X31 B (B.w 48 rfl) Via.refl e31 F_o0_count_31 tr02_d84 (pc' := 87) rfl (fun T32 X32 e32 => ?_)
          refine g_iconst X32 B tr02_d87 (pc' := 88) rfl (v := (1 : Int32)) (by decide) ?_
          refine g_isub X32 B tr02_d88 (pc' := 89) rfl ?_
          refine g_putF X32 B (B.w 48 rfl) Via.refl e32 F_o0_count_31 E_o0_31 (Or.inl (B.w 49 rfl)) (B.w 1 rfl) (ty := .int) (by decide) rfl rfl tr02_d89 (pc' := 92) rfl (fun T33 h33 X33 e33 W33 => ?_)
          have N33 := Fr.snoc X33 N31 g0
          have E_o0_33 := E_o0_31.wr W33
          have F_o0_listed_33 := F_o0_listed_31.other W33 (Or.inr (slot_ne (Or.inl (B.w 11 rfl)) (Or.inl (B.w 49 rfl)) (by decide) (t := (.array .int)) (t' := .int) (by decide) (by decide)))
          have F_o0_words_33 := F_o0_words_31.other W33 (Or.inr (slot_ne (Or.inl (B.w 15 rfl)) (Or.inl (B.w 49 rfl)) (by decide) (t := (.array .long)) (t' := .int) (by decide) (by decide)))
          have A_fa_33 := A_fa_31.other W33 (Ne.symm noa)
          have F_o0_firstWord_33 := F_o0_firstWord_31.other W33 (Or.inr (slot_ne (Or.inl (B.w 47 rfl)) (Or.inl (B.w 49 rfl)) (by decide) (t := .int) (t' := .int) (by decide) (by decide)))
          have F_o0_start_33 := F_o0_start_31.other W33 (Or.inr (slot_ne (Or.inl (B.w 55 rfl)) (Or.inl (B.w 49 rfl)) (by decide) (t := .int) (t' := .int) (by decide) (by decide)))
          have F_o0_count_33 := F_o0_count_31.same W33
          have Zs_33 := Nat.le_trans Zs_31 (Keep.of_wr W33).1
          have K_33 := K_31.wr W33 (Or.inl (List.mem_of_getElem? (i := 0) rfl))
          refine g_goto X33 B tr02_d92 (pc' := 41) (by decide) rfl ?_
          refine g_aloadN X33 B tr02_d41 (pc' := 42) rfl (v := (.ref o0)) rfl rfl ?_
          refine g_getF X33 B (B.w 48 rfl) Via.refl e33 F_o0_count_33 tr02_d42 (pc' := 45) rfl (fun T34 X34 e34 => ?_)
          refine g_if_le X34 B tr02_d45 (pcT := 95) (pcF := 48) (by decide) rfl rfl (fun c45_4 => ?_) (fun c45_4 => ?_)
          · refine g_aloadN X34 B tr02_d48 (pc' := 49) rfl (v := (.ref o0)) rfl rfl ?_
            refine g_getF X34 B (B.w 14 rfl) Via.refl e34 F_o0_words_33 tr02_d49 (pc' := 52) rfl (fun T35 X35 e35 => ?_)
            refine g_aloadN X35 B tr02_d52 (pc' := 53) rfl (v := (.ref o0)) rfl rfl ?_
            refine g_getF X35 B (B.w 54 rfl) Via.refl e35 F_o0_start_33 tr02_d53 (pc' := 56) rfl (fun T36 X36 e36 => ?_)
            refine g_laload X36 B 1 e36 A_fa_33 (by decide) (by decide) (v := (.long w1)) rfl tr02_d56 (pc' := 57) rfl ?_
            refine g_lconst X36 B tr02_d57 (pc' := 58) rfl (v := (0 : Int64)) (by decide) ?_
            refine g_lcmp_ne X36 B tr02_d58 tr02_d59 (pcT := 95) (pcF := 62) (by decide) rfl rfl (fun c58_5 => ?_) (fun c58_5 => ?_)
            · refine g_aloadN X36 B tr02_d62 (pc' := 63) rfl (v := (.ref o0)) rfl rfl ?_
              refine g_dup X36 B tr02_d63 (pc' := 64) rfl rfl ?_
              refine g_getF X36 B (B.w 54 rfl) Via.refl e36 F_o0_start_33 tr02_d64 (pc' := 67) rfl (fun T37 X37 e37 => ?_)
              refine g_iconst X37 B tr02_d67 (pc' := 68) rfl (v := (1 : Int32)) (by decide) ?_
              refine g_iadd X37 B tr02_d68 (pc' := 69) rfl ?_
              refine g_putF X37 B (B.w 54 rfl) Via.refl e37 F_o0_start_33 E_o0_33 (Or.inl (B.w 55 rfl)) (B.w 1 rfl) (ty := .int) (by decide) rfl rfl tr02_d69 (pc' := 72) rfl (fun T38 h38 X38 e38 W38 => ?_)
              have N38 := Fr.snoc X38 N33 g0
              have E_o0_38 := E_o0_33.wr W38
              have F_o0_listed_38 := F_o0_listed_33.other W38 (Or.inr (slot_ne (Or.inl (B.w 11 rfl)) (Or.inl (B.w 55 rfl)) (by decide) (t := (.array .int)) (t' := .int) (by decide) (by decide)))
              have F_o0_words_38 := F_o0_words_33.other W38 (Or.inr (slot_ne (Or.inl (B.w 15 rfl)) (Or.inl (B.w 55 rfl)) (by decide) (t := (.array .long)) (t' := .int) (by decide) (by decide)))
              have A_fa_38 := A_fa_33.other W38 (Ne.symm noa)
              have F_o0_firstWord_38 := F_o0_firstWord_33.other W38 (Or.inr (slot_ne (Or.inl (B.w 47 rfl)) (Or.inl (B.w 55 rfl)) (by decide) (t := .int) (t' := .int) (by decide) (by decide)))
              have F_o0_start_38 := F_o0_start_33.same W38
              have F_o0_count_38 := F_o0_count_33.other W38 (Or.inr (slot_ne (Or.inl (B.w 49 rfl)) (Or.inl (B.w 55 rfl)) (by decide) (t := .int) (t' := .int) (by decide) (by decide)))
              have Zs_38 := Nat.le_trans Zs_33 (Keep.of_wr W38).1
              have K_38 := K_33.wr W38 (Or.inl (List.mem_of_getElem? (i := 0) rfl))
              refine g_aloadN X38 B tr02_d72 (pc' := 73) rfl (v := (.ref o0)) rfl rfl ?_
              refine g_dup X38 B tr02_d73 (pc' := 74) rfl rfl ?_
              refine g_getF X38 B (B.w 46 rfl) Via.refl e38 F_o0_firstWord_38 tr02_d74 (pc' := 77) rfl (fun T39 X39 e39 => ?_)
              refine g_iconst X39 B tr02_d77 (pc' := 78) rfl (v := (1 : Int32)) (by decide) ?_
              refine g_iadd X39 B tr02_d78 (pc' := 79) rfl ?_
              refine g_putF X39 B (B.w 46 rfl) Via.refl e39 F_o0_firstWord_38 E_o0_38 (Or.inl (B.w 47 rfl)) (B.w 1 rfl) (ty := .int) (by decide) rfl rfl tr02_d79 (pc' := 82) rfl (fun T40 h40 X40 e40 W40 => ?_)
              have N40 := Fr.snoc X40 N38 g0
              have E_o0_40 := E_o0_38.wr W40
              have F_o0_listed_40 := F_o0_listed_38.other W40 (Or.inr (slot_ne (Or.inl (B.w 11 rfl)) (Or.inl (B.w 47 rfl)) (by decide) (t := (.array .int)) (t' := .int) (by decide) (by decide)))
              have F_o0_words_40 := F_o0_words_38.other W40 (Or.inr (slot_ne (Or.inl (B.w 15 rfl)) (Or.inl (B.w 47 rfl)) (by decide) (t := (.array .long)) (t' := .int) (by decide) (by decide)))
              have A_fa_40 := A_fa_38.other W40 (Ne.symm noa)
              have F_o0_firstWord_40 := F_o0_firstWord_38.same W40
              have F_o0_start_40 := F_o0_start_38.other W40 (Or.inr (slot_ne (Or.inl (B.w 55 rfl)) (Or.inl (B.w 47 rfl)) (by decide) (t := .int) (t' := .int) (by decide) (by decide)))
              have F_o0_count_40 := F_o0_count_38.other W40 (Or.inr (slot_ne (Or.inl (B.w 49 rfl)) (Or.inl (B.w 47 rfl)) (by decide) (t := .int) (t' := .int) (by decide) (by decide)))
              have Zs_40 := Nat.le_trans Zs_38 (Keep.of_wr W40).1
              have K_40 := K_38.wr W40 (Or.inl (List.mem_of_getElem? (i := 0) rfl))
              refine g_aloadN X40 B tr02_d82 (pc' := 83) rfl (v := (.ref o0)) rfl rfl ?_
              refine g_dup X40 B tr02_d83 (pc' := 84) rfl rfl ?_
              refine g_getF X40 B (B.w 48 rfl) Via.refl e40 F_o0_count_40 tr02_d84 (pc' := 87) rfl (fun T41 X41 e41 => ?_)
              refine g_iconst X41 B tr02_d87 (pc' := 88) rfl (v := (1 : Int32)) (by decide) ?_
              refine g_isub X41 B tr02_d88 (pc' := 89) rfl ?_
              refine g_putF X41 B (B.w 48 rfl) Via.refl e41 F_o0_count_40 E_o0_40 (Or.inl (B.w 49 rfl)) (B.w 1 rfl) (ty := .int) (by decide) rfl rfl tr02_d89 (pc' := 92) rfl (fun T42 h42 X42 e42 W42 => ?_)
              have N42 := Fr.snoc X42 N40 g0
              have E_o0_42 := E_o0_40.wr W42
              have F_o0_listed_42 := F_o0_listed_40.other W42 (Or.inr (slot_ne (Or.inl (B.w 11 rfl)) (Or.inl (B.w 49 rfl)) (by decide) (t := (.array .int)) (t' := .int) (by decide) (by decide)))
              have F_o0_words_42 := F_o0_words_40.other W42 (Or.inr (slot_ne (Or.inl (B.w 15 rfl)) (Or.inl (B.w 49 rfl)) (by decide) (t := (.array .long)) (t' := .int) (by decide) (by decide)))
              have A_fa_42 := A_fa_40.other W42 (Ne.symm noa)
              have F_o0_firstWord_42 := F_o0_firstWord_40.other W42 (Or.inr (slot_ne (Or.inl (B.w 47 rfl)) (Or.inl (B.w 49 rfl)) (by decide) (t := .int) (t' := .int) (by decide) (by decide)))
              have F_o0_start_42 := F_o0_start_40.other W42 (Or.inr (slot_ne (Or.inl (B.w 55 rfl)) (Or.inl (B.w 49 rfl)) (by decide) (t := .int) (t' := .int) (by decide) (by decide)))
              have F_o0_count_42 := F_o0_count_40.same W42
              have Zs_42 := Nat.le_trans Zs_40 (Keep.of_wr W42).1
              have K_42 := K_40.wr W42 (Or.inl (List.mem_of_getElem? (i := 0) rfl))
              refine g_goto X42 B tr02_d92 (pc' := 41) (by decide) rfl ?_
              refine g_aloadN X42 B tr02_d41 (pc' := 42) rfl (v := (.ref o0)) rfl rfl ?_
              refine g_getF X42 B (B.w 48 rfl) Via.refl e42 F_o0_count_42 tr02_d42 (pc' := 45) rfl (fun T43 X43 e43 => ?_)
              refine g_if_le X43 B tr02_d45 (pcT := 95) (pcF := 48) (by decide) rfl rfl (fun c45_6 => ?_) (fun c45_6 => ?_)
              · exact absurd c45_6 (by decide)
              · exact absurd c58_5 c24_1
            · exact g_ret0 X36 B rfl tr02_d95 (by decide) (by decide) (by rw [e36]; exact ⟨(1 : Int32), (1 : Int32), rfl, N33, K_33, ⟨F_o0_listed_33, F_o0_words_33, (by have e : ((0 : Int32) + (1 : Int32)) = (1 : Int32) := (by decide); have z := F_o0_firstWord_33; rw [e] at z; exact z), (by have e : ((0 : Int32) + (1 : Int32)) = (1 : Int32) := (by decide); have z := F_o0_start_33; rw [e] at z; exact z), (by have e : ((2 : Int32) - (1 : Int32)) = (1 : Int32) := (by decide); have z := F_o0_count_33; rw [e] at z; exact z), A_fa_33⟩, (by simp +decide [own_nf, c24_1, c58_3, c58_5])⟩)
          · exact absurd (by decide) c45_4
        · exact g_ret0 X27 B rfl tr02_d95 (by decide) (by decide) (by rw [e27]; exact ⟨(0 : Int32), (2 : Int32), rfl, N, K, ⟨Fl, Fw, Ff, Fs, Fc, Aw⟩, (by simp +decide [own_nf, c24_1, c58_3])⟩)
      · exact absurd (by decide) c45_2
  · exact absurd (by decide) c4_0
theorem tr02_met (l : Launch) (Z : State) (a0 : Array Value) (hw : ∀ d ∈ tables_1, d.before a0 Z = true) (ws : List Jvm.Cond) (h : Heap) (o0 : Addr) (fa : Addr) (w0 : Int64) (w1 : Int64) (n0 : Nat) (Zs : n0 ≤ h.size) (hE : Exa Z h o0 "com/example/unseen_nodes/unseennodes/NodeSet") (g0 : n0 ≤ o0) (ga : n0 ≤ fa) (noa : o0 ≠ fa) (hW : own_W Z h o0 fa (0 : Int32) (2 : Int32) w0 w1) :
    Met l Z (⟨"com/example/unseen_nodes/unseennodes/NodeSet", "trim", "()V"⟩ : MethodName) prog_78_method_28_code 1 none ws (⟨0, 0, 0, 0⟩ : Room) #[(.ref o0)] h (fun v h2 L => ∃ f' c' : Int32, v = none ∧ Fr n0 L ∧ Keep h h2 [o0] ∧ own_W Z h2 o0 fa f' c' w0 w1 ∧ own_nf f' c' w0 w1) :=
  met_of own_pn_tr02 hw fun p e s m below meth c T X B eT => Go.top (own_ef_tr02 m o0) (tr02_go X B eT o0 fa w0 w1 n0 Zs hE g0 ga noa hW)
theorem tr01_d0 : decode prog_78_method_28_code 0 = .ok (.aload_n 0, 1) := by decide +kernel
theorem tr01_d1 : decode prog_78_method_28_code 1 = .ok (.getfield 24, 3) := by decide +kernel
theorem tr01_d4 : decode prog_78_method_28_code 4 = .ok (.ifCond .le 37, 3) := by decide +kernel
theorem tr01_d7 : decode prog_78_method_28_code 7 = .ok (.aload_n 0, 1) := by decide +kernel
theorem tr01_d8 : decode prog_78_method_28_code 8 = .ok (.getfield 17, 3) := by decide +kernel
theorem tr01_d11 : decode prog_78_method_28_code 11 = .ok (.aload_n 0, 1) := by decide +kernel
theorem tr01_d12 : decode prog_78_method_28_code 12 = .ok (.getfield 55, 3) := by decide +kernel
theorem tr01_d15 : decode prog_78_method_28_code 15 = .ok (.aload_n 0, 1) := by decide +kernel
theorem tr01_d16 : decode prog_78_method_28_code 16 = .ok (.getfield 24, 3) := by decide +kernel
theorem tr01_d19 : decode prog_78_method_28_code 19 = .ok (.iadd, 1) := by decide +kernel
theorem tr01_d20 : decode prog_78_method_28_code 20 = .ok (.iconst 1, 1) := by decide +kernel
theorem tr01_d21 : decode prog_78_method_28_code 21 = .ok (.isub, 1) := by decide +kernel
theorem tr01_d22 : decode prog_78_method_28_code 22 = .ok (.laload, 1) := by decide +kernel
theorem tr01_d23 : decode prog_78_method_28_code 23 = .ok (.lconst 0, 1) := by decide +kernel
theorem tr01_d24 : decode prog_78_method_28_code 24 = .ok (.lcmp, 1) := by decide +kernel
theorem tr01_d25 : decode prog_78_method_28_code 25 = .ok (.ifCond .ne 16, 3) := by decide +kernel
theorem tr01_d28 : decode prog_78_method_28_code 28 = .ok (.aload_n 0, 1) := by decide +kernel
theorem tr01_d29 : decode prog_78_method_28_code 29 = .ok (.dup, 1) := by decide +kernel
theorem tr01_d30 : decode prog_78_method_28_code 30 = .ok (.getfield 24, 3) := by decide +kernel
theorem tr01_d33 : decode prog_78_method_28_code 33 = .ok (.iconst 1, 1) := by decide +kernel
theorem tr01_d34 : decode prog_78_method_28_code 34 = .ok (.isub, 1) := by decide +kernel
theorem tr01_d35 : decode prog_78_method_28_code 35 = .ok (.putfield 24, 3) := by decide +kernel
theorem tr01_d38 : decode prog_78_method_28_code 38 = .ok (.goto (-38), 3) := by decide +kernel
theorem tr01_d41 : decode prog_78_method_28_code 41 = .ok (.aload_n 0, 1) := by decide +kernel
theorem tr01_d42 : decode prog_78_method_28_code 42 = .ok (.getfield 24, 3) := by decide +kernel
theorem tr01_d45 : decode prog_78_method_28_code 45 = .ok (.ifCond .le 50, 3) := by decide +kernel
theorem tr01_d48 : decode prog_78_method_28_code 48 = .ok (.aload_n 0, 1) := by decide +kernel
theorem tr01_d49 : decode prog_78_method_28_code 49 = .ok (.getfield 17, 3) := by decide +kernel
theorem tr01_d52 : decode prog_78_method_28_code 52 = .ok (.aload_n 0, 1) := by decide +kernel
theorem tr01_d53 : decode prog_78_method_28_code 53 = .ok (.getfield 55, 3) := by decide +kernel
theorem tr01_d56 : decode prog_78_method_28_code 56 = .ok (.laload, 1) := by decide +kernel
theorem tr01_d57 : decode prog_78_method_28_code 57 = .ok (.lconst 0, 1) := by decide +kernel
theorem tr01_d58 : decode prog_78_method_28_code 58 = .ok (.lcmp, 1) := by decide +kernel
theorem tr01_d59 : decode prog_78_method_28_code 59 = .ok (.ifCond .ne 36, 3) := by decide +kernel
theorem tr01_d62 : decode prog_78_method_28_code 62 = .ok (.aload_n 0, 1) := by decide +kernel
theorem tr01_d63 : decode prog_78_method_28_code 63 = .ok (.dup, 1) := by decide +kernel
theorem tr01_d64 : decode prog_78_method_28_code 64 = .ok (.getfield 55, 3) := by decide +kernel
theorem tr01_d67 : decode prog_78_method_28_code 67 = .ok (.iconst 1, 1) := by decide +kernel
theorem tr01_d68 : decode prog_78_method_28_code 68 = .ok (.iadd, 1) := by decide +kernel
theorem tr01_d69 : decode prog_78_method_28_code 69 = .ok (.putfield 55, 3) := by decide +kernel
theorem tr01_d72 : decode prog_78_method_28_code 72 = .ok (.aload_n 0, 1) := by decide +kernel
theorem tr01_d73 : decode prog_78_method_28_code 73 = .ok (.dup, 1) := by decide +kernel
theorem tr01_d74 : decode prog_78_method_28_code 74 = .ok (.getfield 20, 3) := by decide +kernel
theorem tr01_d77 : decode prog_78_method_28_code 77 = .ok (.iconst 1, 1) := by decide +kernel
theorem tr01_d78 : decode prog_78_method_28_code 78 = .ok (.iadd, 1) := by decide +kernel
theorem tr01_d79 : decode prog_78_method_28_code 79 = .ok (.putfield 20, 3) := by decide +kernel
theorem tr01_d82 : decode prog_78_method_28_code 82 = .ok (.aload_n 0, 1) := by decide +kernel
theorem tr01_d83 : decode prog_78_method_28_code 83 = .ok (.dup, 1) := by decide +kernel
theorem tr01_d84 : decode prog_78_method_28_code 84 = .ok (.getfield 24, 3) := by decide +kernel
theorem tr01_d87 : decode prog_78_method_28_code 87 = .ok (.iconst 1, 1) := by decide +kernel
theorem tr01_d88 : decode prog_78_method_28_code 88 = .ok (.isub, 1) := by decide +kernel
theorem tr01_d89 : decode prog_78_method_28_code 89 = .ok (.putfield 24, 3) := by decide +kernel
theorem tr01_d92 : decode prog_78_method_28_code 92 = .ok (.goto (-51), 3) := by decide +kernel
theorem tr01_d95 : decode prog_78_method_28_code 95 = .ok (.return_, 1) := by decide +kernel
theorem own_pn_tr01 : plainFor (⟨"com/example/unseen_nodes/unseennodes/NodeSet", "trim", "()V"⟩ : MethodName) = true := plainFor_of_name (by first | (simp [plainName, overriddenIn]; done) | decide +kernel)
theorem own_ef_tr01 (m : MethodId) (o0 : Addr) : entryFrame m #[(.ref o0)] 1 = (mkF m 0 #[.val (.ref o0)] []) := by first | (simp [entryFrame, mkF, argsToLocals, Value.category]; done) | rfl
set_option maxRecDepth 65536 in
set_option maxHeartbeats 40000000 in
theorem tr01_go {p : Program} {l : Launch} {e : Env} {s : State} {m : MethodId} {args : Array Value} {below : List Frame} {meth : Method} {c : Code} {T : State} {Z : State} {a0 : Array Value} {h : Heap} (X : Stand p l e (⟨0, 0, 0, 0⟩ : Room) s m args below meth c T [] 0 0) (B : Bdy p s m meth c Z a0 "com/example/unseen_nodes/unseennodes/NodeSet" "trim" prog_78_method_28_code 1 none tables_1) (eT : T.heap = h) (o0 : Addr) (fa : Addr) (w0 : Int64) (w1 : Int64) (n0 : Nat) (Zs : n0 ≤ h.size) (hE : Exa Z h o0 "com/example/unseen_nodes/unseennodes/NodeSet") (g0 : n0 ≤ o0) (ga : n0 ≤ fa) (noa : o0 ≠ fa) (hW : own_W Z h o0 fa (0 : Int32) (1 : Int32) w0 w1) (z1 : w1 = 0) :
    Go p e below s 0 0 (fun v h2 L => ∃ f' c' : Int32, v = none ∧ Fr n0 L ∧ Keep h h2 [o0] ∧ own_W Z h2 o0 fa f' c' w0 w1 ∧ own_nf f' c' w0 w1) (T.setTop (mkF m 0 #[.val (.ref o0)] [])) := by
  have N := Fr.nil n0
  have K := Keep.refl h [o0]
  obtain ⟨Fl, Fw, Ff, Fs, Fc, Aw⟩ := hW
  refine g_aloadN X B tr01_d0 (pc' := 1) rfl (v := (.ref o0)) rfl rfl ?_
  refine g_getF X B (B.w 48 rfl) Via.refl eT Fc tr01_d1 (pc' := 4) rfl (fun T1 X1 e1 => ?_)
  refine g_if_le X1 B tr01_d4 (pcT := 41) (pcF := 7) (by decide) rfl rfl (fun c4_0 => ?_) (fun c4_0 => ?_)
  · refine g_aloadN X1 B tr01_d7 (pc' := 8) rfl (v := (.ref o0)) rfl rfl ?_
    refine g_getF X1 B (B.w 14 rfl) Via.refl e1 Fw tr01_d8 (pc' := 11) rfl (fun T2 X2 e2 => ?_)
    refine g_aloadN X2 B tr01_d11 (pc' := 12) rfl (v := (.ref o0)) rfl rfl ?_
    refine g_getF X2 B (B.w 54 rfl) Via.refl e2 Fs tr01_d12 (pc' := 15) rfl (fun T3 X3 e3 => ?_)
    refine g_aloadN X3 B tr01_d15 (pc' := 16) rfl (v := (.ref o0)) rfl rfl ?_
    refine g_getF X3 B (B.w 48 rfl) Via.refl e3 Fc tr01_d16 (pc' := 19) rfl (fun T4 X4 e4 => ?_)
    refine g_iadd X4 B tr01_d19 (pc' := 20) rfl ?_
    refine g_iconst X4 B tr01_d20 (pc' := 21) rfl (v := (1 : Int32)) (by decide) ?_
    refine g_isub X4 B tr01_d21 (pc' := 22) rfl ?_
    refine g_laload X4 B 0 e4 Aw (by decide) (by decide) (v := (.long w0)) rfl tr01_d22 (pc' := 23) rfl ?_
    refine g_lconst X4 B tr01_d23 (pc' := 24) rfl (v := (0 : Int64)) (by decide) ?_
    refine g_lcmp_ne X4 B tr01_d24 tr01_d25 (pcT := 41) (pcF := 28) (by decide) rfl rfl (fun c24_1 => ?_) (fun c24_1 => ?_)
    · refine g_aloadN X4 B tr01_d28 (pc' := 29) rfl (v := (.ref o0)) rfl rfl ?_
      refine g_dup X4 B tr01_d29 (pc' := 30) rfl rfl ?_
      refine g_getF X4 B (B.w 48 rfl) Via.refl e4 Fc tr01_d30 (pc' := 33) rfl (fun T5 X5 e5 => ?_)
      refine g_iconst X5 B tr01_d33 (pc' := 34) rfl (v := (1 : Int32)) (by decide) ?_
      refine g_isub X5 B tr01_d34 (pc' := 35) rfl ?_
      refine g_putF X5 B (B.w 48 rfl) Via.refl e5 Fc hE (Or.inl (B.w 49 rfl)) (B.w 1 rfl) (ty := .int) (by decide) rfl rfl tr01_d35 (pc' := 38) rfl (fun T6 h6 X6 e6 W6 => ?_)
      have N6 := Fr.snoc X6 N g0
      have E_o0_6 := hE.wr W6
      have F_o0_listed_6 := Fl.other W6 (Or.inr (slot_ne (Or.inl (B.w 11 rfl)) (Or.inl (B.w 49 rfl)) (by decide) (t := (.array .int)) (t' := .int) (by decide) (by decide)))
      have F_o0_words_6 := Fw.other W6 (Or.inr (slot_ne (Or.inl (B.w 15 rfl)) (Or.inl (B.w 49 rfl)) (by decide) (t := (.array .long)) (t' := .int) (by decide) (by decide)))
      have A_fa_6 := Aw.other W6 (Ne.symm noa)
      have F_o0_firstWord_6 := Ff.other W6 (Or.inr (slot_ne (Or.inl (B.w 47 rfl)) (Or.inl (B.w 49 rfl)) (by decide) (t := .int) (t' := .int) (by decide) (by decide)))
      have F_o0_start_6 := Fs.other W6 (Or.inr (slot_ne (Or.inl (B.w 55 rfl)) (Or.inl (B.w 49 rfl)) (by decide) (t := .int) (t' := .int) (by decide) (by decide)))
      have F_o0_count_6 := Fc.same W6
      have Zs_6 := Nat.le_trans Zs (Keep.of_wr W6).1
      have K_6 := K.wr W6 (Or.inl (List.mem_of_getElem? (i := 0) rfl))
      refine g_goto X6 B tr01_d38 (pc' := 0) (by decide) rfl ?_
      refine g_aloadN X6 B tr01_d0 (pc' := 1) rfl (v := (.ref o0)) rfl rfl ?_
      refine g_getF X6 B (B.w 48 rfl) Via.refl e6 F_o0_count_6 tr01_d1 (pc' := 4) rfl (fun T7 X7 e7 => ?_)
      refine g_if_le X7 B tr01_d4 (pcT := 41) (pcF := 7) (by decide) rfl rfl (fun c4_2 => ?_) (fun c4_2 => ?_)
      · exact absurd c4_2 (by decide)
      · refine g_aloadN X7 B tr01_d41 (pc' := 42) rfl (v := (.ref o0)) rfl rfl ?_
        refine g_getF X7 B (B.w 48 rfl) Via.refl e7 F_o0_count_6 tr01_d42 (pc' := 45) rfl (fun T8 X8 e8 => ?_)
        refine g_if_le X8 B tr01_d45 (pcT := 95) (pcF := 48) (by decide) rfl rfl (fun c45_3 => ?_) (fun c45_3 => ?_)
        · exact absurd c45_3 (by decide)
        · exact g_ret0 X8 B rfl tr01_d95 (by decide) (by decide) (by rw [e8]; exact ⟨(0 : Int32), (0 : Int32), rfl, N6, K_6, ⟨F_o0_listed_6, F_o0_words_6, F_o0_firstWord_6, F_o0_start_6, (by have e : ((1 : Int32) - (1 : Int32)) = (0 : Int32) := (by decide); have z := F_o0_count_6; rw [e] at z; exact z), A_fa_6⟩, (by simp +decide [own_nf, c24_1, z1])⟩)
    · refine g_aloadN X4 B tr01_d41 (pc' := 42) rfl (v := (.ref o0)) rfl rfl ?_
      refine g_getF X4 B (B.w 48 rfl) Via.refl e4 Fc tr01_d42 (pc' := 45) rfl (fun T9 X9 e9 => ?_)
      refine g_if_le X9 B tr01_d45 (pcT := 95) (pcF := 48) (by decide) rfl rfl (fun c45_2 => ?_) (fun c45_2 => ?_)
      · refine g_aloadN X9 B tr01_d48 (pc' := 49) rfl (v := (.ref o0)) rfl rfl ?_
        refine g_getF X9 B (B.w 14 rfl) Via.refl e9 Fw tr01_d49 (pc' := 52) rfl (fun T10 X10 e10 => ?_)
        refine g_aloadN X10 B tr01_d52 (pc' := 53) rfl (v := (.ref o0)) rfl rfl ?_
        refine g_getF X10 B (B.w 54 rfl) Via.refl e10 Fs tr01_d53 (pc' := 56) rfl (fun T11 X11 e11 => ?_)
        refine g_laload X11 B 0 e11 Aw (by decide) (by decide) (v := (.long w0)) rfl tr01_d56 (pc' := 57) rfl ?_
        refine g_lconst X11 B tr01_d57 (pc' := 58) rfl (v := (0 : Int64)) (by decide) ?_
        refine g_lcmp_ne X11 B tr01_d58 tr01_d59 (pcT := 95) (pcF := 62) (by decide) rfl rfl (fun c58_3 => ?_) (fun c58_3 => ?_)
        · refine g_aloadN X11 B tr01_d62 (pc' := 63) rfl (v := (.ref o0)) rfl rfl ?_
          refine g_dup X11 B tr01_d63 (pc' := 64) rfl rfl ?_
          refine g_getF X11 B (B.w 54 rfl) Via.refl e11 Fs tr01_d64 (pc' := 67) rfl (fun T12 X12 e12 => ?_)
          refine g_iconst X12 B tr01_d67 (pc' := 68) rfl (v := (1 : Int32)) (by decide) ?_
          refine g_iadd X12 B tr01_d68 (pc' := 69) rfl ?_
          refine g_putF X12 B (B.w 54 rfl) Via.refl e12 Fs hE (Or.inl (B.w 55 rfl)) (B.w 1 rfl) (ty := .int) (by decide) rfl rfl tr01_d69 (pc' := 72) rfl (fun T13 h13 X13 e13 W13 => ?_)
          have N13 := Fr.snoc X13 N g0
          have E_o0_13 := hE.wr W13
          have F_o0_listed_13 := Fl.other W13 (Or.inr (slot_ne (Or.inl (B.w 11 rfl)) (Or.inl (B.w 55 rfl)) (by decide) (t := (.array .int)) (t' := .int) (by decide) (by decide)))
          have F_o0_words_13 := Fw.other W13 (Or.inr (slot_ne (Or.inl (B.w 15 rfl)) (Or.inl (B.w 55 rfl)) (by decide) (t := (.array .long)) (t' := .int) (by decide) (by decide)))
          have A_fa_13 := Aw.other W13 (Ne.symm noa)
          have F_o0_firstWord_13 := Ff.other W13 (Or.inr (slot_ne (Or.inl (B.w 47 rfl)) (Or.inl (B.w 55 rfl)) (by decide) (t := .int) (t' := .int) (by decide) (by decide)))
          have F_o0_start_13 := Fs.same W13
          have F_o0_count_13 := Fc.other W13 (Or.inr (slot_ne (Or.inl (B.w 49 rfl)) (Or.inl (B.w 55 rfl)) (by decide) (t := .int) (t' := .int) (by decide) (by decide)))
          have Zs_13 := Nat.le_trans Zs (Keep.of_wr W13).1
          have K_13 := K.wr W13 (Or.inl (List.mem_of_getElem? (i := 0) rfl))
          refine g_aloadN X13 B tr01_d72 (pc' := 73) rfl (v := (.ref o0)) rfl rfl ?_
          refine g_dup X13 B tr01_d73 (pc' := 74) rfl rfl ?_
          refine g_getF X13 B (B.w 46 rfl) Via.refl e13 F_o0_firstWord_13 tr01_d74 (pc' := 77) rfl (fun T14 X14 e14 => ?_)
          refine g_iconst X14 B tr01_d77 (pc' := 78) rfl (v := (1 : Int32)) (by decide) ?_
          refine g_iadd X14 B tr01_d78 (pc' := 79) rfl ?_
          refine g_putF X14 B (B.w 46 rfl) Via.refl e14 F_o0_firstWord_13 E_o0_13 (Or.inl (B.w 47 rfl)) (B.w 1 rfl) (ty := .int) (by decide) rfl rfl tr01_d79 (pc' := 82) rfl (fun T15 h15 X15 e15 W15 => ?_)
          have N15 := Fr.snoc X15 N13 g0
          have E_o0_15 := E_o0_13.wr W15
          have F_o0_listed_15 := F_o0_listed_13.other W15 (Or.inr (slot_ne (Or.inl (B.w 11 rfl)) (Or.inl (B.w 47 rfl)) (by decide) (t := (.array .int)) (t' := .int) (by decide) (by decide)))
          have F_o0_words_15 := F_o0_words_13.other W15 (Or.inr (slot_ne (Or.inl (B.w 15 rfl)) (Or.inl (B.w 47 rfl)) (by decide) (t := (.array .long)) (t' := .int) (by decide) (by decide)))
          have A_fa_15 := A_fa_13.other W15 (Ne.symm noa)
          have F_o0_firstWord_15 := F_o0_firstWord_13.same W15
          have F_o0_start_15 := F_o0_start_13.other W15 (Or.inr (slot_ne (Or.inl (B.w 55 rfl)) (Or.inl (B.w 47 rfl)) (by decide) (t := .int) (t' := .int) (by decide) (by decide)))
          have F_o0_count_15 := F_o0_count_13.other W15 (Or.inr (slot_ne (Or.inl (B.w 49 rfl)) (Or.inl (B.w 47 rfl)) (by decide) (t := .int) (t' := .int) (by decide) (by decide)))
          have Zs_15 := Nat.le_trans Zs_13 (Keep.of_wr W15).1
          have K_15 := K_13.wr W15 (Or.inl (List.mem_of_getElem? (i := 0) rfl))
          refine g_aloadN X15 B tr01_d82 (pc' := 83) rfl (v := (.ref o0)) rfl rfl ?_
          refine g_dup X15 B tr01_d83 (pc' := 84) rfl rfl ?_
          refine g_getF X15 B (B.w 48 rfl) Via.refl e15 F_o0_count_15 tr01_d84 (pc' := 87) rfl (fun T16 X16 e16 => ?_)
          refine g_iconst X16 B tr01_d87 (pc' := 88) rfl (v := (1 : Int32)) (by decide) ?_
          refine g_isub X16 B tr01_d88 (pc' := 89) rfl ?_
          refine g_putF X16 B (B.w 48 rfl) Via.refl e16 F_o0_count_15 E_o0_15 (Or.inl (B.w 49 rfl)) (B.w 1 rfl) (ty := .int) (by decide) rfl rfl tr01_d89 (pc' := 92) rfl (fun T17 h17 X17 e17 W17 => ?_)
          have N17 := Fr.snoc X17 N15 g0
          have E_o0_17 := E_o0_15.wr W17
          have F_o0_listed_17 := F_o0_listed_15.other W17 (Or.inr (slot_ne (Or.inl (B.w 11 rfl)) (Or.inl (B.w 49 rfl)) (by decide) (t := (.array .int)) (t' := .int) (by decide) (by decide)))
          have F_o0_words_17 := F_o0_words_15.other W17 (Or.inr (slot_ne (Or.inl (B.w 15 rfl)) (Or.inl (B.w 49 rfl)) (by decide) (t := (.array .long)) (t' := .int) (by decide) (by decide)))
          have A_fa_17 := A_fa_15.other W17 (Ne.symm noa)
          have F_o0_firstWord_17 := F_o0_firstWord_15.other W17 (Or.inr (slot_ne (Or.inl (B.w 47 rfl)) (Or.inl (B.w 49 rfl)) (by decide) (t := .int) (t' := .int) (by decide) (by decide)))
          have F_o0_start_17 := F_o0_start_15.other W17 (Or.inr (slot_ne (Or.inl (B.w 55 rfl)) (Or.inl (B.w 49 rfl)) (by decide) (t := .int) (t' := .int) (by decide) (by decide)))
          have F_o0_count_17 := F_o0_count_15.same W17
          have Zs_17 := Nat.le_trans Zs_15 (Keep.of_wr W17).1
          have K_17 := K_15.wr W17 (Or.inl (List.mem_of_getElem? (i := 0) rfl))
          refine g_goto X17 B tr01_d92 (pc' := 41) (by decide) rfl ?_
          refine g_aloadN X17 B tr01_d41 (pc' := 42) rfl (v := (.ref o0)) rfl rfl ?_
          refine g_getF X17 B (B.w 48 rfl) Via.refl e17 F_o0_count_17 tr01_d42 (pc' := 45) rfl (fun T18 X18 e18 => ?_)
          refine g_if_le X18 B tr01_d45 (pcT := 95) (pcF := 48) (by decide) rfl rfl (fun c45_4 => ?_) (fun c45_4 => ?_)
          · exact absurd c45_4 (by decide)
          · exact absurd c58_3 c24_1
        · exact g_ret0 X11 B rfl tr01_d95 (by decide) (by decide) (by rw [e11]; exact ⟨(0 : Int32), (1 : Int32), rfl, N, K, ⟨Fl, Fw, Ff, Fs, Fc, Aw⟩, (by simp +decide [own_nf, c24_1, c58_3, z1])⟩)
      · exact absurd (by decide) c45_2
  · exact absurd (by decide) c4_0
theorem tr01_met (l : Launch) (Z : State) (a0 : Array Value) (hw : ∀ d ∈ tables_1, d.before a0 Z = true) (ws : List Jvm.Cond) (h : Heap) (o0 : Addr) (fa : Addr) (w0 : Int64) (w1 : Int64) (n0 : Nat) (Zs : n0 ≤ h.size) (hE : Exa Z h o0 "com/example/unseen_nodes/unseennodes/NodeSet") (g0 : n0 ≤ o0) (ga : n0 ≤ fa) (noa : o0 ≠ fa) (hW : own_W Z h o0 fa (0 : Int32) (1 : Int32) w0 w1) (z1 : w1 = 0) :
    Met l Z (⟨"com/example/unseen_nodes/unseennodes/NodeSet", "trim", "()V"⟩ : MethodName) prog_78_method_28_code 1 none ws (⟨0, 0, 0, 0⟩ : Room) #[(.ref o0)] h (fun v h2 L => ∃ f' c' : Int32, v = none ∧ Fr n0 L ∧ Keep h h2 [o0] ∧ own_W Z h2 o0 fa f' c' w0 w1 ∧ own_nf f' c' w0 w1) :=
  met_of own_pn_tr01 hw fun p e s m below meth c T X B eT => Go.top (own_ef_tr01 m o0) (tr01_go X B eT o0 fa w0 w1 n0 Zs hE g0 ga noa hW z1)
theorem tr11_d0 : decode prog_78_method_28_code 0 = .ok (.aload_n 0, 1) := by decide +kernel
theorem tr11_d1 : decode prog_78_method_28_code 1 = .ok (.getfield 24, 3) := by decide +kernel
theorem tr11_d4 : decode prog_78_method_28_code 4 = .ok (.ifCond .le 37, 3) := by decide +kernel
theorem tr11_d7 : decode prog_78_method_28_code 7 = .ok (.aload_n 0, 1) := by decide +kernel
theorem tr11_d8 : decode prog_78_method_28_code 8 = .ok (.getfield 17, 3) := by decide +kernel
theorem tr11_d11 : decode prog_78_method_28_code 11 = .ok (.aload_n 0, 1) := by decide +kernel
theorem tr11_d12 : decode prog_78_method_28_code 12 = .ok (.getfield 55, 3) := by decide +kernel
theorem tr11_d15 : decode prog_78_method_28_code 15 = .ok (.aload_n 0, 1) := by decide +kernel
theorem tr11_d16 : decode prog_78_method_28_code 16 = .ok (.getfield 24, 3) := by decide +kernel
theorem tr11_d19 : decode prog_78_method_28_code 19 = .ok (.iadd, 1) := by decide +kernel
theorem tr11_d20 : decode prog_78_method_28_code 20 = .ok (.iconst 1, 1) := by decide +kernel
theorem tr11_d21 : decode prog_78_method_28_code 21 = .ok (.isub, 1) := by decide +kernel
theorem tr11_d22 : decode prog_78_method_28_code 22 = .ok (.laload, 1) := by decide +kernel
theorem tr11_d23 : decode prog_78_method_28_code 23 = .ok (.lconst 0, 1) := by decide +kernel
theorem tr11_d24 : decode prog_78_method_28_code 24 = .ok (.lcmp, 1) := by decide +kernel
theorem tr11_d25 : decode prog_78_method_28_code 25 = .ok (.ifCond .ne 16, 3) := by decide +kernel
theorem tr11_d28 : decode prog_78_method_28_code 28 = .ok (.aload_n 0, 1) := by decide +kernel
theorem tr11_d29 : decode prog_78_method_28_code 29 = .ok (.dup, 1) := by decide +kernel
theorem tr11_d30 : decode prog_78_method_28_code 30 = .ok (.getfield 24, 3) := by decide +kernel
theorem tr11_d33 : decode prog_78_method_28_code 33 = .ok (.iconst 1, 1) := by decide +kernel
theorem tr11_d34 : decode prog_78_method_28_code 34 = .ok (.isub, 1) := by decide +kernel
theorem tr11_d35 : decode prog_78_method_28_code 35 = .ok (.putfield 24, 3) := by decide +kernel
theorem tr11_d38 : decode prog_78_method_28_code 38 = .ok (.goto (-38), 3) := by decide +kernel
theorem tr11_d41 : decode prog_78_method_28_code 41 = .ok (.aload_n 0, 1) := by decide +kernel
theorem tr11_d42 : decode prog_78_method_28_code 42 = .ok (.getfield 24, 3) := by decide +kernel
theorem tr11_d45 : decode prog_78_method_28_code 45 = .ok (.ifCond .le 50, 3) := by decide +kernel
theorem tr11_d48 : decode prog_78_method_28_code 48 = .ok (.aload_n 0, 1) := by decide +kernel
theorem tr11_d49 : decode prog_78_method_28_code 49 = .ok (.getfield 17, 3) := by decide +kernel
theorem tr11_d52 : decode prog_78_method_28_code 52 = .ok (.aload_n 0, 1) := by decide +kernel
theorem tr11_d53 : decode prog_78_method_28_code 53 = .ok (.getfield 55, 3) := by decide +kernel
theorem tr11_d56 : decode prog_78_method_28_code 56 = .ok (.laload, 1) := by decide +kernel
theorem tr11_d57 : decode prog_78_method_28_code 57 = .ok (.lconst 0, 1) := by decide +kernel
theorem tr11_d58 : decode prog_78_method_28_code 58 = .ok (.lcmp, 1) := by decide +kernel
theorem tr11_d59 : decode prog_78_method_28_code 59 = .ok (.ifCond .ne 36, 3) := by decide +kernel
theorem tr11_d62 : decode prog_78_method_28_code 62 = .ok (.aload_n 0, 1) := by decide +kernel
theorem tr11_d63 : decode prog_78_method_28_code 63 = .ok (.dup, 1) := by decide +kernel
theorem tr11_d64 : decode prog_78_method_28_code 64 = .ok (.getfield 55, 3) := by decide +kernel
theorem tr11_d67 : decode prog_78_method_28_code 67 = .ok (.iconst 1, 1) := by decide +kernel
theorem tr11_d68 : decode prog_78_method_28_code 68 = .ok (.iadd, 1) := by decide +kernel
theorem tr11_d69 : decode prog_78_method_28_code 69 = .ok (.putfield 55, 3) := by decide +kernel
theorem tr11_d72 : decode prog_78_method_28_code 72 = .ok (.aload_n 0, 1) := by decide +kernel
theorem tr11_d73 : decode prog_78_method_28_code 73 = .ok (.dup, 1) := by decide +kernel
theorem tr11_d74 : decode prog_78_method_28_code 74 = .ok (.getfield 20, 3) := by decide +kernel
theorem tr11_d77 : decode prog_78_method_28_code 77 = .ok (.iconst 1, 1) := by decide +kernel
theorem tr11_d78 : decode prog_78_method_28_code 78 = .ok (.iadd, 1) := by decide +kernel
theorem tr11_d79 : decode prog_78_method_28_code 79 = .ok (.putfield 20, 3) := by decide +kernel
theorem tr11_d82 : decode prog_78_method_28_code 82 = .ok (.aload_n 0, 1) := by decide +kernel
theorem tr11_d83 : decode prog_78_method_28_code 83 = .ok (.dup, 1) := by decide +kernel
theorem tr11_d84 : decode prog_78_method_28_code 84 = .ok (.getfield 24, 3) := by decide +kernel
theorem tr11_d87 : decode prog_78_method_28_code 87 = .ok (.iconst 1, 1) := by decide +kernel
theorem tr11_d88 : decode prog_78_method_28_code 88 = .ok (.isub, 1) := by decide +kernel
theorem tr11_d89 : decode prog_78_method_28_code 89 = .ok (.putfield 24, 3) := by decide +kernel
theorem tr11_d92 : decode prog_78_method_28_code 92 = .ok (.goto (-51), 3) := by decide +kernel
theorem tr11_d95 : decode prog_78_method_28_code 95 = .ok (.return_, 1) := by decide +kernel
theorem own_pn_tr11 : plainFor (⟨"com/example/unseen_nodes/unseennodes/NodeSet", "trim", "()V"⟩ : MethodName) = true := plainFor_of_name (by first | (simp [plainName, overriddenIn]; done) | decide +kernel)
theorem own_ef_tr11 (m : MethodId) (o0 : Addr) : entryFrame m #[(.ref o0)] 1 = (mkF m 0 #[.val (.ref o0)] []) := by first | (simp [entryFrame, mkF, argsToLocals, Value.category]; done) | rfl
set_option maxRecDepth 65536 in
set_option maxHeartbeats 40000000 in
theorem tr11_go {p : Program} {l : Launch} {e : Env} {s : State} {m : MethodId} {args : Array Value} {below : List Frame} {meth : Method} {c : Code} {T : State} {Z : State} {a0 : Array Value} {h : Heap} (X : Stand p l e (⟨0, 0, 0, 0⟩ : Room) s m args below meth c T [] 0 0) (B : Bdy p s m meth c Z a0 "com/example/unseen_nodes/unseennodes/NodeSet" "trim" prog_78_method_28_code 1 none tables_1) (eT : T.heap = h) (o0 : Addr) (fa : Addr) (w0 : Int64) (w1 : Int64) (n0 : Nat) (Zs : n0 ≤ h.size) (hE : Exa Z h o0 "com/example/unseen_nodes/unseennodes/NodeSet") (g0 : n0 ≤ o0) (ga : n0 ≤ fa) (noa : o0 ≠ fa) (hW : own_W Z h o0 fa (1 : Int32) (1 : Int32) w0 w1) (z0 : w0 = 0) :
    Go p e below s 0 0 (fun v h2 L => ∃ f' c' : Int32, v = none ∧ Fr n0 L ∧ Keep h h2 [o0] ∧ own_W Z h2 o0 fa f' c' w0 w1 ∧ own_nf f' c' w0 w1) (T.setTop (mkF m 0 #[.val (.ref o0)] [])) := by
  have N := Fr.nil n0
  have K := Keep.refl h [o0]
  obtain ⟨Fl, Fw, Ff, Fs, Fc, Aw⟩ := hW
  refine g_aloadN X B tr11_d0 (pc' := 1) rfl (v := (.ref o0)) rfl rfl ?_
  refine g_getF X B (B.w 48 rfl) Via.refl eT Fc tr11_d1 (pc' := 4) rfl (fun T1 X1 e1 => ?_)
  refine g_if_le X1 B tr11_d4 (pcT := 41) (pcF := 7) (by decide) rfl rfl (fun c4_0 => ?_) (fun c4_0 => ?_)
  · refine g_aloadN X1 B tr11_d7 (pc' := 8) rfl (v := (.ref o0)) rfl rfl ?_
    refine g_getF X1 B (B.w 14 rfl) Via.refl e1 Fw tr11_d8 (pc' := 11) rfl (fun T2 X2 e2 => ?_)
    refine g_aloadN X2 B tr11_d11 (pc' := 12) rfl (v := (.ref o0)) rfl rfl ?_
    refine g_getF X2 B (B.w 54 rfl) Via.refl e2 Fs tr11_d12 (pc' := 15) rfl (fun T3 X3 e3 => ?_)
    refine g_aloadN X3 B tr11_d15 (pc' := 16) rfl (v := (.ref o0)) rfl rfl ?_
    refine g_getF X3 B (B.w 48 rfl) Via.refl e3 Fc tr11_d16 (pc' := 19) rfl (fun T4 X4 e4 => ?_)
    refine g_iadd X4 B tr11_d19 (pc' := 20) rfl ?_
    refine g_iconst X4 B tr11_d20 (pc' := 21) rfl (v := (1 : Int32)) (by decide) ?_
    refine g_isub X4 B tr11_d21 (pc' := 22) rfl ?_
    refine g_laload X4 B 1 e4 Aw (by decide) (by decide) (v := (.long w1)) rfl tr11_d22 (pc' := 23) rfl ?_
    refine g_lconst X4 B tr11_d23 (pc' := 24) rfl (v := (0 : Int64)) (by decide) ?_
    refine g_lcmp_ne X4 B tr11_d24 tr11_d25 (pcT := 41) (pcF := 28) (by decide) rfl rfl (fun c24_1 => ?_) (fun c24_1 => ?_)
    · refine g_aloadN X4 B tr11_d28 (pc' := 29) rfl (v := (.ref o0)) rfl rfl ?_
      refine g_dup X4 B tr11_d29 (pc' := 30) rfl rfl ?_
      refine g_getF X4 B (B.w 48 rfl) Via.refl e4 Fc tr11_d30 (pc' := 33) rfl (fun T5 X5 e5 => ?_)
      refine g_iconst X5 B tr11_d33 (pc' := 34) rfl (v := (1 : Int32)) (by decide) ?_
      refine g_isub X5 B tr11_d34 (pc' := 35) rfl ?_
      refine g_putF X5 B (B.w 48 rfl) Via.refl e5 Fc hE (Or.inl (B.w 49 rfl)) (B.w 1 rfl) (ty := .int) (by decide) rfl rfl tr11_d35 (pc' := 38) rfl (fun T6 h6 X6 e6 W6 => ?_)
      have N6 := Fr.snoc X6 N g0
      have E_o0_6 := hE.wr W6
      have F_o0_listed_6 := Fl.other W6 (Or.inr (slot_ne (Or.inl (B.w 11 rfl)) (Or.inl (B.w 49 rfl)) (by decide) (t := (.array .int)) (t' := .int) (by decide) (by decide)))
      have F_o0_words_6 := Fw.other W6 (Or.inr (slot_ne (Or.inl (B.w 15 rfl)) (Or.inl (B.w 49 rfl)) (by decide) (t := (.array .long)) (t' := .int) (by decide) (by decide)))
      have A_fa_6 := Aw.other W6 (Ne.symm noa)
      have F_o0_firstWord_6 := Ff.other W6 (Or.inr (slot_ne (Or.inl (B.w 47 rfl)) (Or.inl (B.w 49 rfl)) (by decide) (t := .int) (t' := .int) (by decide) (by decide)))
      have F_o0_start_6 := Fs.other W6 (Or.inr (slot_ne (Or.inl (B.w 55 rfl)) (Or.inl (B.w 49 rfl)) (by decide) (t := .int) (t' := .int) (by decide) (by decide)))
      have F_o0_count_6 := Fc.same W6
      have Zs_6 := Nat.le_trans Zs (Keep.of_wr W6).1
      have K_6 := K.wr W6 (Or.inl (List.mem_of_getElem? (i := 0) rfl))
      refine g_goto X6 B tr11_d38 (pc' := 0) (by decide) rfl ?_
      refine g_aloadN X6 B tr11_d0 (pc' := 1) rfl (v := (.ref o0)) rfl rfl ?_
      refine g_getF X6 B (B.w 48 rfl) Via.refl e6 F_o0_count_6 tr11_d1 (pc' := 4) rfl (fun T7 X7 e7 => ?_)
      refine g_if_le X7 B tr11_d4 (pcT := 41) (pcF := 7) (by decide) rfl rfl (fun c4_2 => ?_) (fun c4_2 => ?_)
      · exact absurd c4_2 (by decide)
      · refine g_aloadN X7 B tr11_d41 (pc' := 42) rfl (v := (.ref o0)) rfl rfl ?_
        refine g_getF X7 B (B.w 48 rfl) Via.refl e7 F_o0_count_6 tr11_d42 (pc' := 45) rfl (fun T8 X8 e8 => ?_)
        refine g_if_le X8 B tr11_d45 (pcT := 95) (pcF := 48) (by decide) rfl rfl (fun c45_3 => ?_) (fun c45_3 => ?_)
        · exact absurd c45_3 (by decide)
        · exact g_ret0 X8 B rfl tr11_d95 (by decide) (by decide) (by rw [e8]; exact ⟨(1 : Int32), (0 : Int32), rfl, N6, K_6, ⟨F_o0_listed_6, F_o0_words_6, F_o0_firstWord_6, F_o0_start_6, (by have e : ((1 : Int32) - (1 : Int32)) = (0 : Int32) := (by decide); have z := F_o0_count_6; rw [e] at z; exact z), A_fa_6⟩, (by simp +decide [own_nf, c24_1, z0])⟩)
    · refine g_aloadN X4 B tr11_d41 (pc' := 42) rfl (v := (.ref o0)) rfl rfl ?_
      refine g_getF X4 B (B.w 48 rfl) Via.refl e4 Fc tr11_d42 (pc' := 45) rfl (fun T9 X9 e9 => ?_)
      refine g_if_le X9 B tr11_d45 (pcT := 95) (pcF := 48) (by decide) rfl rfl (fun c45_2 => ?_) (fun c45_2 => ?_)
      · refine g_aloadN X9 B tr11_d48 (pc' := 49) rfl (v := (.ref o0)) rfl rfl ?_
        refine g_getF X9 B (B.w 14 rfl) Via.refl e9 Fw tr11_d49 (pc' := 52) rfl (fun T10 X10 e10 => ?_)
        refine g_aloadN X10 B tr11_d52 (pc' := 53) rfl (v := (.ref o0)) rfl rfl ?_
        refine g_getF X10 B (B.w 54 rfl) Via.refl e10 Fs tr11_d53 (pc' := 56) rfl (fun T11 X11 e11 => ?_)
        refine g_laload X11 B 1 e11 Aw (by decide) (by decide) (v := (.long w1)) rfl tr11_d56 (pc' := 57) rfl ?_
        refine g_lconst X11 B tr11_d57 (pc' := 58) rfl (v := (0 : Int64)) (by decide) ?_
        refine g_lcmp_ne X11 B tr11_d58 tr11_d59 (pcT := 95) (pcF := 62) (by decide) rfl rfl (fun c58_3 => ?_) (fun c58_3 => ?_)
        · refine g_aloadN X11 B tr11_d62 (pc' := 63) rfl (v := (.ref o0)) rfl rfl ?_
          refine g_dup X11 B tr11_d63 (pc' := 64) rfl rfl ?_
          refine g_getF X11 B (B.w 54 rfl) Via.refl e11 Fs tr11_d64 (pc' := 67) rfl (fun T12 X12 e12 => ?_)
          refine g_iconst X12 B tr11_d67 (pc' := 68) rfl (v := (1 : Int32)) (by decide) ?_
          refine g_iadd X12 B tr11_d68 (pc' := 69) rfl ?_
          refine g_putF X12 B (B.w 54 rfl) Via.refl e12 Fs hE (Or.inl (B.w 55 rfl)) (B.w 1 rfl) (ty := .int) (by decide) rfl rfl tr11_d69 (pc' := 72) rfl (fun T13 h13 X13 e13 W13 => ?_)
          have N13 := Fr.snoc X13 N g0
          have E_o0_13 := hE.wr W13
          have F_o0_listed_13 := Fl.other W13 (Or.inr (slot_ne (Or.inl (B.w 11 rfl)) (Or.inl (B.w 55 rfl)) (by decide) (t := (.array .int)) (t' := .int) (by decide) (by decide)))
          have F_o0_words_13 := Fw.other W13 (Or.inr (slot_ne (Or.inl (B.w 15 rfl)) (Or.inl (B.w 55 rfl)) (by decide) (t := (.array .long)) (t' := .int) (by decide) (by decide)))
          have A_fa_13 := Aw.other W13 (Ne.symm noa)
          have F_o0_firstWord_13 := Ff.other W13 (Or.inr (slot_ne (Or.inl (B.w 47 rfl)) (Or.inl (B.w 55 rfl)) (by decide) (t := .int) (t' := .int) (by decide) (by decide)))
          have F_o0_start_13 := Fs.same W13
          have F_o0_count_13 := Fc.other W13 (Or.inr (slot_ne (Or.inl (B.w 49 rfl)) (Or.inl (B.w 55 rfl)) (by decide) (t := .int) (t' := .int) (by decide) (by decide)))
          have Zs_13 := Nat.le_trans Zs (Keep.of_wr W13).1
          have K_13 := K.wr W13 (Or.inl (List.mem_of_getElem? (i := 0) rfl))
          refine g_aloadN X13 B tr11_d72 (pc' := 73) rfl (v := (.ref o0)) rfl rfl ?_
          refine g_dup X13 B tr11_d73 (pc' := 74) rfl rfl ?_
          refine g_getF X13 B (B.w 46 rfl) Via.refl e13 F_o0_firstWord_13 tr11_d74 (pc' := 77) rfl (fun T14 X14 e14 => ?_)
          refine g_iconst X14 B tr11_d77 (pc' := 78) rfl (v := (1 : Int32)) (by decide) ?_
          refine g_iadd X14 B tr11_d78 (pc' := 79) rfl ?_
          refine g_putF X14 B (B.w 46 rfl) Via.refl e14 F_o0_firstWord_13 E_o0_13 (Or.inl (B.w 47 rfl)) (B.w 1 rfl) (ty := .int) (by decide) rfl rfl tr11_d79 (pc' := 82) rfl (fun T15 h15 X15 e15 W15 => ?_)
          have N15 := Fr.snoc X15 N13 g0
          have E_o0_15 := E_o0_13.wr W15
          have F_o0_listed_15 := F_o0_listed_13.other W15 (Or.inr (slot_ne (Or.inl (B.w 11 rfl)) (Or.inl (B.w 47 rfl)) (by decide) (t := (.array .int)) (t' := .int) (by decide) (by decide)))
          have F_o0_words_15 := F_o0_words_13.other W15 (Or.inr (slot_ne (Or.inl (B.w 15 rfl)) (Or.inl (B.w 47 rfl)) (by decide) (t := (.array .long)) (t' := .int) (by decide) (by decide)))
          have A_fa_15 := A_fa_13.other W15 (Ne.symm noa)
          have F_o0_firstWord_15 := F_o0_firstWord_13.same W15
          have F_o0_start_15 := F_o0_start_13.other W15 (Or.inr (slot_ne (Or.inl (B.w 55 rfl)) (Or.inl (B.w 47 rfl)) (by decide) (t := .int) (t' := .int) (by decide) (by decide)))
          have F_o0_count_15 := F_o0_count_13.other W15 (Or.inr (slot_ne (Or.inl (B.w 49 rfl)) (Or.inl (B.w 47 rfl)) (by decide) (t := .int) (t' := .int) (by decide) (by decide)))
          have Zs_15 := Nat.le_trans Zs_13 (Keep.of_wr W15).1
          have K_15 := K_13.wr W15 (Or.inl (List.mem_of_getElem? (i := 0) rfl))
          refine g_aloadN X15 B tr11_d82 (pc' := 83) rfl (v := (.ref o0)) rfl rfl ?_
          refine g_dup X15 B tr11_d83 (pc' := 84) rfl rfl ?_
          refine g_getF X15 B (B.w 48 rfl) Via.refl e15 F_o0_count_15 tr11_d84 (pc' := 87) rfl (fun T16 X16 e16 => ?_)
          refine g_iconst X16 B tr11_d87 (pc' := 88) rfl (v := (1 : Int32)) (by decide) ?_
          refine g_isub X16 B tr11_d88 (pc' := 89) rfl ?_
          refine g_putF X16 B (B.w 48 rfl) Via.refl e16 F_o0_count_15 E_o0_15 (Or.inl (B.w 49 rfl)) (B.w 1 rfl) (ty := .int) (by decide) rfl rfl tr11_d89 (pc' := 92) rfl (fun T17 h17 X17 e17 W17 => ?_)
          have N17 := Fr.snoc X17 N15 g0
          have E_o0_17 := E_o0_15.wr W17
          have F_o0_listed_17 := F_o0_listed_15.other W17 (Or.inr (slot_ne (Or.inl (B.w 11 rfl)) (Or.inl (B.w 49 rfl)) (by decide) (t := (.array .int)) (t' := .int) (by decide) (by decide)))
          have F_o0_words_17 := F_o0_words_15.other W17 (Or.inr (slot_ne (Or.inl (B.w 15 rfl)) (Or.inl (B.w 49 rfl)) (by decide) (t := (.array .long)) (t' := .int) (by decide) (by decide)))
          have A_fa_17 := A_fa_15.other W17 (Ne.symm noa)
          have F_o0_firstWord_17 := F_o0_firstWord_15.other W17 (Or.inr (slot_ne (Or.inl (B.w 47 rfl)) (Or.inl (B.w 49 rfl)) (by decide) (t := .int) (t' := .int) (by decide) (by decide)))
          have F_o0_start_17 := F_o0_start_15.other W17 (Or.inr (slot_ne (Or.inl (B.w 55 rfl)) (Or.inl (B.w 49 rfl)) (by decide) (t := .int) (t' := .int) (by decide) (by decide)))
          have F_o0_count_17 := F_o0_count_15.same W17
          have Zs_17 := Nat.le_trans Zs_15 (Keep.of_wr W17).1
          have K_17 := K_15.wr W17 (Or.inl (List.mem_of_getElem? (i := 0) rfl))
          refine g_goto X17 B tr11_d92 (pc' := 41) (by decide) rfl ?_
          refine g_aloadN X17 B tr11_d41 (pc' := 42) rfl (v := (.ref o0)) rfl rfl ?_
          refine g_getF X17 B (B.w 48 rfl) Via.refl e17 F_o0_count_17 tr11_d42 (pc' := 45) rfl (fun T18 X18 e18 => ?_)
          refine g_if_le X18 B tr11_d45 (pcT := 95) (pcF := 48) (by decide) rfl rfl (fun c45_4 => ?_) (fun c45_4 => ?_)
          · exact absurd c45_4 (by decide)
          · exact absurd c58_3 c24_1
        · exact g_ret0 X11 B rfl tr11_d95 (by decide) (by decide) (by rw [e11]; exact ⟨(1 : Int32), (1 : Int32), rfl, N, K, ⟨Fl, Fw, Ff, Fs, Fc, Aw⟩, (by simp +decide [own_nf, c24_1, c58_3, z0])⟩)
      · exact absurd (by decide) c45_2
  · exact absurd (by decide) c4_0
theorem tr11_met (l : Launch) (Z : State) (a0 : Array Value) (hw : ∀ d ∈ tables_1, d.before a0 Z = true) (ws : List Jvm.Cond) (h : Heap) (o0 : Addr) (fa : Addr) (w0 : Int64) (w1 : Int64) (n0 : Nat) (Zs : n0 ≤ h.size) (hE : Exa Z h o0 "com/example/unseen_nodes/unseennodes/NodeSet") (g0 : n0 ≤ o0) (ga : n0 ≤ fa) (noa : o0 ≠ fa) (hW : own_W Z h o0 fa (1 : Int32) (1 : Int32) w0 w1) (z0 : w0 = 0) :
    Met l Z (⟨"com/example/unseen_nodes/unseennodes/NodeSet", "trim", "()V"⟩ : MethodName) prog_78_method_28_code 1 none ws (⟨0, 0, 0, 0⟩ : Room) #[(.ref o0)] h (fun v h2 L => ∃ f' c' : Int32, v = none ∧ Fr n0 L ∧ Keep h h2 [o0] ∧ own_W Z h2 o0 fa f' c' w0 w1 ∧ own_nf f' c' w0 w1) :=
  met_of own_pn_tr11 hw fun p e s m below meth c T X B eT => Go.top (own_ef_tr11 m o0) (tr11_go X B eT o0 fa w0 w1 n0 Zs hE g0 ga noa hW z0)
theorem tr00_d0 : decode prog_78_method_28_code 0 = .ok (.aload_n 0, 1) := by decide +kernel
theorem tr00_d1 : decode prog_78_method_28_code 1 = .ok (.getfield 24, 3) := by decide +kernel
theorem tr00_d4 : decode prog_78_method_28_code 4 = .ok (.ifCond .le 37, 3) := by decide +kernel
theorem tr00_d41 : decode prog_78_method_28_code 41 = .ok (.aload_n 0, 1) := by decide +kernel
theorem tr00_d42 : decode prog_78_method_28_code 42 = .ok (.getfield 24, 3) := by decide +kernel
theorem tr00_d45 : decode prog_78_method_28_code 45 = .ok (.ifCond .le 50, 3) := by decide +kernel
theorem tr00_d95 : decode prog_78_method_28_code 95 = .ok (.return_, 1) := by decide +kernel
theorem own_pn_tr00 : plainFor (⟨"com/example/unseen_nodes/unseennodes/NodeSet", "trim", "()V"⟩ : MethodName) = true := plainFor_of_name (by first | (simp [plainName, overriddenIn]; done) | decide +kernel)
theorem own_ef_tr00 (m : MethodId) (o0 : Addr) : entryFrame m #[(.ref o0)] 1 = (mkF m 0 #[.val (.ref o0)] []) := by first | (simp [entryFrame, mkF, argsToLocals, Value.category]; done) | rfl
set_option maxRecDepth 65536 in
set_option maxHeartbeats 40000000 in
theorem tr00_go {p : Program} {l : Launch} {e : Env} {s : State} {m : MethodId} {args : Array Value} {below : List Frame} {meth : Method} {c : Code} {T : State} {Z : State} {a0 : Array Value} {h : Heap} (X : Stand p l e (⟨0, 0, 0, 0⟩ : Room) s m args below meth c T [] 0 0) (B : Bdy p s m meth c Z a0 "com/example/unseen_nodes/unseennodes/NodeSet" "trim" prog_78_method_28_code 1 none tables_1) (eT : T.heap = h) (o0 : Addr) (fa : Addr) (w0 : Int64) (w1 : Int64) (n0 : Nat) (Zs : n0 ≤ h.size) (hE : Exa Z h o0 "com/example/unseen_nodes/unseennodes/NodeSet") (g0 : n0 ≤ o0) (ga : n0 ≤ fa) (noa : o0 ≠ fa) (hW : own_W Z h o0 fa (0 : Int32) (0 : Int32) w0 w1) (z0 : w0 = 0) (z1 : w1 = 0) :
    Go p e below s 0 0 (fun v h2 L => ∃ f' c' : Int32, v = none ∧ Fr n0 L ∧ Keep h h2 [o0] ∧ own_W Z h2 o0 fa f' c' w0 w1 ∧ own_nf f' c' w0 w1) (T.setTop (mkF m 0 #[.val (.ref o0)] [])) := by
  have N := Fr.nil n0
  have K := Keep.refl h [o0]
  obtain ⟨Fl, Fw, Ff, Fs, Fc, Aw⟩ := hW
  refine g_aloadN X B tr00_d0 (pc' := 1) rfl (v := (.ref o0)) rfl rfl ?_
  refine g_getF X B (B.w 48 rfl) Via.refl eT Fc tr00_d1 (pc' := 4) rfl (fun T1 X1 e1 => ?_)
  refine g_if_le X1 B tr00_d4 (pcT := 41) (pcF := 7) (by decide) rfl rfl (fun c4_0 => ?_) (fun c4_0 => ?_)
  · exact absurd c4_0 (by decide)
  · refine g_aloadN X1 B tr00_d41 (pc' := 42) rfl (v := (.ref o0)) rfl rfl ?_
    refine g_getF X1 B (B.w 48 rfl) Via.refl e1 Fc tr00_d42 (pc' := 45) rfl (fun T2 X2 e2 => ?_)
    refine g_if_le X2 B tr00_d45 (pcT := 95) (pcF := 48) (by decide) rfl rfl (fun c45_1 => ?_) (fun c45_1 => ?_)
    · exact absurd c45_1 (by decide)
    · exact g_ret0 X2 B rfl tr00_d95 (by decide) (by decide) (by rw [e2]; exact ⟨(0 : Int32), (0 : Int32), rfl, N, K, ⟨Fl, Fw, Ff, Fs, Fc, Aw⟩, (by simp +decide [own_nf, z0, z1])⟩)
theorem tr00_met (l : Launch) (Z : State) (a0 : Array Value) (hw : ∀ d ∈ tables_1, d.before a0 Z = true) (ws : List Jvm.Cond) (h : Heap) (o0 : Addr) (fa : Addr) (w0 : Int64) (w1 : Int64) (n0 : Nat) (Zs : n0 ≤ h.size) (hE : Exa Z h o0 "com/example/unseen_nodes/unseennodes/NodeSet") (g0 : n0 ≤ o0) (ga : n0 ≤ fa) (noa : o0 ≠ fa) (hW : own_W Z h o0 fa (0 : Int32) (0 : Int32) w0 w1) (z0 : w0 = 0) (z1 : w1 = 0) :
    Met l Z (⟨"com/example/unseen_nodes/unseennodes/NodeSet", "trim", "()V"⟩ : MethodName) prog_78_method_28_code 1 none ws (⟨0, 0, 0, 0⟩ : Room) #[(.ref o0)] h (fun v h2 L => ∃ f' c' : Int32, v = none ∧ Fr n0 L ∧ Keep h h2 [o0] ∧ own_W Z h2 o0 fa f' c' w0 w1 ∧ own_nf f' c' w0 w1) :=
  met_of own_pn_tr00 hw fun p e s m below meth c T X B eT => Go.top (own_ef_tr00 m o0) (tr00_go X B eT o0 fa w0 w1 n0 Zs hE g0 ga noa hW z0 z1)
theorem tr10_d0 : decode prog_78_method_28_code 0 = .ok (.aload_n 0, 1) := by decide +kernel
theorem tr10_d1 : decode prog_78_method_28_code 1 = .ok (.getfield 24, 3) := by decide +kernel
theorem tr10_d4 : decode prog_78_method_28_code 4 = .ok (.ifCond .le 37, 3) := by decide +kernel
theorem tr10_d41 : decode prog_78_method_28_code 41 = .ok (.aload_n 0, 1) := by decide +kernel
theorem tr10_d42 : decode prog_78_method_28_code 42 = .ok (.getfield 24, 3) := by decide +kernel
theorem tr10_d45 : decode prog_78_method_28_code 45 = .ok (.ifCond .le 50, 3) := by decide +kernel
theorem tr10_d95 : decode prog_78_method_28_code 95 = .ok (.return_, 1) := by decide +kernel
theorem own_pn_tr10 : plainFor (⟨"com/example/unseen_nodes/unseennodes/NodeSet", "trim", "()V"⟩ : MethodName) = true := plainFor_of_name (by first | (simp [plainName, overriddenIn]; done) | decide +kernel)
theorem own_ef_tr10 (m : MethodId) (o0 : Addr) : entryFrame m #[(.ref o0)] 1 = (mkF m 0 #[.val (.ref o0)] []) := by first | (simp [entryFrame, mkF, argsToLocals, Value.category]; done) | rfl
set_option maxRecDepth 65536 in
set_option maxHeartbeats 40000000 in
theorem tr10_go {p : Program} {l : Launch} {e : Env} {s : State} {m : MethodId} {args : Array Value} {below : List Frame} {meth : Method} {c : Code} {T : State} {Z : State} {a0 : Array Value} {h : Heap} (X : Stand p l e (⟨0, 0, 0, 0⟩ : Room) s m args below meth c T [] 0 0) (B : Bdy p s m meth c Z a0 "com/example/unseen_nodes/unseennodes/NodeSet" "trim" prog_78_method_28_code 1 none tables_1) (eT : T.heap = h) (o0 : Addr) (fa : Addr) (w0 : Int64) (w1 : Int64) (n0 : Nat) (Zs : n0 ≤ h.size) (hE : Exa Z h o0 "com/example/unseen_nodes/unseennodes/NodeSet") (g0 : n0 ≤ o0) (ga : n0 ≤ fa) (noa : o0 ≠ fa) (hW : own_W Z h o0 fa (1 : Int32) (0 : Int32) w0 w1) (z0 : w0 = 0) (z1 : w1 = 0) :
    Go p e below s 0 0 (fun v h2 L => ∃ f' c' : Int32, v = none ∧ Fr n0 L ∧ Keep h h2 [o0] ∧ own_W Z h2 o0 fa f' c' w0 w1 ∧ own_nf f' c' w0 w1) (T.setTop (mkF m 0 #[.val (.ref o0)] [])) := by
  have N := Fr.nil n0
  have K := Keep.refl h [o0]
  obtain ⟨Fl, Fw, Ff, Fs, Fc, Aw⟩ := hW
  refine g_aloadN X B tr10_d0 (pc' := 1) rfl (v := (.ref o0)) rfl rfl ?_
  refine g_getF X B (B.w 48 rfl) Via.refl eT Fc tr10_d1 (pc' := 4) rfl (fun T1 X1 e1 => ?_)
  refine g_if_le X1 B tr10_d4 (pcT := 41) (pcF := 7) (by decide) rfl rfl (fun c4_0 => ?_) (fun c4_0 => ?_)
  · exact absurd c4_0 (by decide)
  · refine g_aloadN X1 B tr10_d41 (pc' := 42) rfl (v := (.ref o0)) rfl rfl ?_
    refine g_getF X1 B (B.w 48 rfl) Via.refl e1 Fc tr10_d42 (pc' := 45) rfl (fun T2 X2 e2 => ?_)
    refine g_if_le X2 B tr10_d45 (pcT := 95) (pcF := 48) (by decide) rfl rfl (fun c45_1 => ?_) (fun c45_1 => ?_)
    · exact absurd c45_1 (by decide)
    · exact g_ret0 X2 B rfl tr10_d95 (by decide) (by decide) (by rw [e2]; exact ⟨(1 : Int32), (0 : Int32), rfl, N, K, ⟨Fl, Fw, Ff, Fs, Fc, Aw⟩, (by simp +decide [own_nf, z0, z1])⟩)
theorem tr10_met (l : Launch) (Z : State) (a0 : Array Value) (hw : ∀ d ∈ tables_1, d.before a0 Z = true) (ws : List Jvm.Cond) (h : Heap) (o0 : Addr) (fa : Addr) (w0 : Int64) (w1 : Int64) (n0 : Nat) (Zs : n0 ≤ h.size) (hE : Exa Z h o0 "com/example/unseen_nodes/unseennodes/NodeSet") (g0 : n0 ≤ o0) (ga : n0 ≤ fa) (noa : o0 ≠ fa) (hW : own_W Z h o0 fa (1 : Int32) (0 : Int32) w0 w1) (z0 : w0 = 0) (z1 : w1 = 0) :
    Met l Z (⟨"com/example/unseen_nodes/unseennodes/NodeSet", "trim", "()V"⟩ : MethodName) prog_78_method_28_code 1 none ws (⟨0, 0, 0, 0⟩ : Room) #[(.ref o0)] h (fun v h2 L => ∃ f' c' : Int32, v = none ∧ Fr n0 L ∧ Keep h h2 [o0] ∧ own_W Z h2 o0 fa f' c' w0 w1 ∧ own_nf f' c' w0 w1) :=
  met_of own_pn_tr10 hw fun p e s m below meth c T X B eT => Go.top (own_ef_tr10 m o0) (tr10_go X B eT o0 fa w0 w1 n0 Zs hE g0 ga noa hW z0 z1)
theorem tr20_d0 : decode prog_78_method_28_code 0 = .ok (.aload_n 0, 1) := by decide +kernel
theorem tr20_d1 : decode prog_78_method_28_code 1 = .ok (.getfield 24, 3) := by decide +kernel
theorem tr20_d4 : decode prog_78_method_28_code 4 = .ok (.ifCond .le 37, 3) := by decide +kernel
theorem tr20_d41 : decode prog_78_method_28_code 41 = .ok (.aload_n 0, 1) := by decide +kernel
theorem tr20_d42 : decode prog_78_method_28_code 42 = .ok (.getfield 24, 3) := by decide +kernel
theorem tr20_d45 : decode prog_78_method_28_code 45 = .ok (.ifCond .le 50, 3) := by decide +kernel
theorem tr20_d95 : decode prog_78_method_28_code 95 = .ok (.return_, 1) := by decide +kernel
theorem own_pn_tr20 : plainFor (⟨"com/example/unseen_nodes/unseennodes/NodeSet", "trim", "()V"⟩ : MethodName) = true := plainFor_of_name (by first | (simp [plainName, overriddenIn]; done) | decide +kernel)
theorem own_ef_tr20 (m : MethodId) (o0 : Addr) : entryFrame m #[(.ref o0)] 1 = (mkF m 0 #[.val (.ref o0)] []) := by first | (simp [entryFrame, mkF, argsToLocals, Value.category]; done) | rfl
set_option maxRecDepth 65536 in
set_option maxHeartbeats 40000000 in
theorem tr20_go {p : Program} {l : Launch} {e : Env} {s : State} {m : MethodId} {args : Array Value} {below : List Frame} {meth : Method} {c : Code} {T : State} {Z : State} {a0 : Array Value} {h : Heap} (X : Stand p l e (⟨0, 0, 0, 0⟩ : Room) s m args below meth c T [] 0 0) (B : Bdy p s m meth c Z a0 "com/example/unseen_nodes/unseennodes/NodeSet" "trim" prog_78_method_28_code 1 none tables_1) (eT : T.heap = h) (o0 : Addr) (fa : Addr) (w0 : Int64) (w1 : Int64) (n0 : Nat) (Zs : n0 ≤ h.size) (hE : Exa Z h o0 "com/example/unseen_nodes/unseennodes/NodeSet") (g0 : n0 ≤ o0) (ga : n0 ≤ fa) (noa : o0 ≠ fa) (hW : own_W Z h o0 fa (2 : Int32) (0 : Int32) w0 w1) (z0 : w0 = 0) (z1 : w1 = 0) :
    Go p e below s 0 0 (fun v h2 L => ∃ f' c' : Int32, v = none ∧ Fr n0 L ∧ Keep h h2 [o0] ∧ own_W Z h2 o0 fa f' c' w0 w1 ∧ own_nf f' c' w0 w1) (T.setTop (mkF m 0 #[.val (.ref o0)] [])) := by
  have N := Fr.nil n0
  have K := Keep.refl h [o0]
  obtain ⟨Fl, Fw, Ff, Fs, Fc, Aw⟩ := hW
  refine g_aloadN X B tr20_d0 (pc' := 1) rfl (v := (.ref o0)) rfl rfl ?_
  refine g_getF X B (B.w 48 rfl) Via.refl eT Fc tr20_d1 (pc' := 4) rfl (fun T1 X1 e1 => ?_)
  refine g_if_le X1 B tr20_d4 (pcT := 41) (pcF := 7) (by decide) rfl rfl (fun c4_0 => ?_) (fun c4_0 => ?_)
  · exact absurd c4_0 (by decide)
  · refine g_aloadN X1 B tr20_d41 (pc' := 42) rfl (v := (.ref o0)) rfl rfl ?_
    refine g_getF X1 B (B.w 48 rfl) Via.refl e1 Fc tr20_d42 (pc' := 45) rfl (fun T2 X2 e2 => ?_)
    refine g_if_le X2 B tr20_d45 (pcT := 95) (pcF := 48) (by decide) rfl rfl (fun c45_1 => ?_) (fun c45_1 => ?_)
    · exact absurd c45_1 (by decide)
    · exact g_ret0 X2 B rfl tr20_d95 (by decide) (by decide) (by rw [e2]; exact ⟨(2 : Int32), (0 : Int32), rfl, N, K, ⟨Fl, Fw, Ff, Fs, Fc, Aw⟩, (by simp +decide [own_nf, z0, z1])⟩)
theorem tr20_met (l : Launch) (Z : State) (a0 : Array Value) (hw : ∀ d ∈ tables_1, d.before a0 Z = true) (ws : List Jvm.Cond) (h : Heap) (o0 : Addr) (fa : Addr) (w0 : Int64) (w1 : Int64) (n0 : Nat) (Zs : n0 ≤ h.size) (hE : Exa Z h o0 "com/example/unseen_nodes/unseennodes/NodeSet") (g0 : n0 ≤ o0) (ga : n0 ≤ fa) (noa : o0 ≠ fa) (hW : own_W Z h o0 fa (2 : Int32) (0 : Int32) w0 w1) (z0 : w0 = 0) (z1 : w1 = 0) :
    Met l Z (⟨"com/example/unseen_nodes/unseennodes/NodeSet", "trim", "()V"⟩ : MethodName) prog_78_method_28_code 1 none ws (⟨0, 0, 0, 0⟩ : Room) #[(.ref o0)] h (fun v h2 L => ∃ f' c' : Int32, v = none ∧ Fr n0 L ∧ Keep h h2 [o0] ∧ own_W Z h2 o0 fa f' c' w0 w1 ∧ own_nf f' c' w0 w1) :=
  met_of own_pn_tr20 hw fun p e s m below meth c T X B eT => Go.top (own_ef_tr20 m o0) (tr20_go X B eT o0 fa w0 w1 n0 Zs hE g0 ga noa hW z0 z1)
theorem cw02_d0 : decode prog_78_method_10_code 0 = .ok (.aload_n 0, 1) := by decide +kernel
theorem cw02_d1 : decode prog_78_method_10_code 1 = .ok (.getfield 7, 3) := by decide +kernel
theorem cw02_d4 : decode prog_78_method_10_code 4 = .ok (.ifnull 55, 3) := by decide +kernel
theorem cw02_d59 : decode prog_78_method_10_code 59 = .ok (.iload_n 1, 1) := by decide +kernel
theorem cw02_d60 : decode prog_78_method_10_code 60 = .ok (.bipush 6, 2) := by decide +kernel
theorem cw02_d62 : decode prog_78_method_10_code 62 = .ok (.ishr, 1) := by decide +kernel
theorem cw02_d63 : decode prog_78_method_10_code 63 = .ok (.aload_n 0, 1) := by decide +kernel
theorem cw02_d64 : decode prog_78_method_10_code 64 = .ok (.getfield 20, 3) := by decide +kernel
theorem cw02_d67 : decode prog_78_method_10_code 67 = .ok (.isub, 1) := by decide +kernel
theorem cw02_d68 : decode prog_78_method_10_code 68 = .ok (.istore_n 2, 1) := by decide +kernel
theorem cw02_d69 : decode prog_78_method_10_code 69 = .ok (.iload_n 2, 1) := by decide +kernel
theorem cw02_d70 : decode prog_78_method_10_code 70 = .ok (.ifCond .lt 36, 3) := by decide +kernel
theorem cw02_d73 : decode prog_78_method_10_code 73 = .ok (.iload_n 2, 1) := by decide +kernel
theorem cw02_d74 : decode prog_78_method_10_code 74 = .ok (.aload_n 0, 1) := by decide +kernel
theorem cw02_d75 : decode prog_78_method_10_code 75 = .ok (.getfield 24, 3) := by decide +kernel
theorem cw02_d78 : decode prog_78_method_10_code 78 = .ok (.if_icmp .ge 28, 3) := by decide +kernel
theorem cw02_d81 : decode prog_78_method_10_code 81 = .ok (.aload_n 0, 1) := by decide +kernel
theorem cw02_d82 : decode prog_78_method_10_code 82 = .ok (.getfield 17, 3) := by decide +kernel
theorem cw02_d85 : decode prog_78_method_10_code 85 = .ok (.aload_n 0, 1) := by decide +kernel
theorem cw02_d86 : decode prog_78_method_10_code 86 = .ok (.getfield 55, 3) := by decide +kernel
theorem cw02_d89 : decode prog_78_method_10_code 89 = .ok (.iload_n 2, 1) := by decide +kernel
theorem cw02_d90 : decode prog_78_method_10_code 90 = .ok (.iadd, 1) := by decide +kernel
theorem cw02_d91 : decode prog_78_method_10_code 91 = .ok (.dup2, 1) := by decide +kernel
theorem cw02_d92 : decode prog_78_method_10_code 92 = .ok (.laload, 1) := by decide +kernel
theorem cw02_d93 : decode prog_78_method_10_code 93 = .ok (.lconst 1, 1) := by decide +kernel
theorem cw02_d94 : decode prog_78_method_10_code 94 = .ok (.iload_n 1, 1) := by decide +kernel
theorem cw02_d95 : decode prog_78_method_10_code 95 = .ok (.lshl, 1) := by decide +kernel
theorem cw02_d96 : decode prog_78_method_10_code 96 = .ok (.ldc2_w 75, 3) := by decide +kernel
theorem cw02_d99 : decode prog_78_method_10_code 99 = .ok (.lxor, 1) := by decide +kernel
theorem cw02_d100 : decode prog_78_method_10_code 100 = .ok (.land, 1) := by decide +kernel
theorem cw02_d101 : decode prog_78_method_10_code 101 = .ok (.lastore, 1) := by decide +kernel
theorem cw02_d102 : decode prog_78_method_10_code 102 = .ok (.aload_n 0, 1) := by decide +kernel
theorem cw02_d103 : decode prog_78_method_10_code 103 = .ok (.invokevirtual 27, 3) := by decide +kernel
theorem cw02_d106 : decode prog_78_method_10_code 106 = .ok (.return_, 1) := by decide +kernel
theorem own_pn_cw02 : plainFor (⟨"com/example/unseen_nodes/unseennodes/NodeSet", "clear", "(I)V"⟩ : MethodName) = true := plainFor_of_name (by first | (simp [plainName, overriddenIn]; done) | decide +kernel)
theorem own_ef_cw02 (m : MethodId) (o0 : Addr) (i1 : Int32) : entryFrame m #[(.ref o0), (.int i1)] 3 = (mkF m 0 #[.val (.ref o0), .val (.int i1), .unset] []) := by first | (simp [entryFrame, mkF, argsToLocals, Value.category]; done) | rfl
set_option maxRecDepth 65536 in
set_option maxHeartbeats 40000000 in
theorem cw02_go {p : Program} {l : Launch} {e : Env} {s : State} {m : MethodId} {args : Array Value} {below : List Frame} {meth : Method} {c : Code} {T : State} {Z : State} {a0 : Array Value} {h : Heap} (X : Stand p l e (⟨2, 0, 0, 34⟩ : Room) s m args below meth c T [] 0 0) (B : Bdy p s m meth c Z a0 "com/example/unseen_nodes/unseennodes/NodeSet" "clear" prog_78_method_10_code 3 none tables_1) (eT : T.heap = h) (o0 : Addr) (i1 : Int32) (fa : Addr) (w0 : Int64) (w1 : Int64) (n0 : Nat) (Zs : n0 ≤ h.size) (hE : Exa Z h o0 "com/example/unseen_nodes/unseennodes/NodeSet") (g0 : n0 ≤ o0) (ga : n0 ≤ fa) (noa : o0 ≠ fa) (hW : own_W Z h o0 fa (0 : Int32) (2 : Int32) w0 w1) (hnf : own_nf (0 : Int32) (2 : Int32) w0 w1) :
    Go p e below s 0 0 (fun v h2 L => ∃ f' c' : Int32, v = none ∧ Fr n0 L ∧ Keep h h2 [o0, fa] ∧ own_W Z h2 o0 fa f' c' (own_ck 0 i1 w0) (own_ck 1 i1 w1) ∧ own_nf f' c' (own_ck 0 i1 w0) (own_ck 1 i1 w1)) (T.setTop (mkF m 0 #[.val (.ref o0), .val (.int i1), .unset] [])) := by
  have N := Fr.nil n0
  have K := Keep.refl h [o0, fa]
  obtain ⟨Fl, Fw, Ff, Fs, Fc, Aw⟩ := hW
  refine g_aloadN X B cw02_d0 (pc' := 1) rfl (v := (.ref o0)) rfl rfl ?_
  refine g_getF X B (B.w 10 rfl) Via.refl eT Fl cw02_d1 (pc' := 4) rfl (fun T1 X1 e1 => ?_)
  refine g_ifnullN X1 B cw02_d4 (pc' := 59) (by decide) rfl ?_
  refine g_iloadN X1 B cw02_d59 (pc' := 60) rfl (v := i1) rfl ?_
  refine g_bipush X1 B cw02_d60 (pc' := 62) rfl (v := (6 : Int32)) (by decide) ?_
  refine g_ishr X1 B cw02_d62 (pc' := 63) rfl (z := ((i1 >>> ((6 : Int32) &&& 31)))) rfl ?_
  rcases own_hi (i1 >>> ((6 : Int32) &&& 31)) with hb | hb | hb
  · rw [hb]
    refine g_aloadN X1 B cw02_d63 (pc' := 64) rfl (v := (.ref o0)) rfl rfl ?_
    refine g_getF X1 B (B.w 46 rfl) Via.refl e1 Ff cw02_d64 (pc' := 67) rfl (fun T2 X2 e2 => ?_)
    refine g_isub X2 B cw02_d67 (pc' := 68) rfl ?_
    refine g_istoreN X2 B cw02_d68 (pc' := 69) rfl (Ls' := #[.val (.ref o0), .val (.int i1), .val (.int ((0 : Int32) - (0 : Int32)))]) rfl ?_
    refine g_iloadN X2 B cw02_d69 (pc' := 70) rfl (v := ((0 : Int32) - (0 : Int32))) rfl ?_
    refine g_if_lt X2 B cw02_d70 (pcT := 106) (pcF := 73) (by decide) rfl rfl (fun c70_0 => ?_) (fun c70_0 => ?_)
    · exact absurd c70_0 (by decide)
    · refine g_iloadN X2 B cw02_d73 (pc' := 74) rfl (v := ((0 : Int32) - (0 : Int32))) rfl ?_
      refine g_aloadN X2 B cw02_d74 (pc' := 75) rfl (v := (.ref o0)) rfl rfl ?_
      refine g_getF X2 B (B.w 48 rfl) Via.refl e2 Fc cw02_d75 (pc' := 78) rfl (fun T3 X3 e3 => ?_)
      refine g_icmp_ge X3 B cw02_d78 (pcT := 106) (pcF := 81) (by decide) rfl rfl (fun c78_1 => ?_) (fun c78_1 => ?_)
      · refine g_aloadN X3 B cw02_d81 (pc' := 82) rfl (v := (.ref o0)) rfl rfl ?_
        refine g_getF X3 B (B.w 14 rfl) Via.refl e3 Fw cw02_d82 (pc' := 85) rfl (fun T4 X4 e4 => ?_)
        refine g_aloadN X4 B cw02_d85 (pc' := 86) rfl (v := (.ref o0)) rfl rfl ?_
        refine g_getF X4 B (B.w 54 rfl) Via.refl e4 Fs cw02_d86 (pc' := 89) rfl (fun T5 X5 e5 => ?_)
        refine g_iloadN X5 B cw02_d89 (pc' := 90) rfl (v := ((0 : Int32) - (0 : Int32))) rfl ?_
        refine g_iadd X5 B cw02_d90 (pc' := 91) rfl ?_
        refine g_dup2 X5 B cw02_d91 (pc' := 92) rfl rfl rfl ?_
        refine g_laload X5 B 0 e5 Aw (by decide) (by decide) (v := (.long w0)) rfl cw02_d92 (pc' := 93) rfl ?_
        refine g_lconst X5 B cw02_d93 (pc' := 94) rfl (v := (1 : Int64)) (by decide) ?_
        refine g_iloadN X5 B cw02_d94 (pc' := 95) rfl (v := i1) rfl ?_
        refine g_lshl X5 B cw02_d95 (pc' := 96) rfl (z := (((1 : Int64) <<< (i1 &&& 63).toInt64))) rfl ?_
        refine g_ldc2 X5 B (B.w 56 rfl) cw02_d96 (pc' := 99) rfl ?_
        refine g_lxor X5 B cw02_d99 (pc' := 100) rfl ?_
        refine g_land X5 B cw02_d100 (pc' := 101) rfl ?_
        refine g_lastore X5 B 0 e5 Aw (by decide) (by decide) cw02_d101 (pc' := 102) rfl (fun T6 h6 X6 e6 W6 => ?_)
        have N6 := Fr.snoc X6 N ga
        have E_o0_6 := hE.wr W6
        have F_o0_listed_6 := Fl.other W6 (Or.inl noa)
        have F_o0_words_6 := Fw.other W6 (Or.inl noa)
        have A_fa_6 := Aw.set W6
        have F_o0_firstWord_6 := Ff.other W6 (Or.inl noa)
        have F_o0_start_6 := Fs.other W6 (Or.inl noa)
        have F_o0_count_6 := Fc.other W6 (Or.inl noa)
        have Zs_6 := Nat.le_trans Zs (Keep.of_wr W6).1
        have K_6 := K.wr W6 (Or.inl (List.mem_of_getElem? (i := 1) rfl))
        refine g_aloadN X6 B cw02_d102 (pc' := 103) rfl (v := (.ref o0)) rfl rfl ?_
        refine g_private X6 B e6 0 E_o0_6 (y := (⟨"com/example/unseen_nodes/unseennodes/NodeSet", "trim", "()V"⟩ : MethodName)) (argsL := []) (rest := []) (a := o0) (B.w 50 rfl) (B.w 1 rfl) (B.w 52 rfl) (B.w 51 rfl) (B.w 2 rfl) (B.w 53 rfl) (by decide) (tr02_met l Z a0 B.2.2.1 [] h6 o0 fa (w0 &&& (((1 : Int64) <<< (i1 &&& 63).toInt64) ^^^ (-1 : Int64))) w1 n0 Zs_6 E_o0_6 g0 ga noa ⟨F_o0_listed_6, F_o0_words_6, F_o0_firstWord_6, F_o0_start_6, F_o0_count_6, A_fa_6.eqw (fun j hj => by have q : j = 0 ∨ j = 1 := (by omega); rcases q with rfl | rfl <;> rfl)⟩ ) (by decide) (by decide) (by decide) (by decide) rfl (lenOf own_pd3 rfl) rfl (Nat.le_of_eq rfl) cw02_d103 (pc' := 106) rfl (fun T7 v7 L7 X7 Q7 => ?_)
        obtain ⟨f', c', rfl, Nq7, Kq7, Wq7, nf7⟩ := Q7
        have N7 := Fr.app N6 Nq7
        have E_o0_7 := E_o0_6.keep Kq7
        have A_fa_7 := A_fa_6.keep Kq7 (by simp only [List.mem_cons, List.not_mem_nil, or_false, not_or]; exact (Ne.symm noa))
        have Zs_7 := Nat.le_trans Zs_6 Kq7.1
        have K_7 := K_6.trans Kq7 (by intro x hx; simp only [List.mem_cons, List.not_mem_nil, or_false] at hx; subst hx; exact Or.inl (List.mem_of_getElem? (i := 0) rfl))
        show Go p e below s _ _ _ (T7.setTop (mkF m 106 #[.val (.ref o0), .val (.int i1), .val (.int ((0 : Int32) - (0 : Int32)))] []))
        rw [show own_ck 0 i1 w0 = (w0 &&& (((1 : Int64) <<< (i1 &&& 63).toInt64) ^^^ (-1 : Int64))) from if_pos hb, show own_ck 1 i1 w1 = w1 from if_neg (by rw [hb]; decide)]
        exact g_ret0 X7 B rfl cw02_d106 (by decide) (by decide) ⟨f', c', rfl, N7, K_7, Wq7, nf7⟩
      · exact absurd (by decide) c78_1
  · rw [hb]
    refine g_aloadN X1 B cw02_d63 (pc' := 64) rfl (v := (.ref o0)) rfl rfl ?_
    refine g_getF X1 B (B.w 46 rfl) Via.refl e1 Ff cw02_d64 (pc' := 67) rfl (fun T8 X8 e8 => ?_)
    refine g_isub X8 B cw02_d67 (pc' := 68) rfl ?_
    refine g_istoreN X8 B cw02_d68 (pc' := 69) rfl (Ls' := #[.val (.ref o0), .val (.int i1), .val (.int ((1 : Int32) - (0 : Int32)))]) rfl ?_
    refine g_iloadN X8 B cw02_d69 (pc' := 70) rfl (v := ((1 : Int32) - (0 : Int32))) rfl ?_
    refine g_if_lt X8 B cw02_d70 (pcT := 106) (pcF := 73) (by decide) rfl rfl (fun c70_0 => ?_) (fun c70_0 => ?_)
    · exact absurd c70_0 (by decide)
    · refine g_iloadN X8 B cw02_d73 (pc' := 74) rfl (v := ((1 : Int32) - (0 : Int32))) rfl ?_
      refine g_aloadN X8 B cw02_d74 (pc' := 75) rfl (v := (.ref o0)) rfl rfl ?_
      refine g_getF X8 B (B.w 48 rfl) Via.refl e8 Fc cw02_d75 (pc' := 78) rfl (fun T9 X9 e9 => ?_)
      refine g_icmp_ge X9 B cw02_d78 (pcT := 106) (pcF := 81) (by decide) rfl rfl (fun c78_1 => ?_) (fun c78_1 => ?_)
      · refine g_aloadN X9 B cw02_d81 (pc' := 82) rfl (v := (.ref o0)) rfl rfl ?_
        refine g_getF X9 B (B.w 14 rfl) Via.refl e9 Fw cw02_d82 (pc' := 85) rfl (fun T10 X10 e10 => ?_)
        refine g_aloadN X10 B cw02_d85 (pc' := 86) rfl (v := (.ref o0)) rfl rfl ?_
        refine g_getF X10 B (B.w 54 rfl) Via.refl e10 Fs cw02_d86 (pc' := 89) rfl (fun T11 X11 e11 => ?_)
        refine g_iloadN X11 B cw02_d89 (pc' := 90) rfl (v := ((1 : Int32) - (0 : Int32))) rfl ?_
        refine g_iadd X11 B cw02_d90 (pc' := 91) rfl ?_
        refine g_dup2 X11 B cw02_d91 (pc' := 92) rfl rfl rfl ?_
        refine g_laload X11 B 1 e11 Aw (by decide) (by decide) (v := (.long w1)) rfl cw02_d92 (pc' := 93) rfl ?_
        refine g_lconst X11 B cw02_d93 (pc' := 94) rfl (v := (1 : Int64)) (by decide) ?_
        refine g_iloadN X11 B cw02_d94 (pc' := 95) rfl (v := i1) rfl ?_
        refine g_lshl X11 B cw02_d95 (pc' := 96) rfl (z := (((1 : Int64) <<< (i1 &&& 63).toInt64))) rfl ?_
        refine g_ldc2 X11 B (B.w 56 rfl) cw02_d96 (pc' := 99) rfl ?_
        refine g_lxor X11 B cw02_d99 (pc' := 100) rfl ?_
        refine g_land X11 B cw02_d100 (pc' := 101) rfl ?_
        refine g_lastore X11 B 1 e11 Aw (by decide) (by decide) cw02_d101 (pc' := 102) rfl (fun T12 h12 X12 e12 W12 => ?_)
        have N12 := Fr.snoc X12 N ga
        have E_o0_12 := hE.wr W12
        have F_o0_listed_12 := Fl.other W12 (Or.inl noa)
        have F_o0_words_12 := Fw.other W12 (Or.inl noa)
        have A_fa_12 := Aw.set W12
        have F_o0_firstWord_12 := Ff.other W12 (Or.inl noa)
        have F_o0_start_12 := Fs.other W12 (Or.inl noa)
        have F_o0_count_12 := Fc.other W12 (Or.inl noa)
        have Zs_12 := Nat.le_trans Zs (Keep.of_wr W12).1
        have K_12 := K.wr W12 (Or.inl (List.mem_of_getElem? (i := 1) rfl))
        refine g_aloadN X12 B cw02_d102 (pc' := 103) rfl (v := (.ref o0)) rfl rfl ?_
        refine g_private X12 B e12 0 E_o0_12 (y := (⟨"com/example/unseen_nodes/unseennodes/NodeSet", "trim", "()V"⟩ : MethodName)) (argsL := []) (rest := []) (a := o0) (B.w 50 rfl) (B.w 1 rfl) (B.w 52 rfl) (B.w 51 rfl) (B.w 2 rfl) (B.w 53 rfl) (by decide) (tr02_met l Z a0 B.2.2.1 [] h12 o0 fa w0 (w1 &&& (((1 : Int64) <<< (i1 &&& 63).toInt64) ^^^ (-1 : Int64))) n0 Zs_12 E_o0_12 g0 ga noa ⟨F_o0_listed_12, F_o0_words_12, F_o0_firstWord_12, F_o0_start_12, F_o0_count_12, A_fa_12.eqw (fun j hj => by have q : j = 0 ∨ j = 1 := (by omega); rcases q with rfl | rfl <;> rfl)⟩ ) (by decide) (by decide) (by decide) (by decide) rfl (lenOf own_pd3 rfl) rfl (Nat.le_of_eq rfl) cw02_d103 (pc' := 106) rfl (fun T13 v13 L13 X13 Q13 => ?_)
        obtain ⟨f', c', rfl, Nq13, Kq13, Wq13, nf13⟩ := Q13
        have N13 := Fr.app N12 Nq13
        have E_o0_13 := E_o0_12.keep Kq13
        have A_fa_13 := A_fa_12.keep Kq13 (by simp only [List.mem_cons, List.not_mem_nil, or_false, not_or]; exact (Ne.symm noa))
        have Zs_13 := Nat.le_trans Zs_12 Kq13.1
        have K_13 := K_12.trans Kq13 (by intro x hx; simp only [List.mem_cons, List.not_mem_nil, or_false] at hx; subst hx; exact Or.inl (List.mem_of_getElem? (i := 0) rfl))
        show Go p e below s _ _ _ (T13.setTop (mkF m 106 #[.val (.ref o0), .val (.int i1), .val (.int ((1 : Int32) - (0 : Int32)))] []))
        rw [show own_ck 0 i1 w0 = w0 from if_neg (by rw [hb]; decide), show own_ck 1 i1 w1 = (w1 &&& (((1 : Int64) <<< (i1 &&& 63).toInt64) ^^^ (-1 : Int64))) from if_pos hb]
        exact g_ret0 X13 B rfl cw02_d106 (by decide) (by decide) ⟨f', c', rfl, N13, K_13, Wq13, nf13⟩
      · exact absurd (by decide) c78_1
  · refine g_aloadN X1 B cw02_d63 (pc' := 64) rfl (v := (.ref o0)) rfl rfl ?_
    refine g_getF X1 B (B.w 46 rfl) Via.refl e1 Ff cw02_d64 (pc' := 67) rfl (fun T14 X14 e14 => ?_)
    refine g_isub X14 B cw02_d67 (pc' := 68) rfl ?_
    refine g_istoreN X14 B cw02_d68 (pc' := 69) rfl (Ls' := #[.val (.ref o0), .val (.int i1), .val (.int (((i1 >>> ((6 : Int32) &&& 31))) - (0 : Int32)))]) rfl ?_
    refine g_iloadN X14 B cw02_d69 (pc' := 70) rfl (v := (((i1 >>> ((6 : Int32) &&& 31))) - (0 : Int32))) rfl ?_
    refine g_if_lt X14 B cw02_d70 (pcT := 106) (pcF := 73) (by decide) rfl rfl (fun c70_0 => ?_) (fun c70_0 => ?_)
    · have u0 : own_ck 0 i1 w0 = w0 := if_neg hb.1
      have u1 : own_ck 1 i1 w1 = w1 := if_neg hb.2
      rw [u0, u1]
      exact g_ret0 X14 B rfl cw02_d106 (by decide) (by decide) (by rw [e14]; exact ⟨_, _, rfl, N, K, ⟨Fl, Fw, Ff, Fs, Fc, Aw⟩, hnf⟩)
    · refine g_iloadN X14 B cw02_d73 (pc' := 74) rfl (v := (((i1 >>> ((6 : Int32) &&& 31))) - (0 : Int32))) rfl ?_
      refine g_aloadN X14 B cw02_d74 (pc' := 75) rfl (v := (.ref o0)) rfl rfl ?_
      refine g_getF X14 B (B.w 48 rfl) Via.refl e14 Fc cw02_d75 (pc' := 78) rfl (fun T15 X15 e15 => ?_)
      refine g_icmp_ge X15 B cw02_d78 (pcT := 106) (pcF := 81) (by decide) rfl rfl (fun c78_1 => ?_) (fun c78_1 => ?_)
      · exfalso; have e := c_isub (i1 >>> ((6 : Int32) &&& 31)) (0 : Int32); have r3 := (i1 >>> ((6 : Int32) &&& 31)).toInt_lt; have r4 := (i1 >>> ((6 : Int32) &&& 31)).le_toInt; have r1 := ((i1 >>> ((6 : Int32) &&& 31)) - (0 : Int32)).toInt_lt; have r2 := ((i1 >>> ((6 : Int32) &&& 31)) - (0 : Int32)).le_toInt; rw [Int32.lt_iff_toInt_lt] at c70_0 c78_1; have k0 : (0 : Int32).toInt = 0 := (by decide); have k1 : (2 : Int32).toInt = 2 := (by decide); have k2 : (0 : Int32).toInt = 0 := (by decide); have k3 : (1 : Int32).toInt = 1 := (by decide); rw [← Int32.toInt_inj, ← Int32.toInt_inj] at hb; omega
      · have u0 : own_ck 0 i1 w0 = w0 := if_neg hb.1
        have u1 : own_ck 1 i1 w1 = w1 := if_neg hb.2
        rw [u0, u1]
        exact g_ret0 X15 B rfl cw02_d106 (by decide) (by decide) (by rw [e15]; exact ⟨_, _, rfl, N, K, ⟨Fl, Fw, Ff, Fs, Fc, Aw⟩, hnf⟩)
theorem cw02_met (l : Launch) (Z : State) (a0 : Array Value) (hw : ∀ d ∈ tables_1, d.before a0 Z = true) (ws : List Jvm.Cond) (h : Heap) (o0 : Addr) (i1 : Int32) (fa : Addr) (w0 : Int64) (w1 : Int64) (n0 : Nat) (Zs : n0 ≤ h.size) (hE : Exa Z h o0 "com/example/unseen_nodes/unseennodes/NodeSet") (g0 : n0 ≤ o0) (ga : n0 ≤ fa) (noa : o0 ≠ fa) (hW : own_W Z h o0 fa (0 : Int32) (2 : Int32) w0 w1) (hnf : own_nf (0 : Int32) (2 : Int32) w0 w1) :
    Met l Z (⟨"com/example/unseen_nodes/unseennodes/NodeSet", "clear", "(I)V"⟩ : MethodName) prog_78_method_10_code 3 none ws (⟨2, 0, 0, 34⟩ : Room) #[(.ref o0), (.int i1)] h (fun v h2 L => ∃ f' c' : Int32, v = none ∧ Fr n0 L ∧ Keep h h2 [o0, fa] ∧ own_W Z h2 o0 fa f' c' (own_ck 0 i1 w0) (own_ck 1 i1 w1) ∧ own_nf f' c' (own_ck 0 i1 w0) (own_ck 1 i1 w1)) :=
  met_of own_pn_cw02 hw fun p e s m below meth c T X B eT => Go.top (own_ef_cw02 m o0 i1) (cw02_go X B eT o0 i1 fa w0 w1 n0 Zs hE g0 ga noa hW hnf)
theorem cw01_d0 : decode prog_78_method_10_code 0 = .ok (.aload_n 0, 1) := by decide +kernel
theorem cw01_d1 : decode prog_78_method_10_code 1 = .ok (.getfield 7, 3) := by decide +kernel
theorem cw01_d4 : decode prog_78_method_10_code 4 = .ok (.ifnull 55, 3) := by decide +kernel
theorem cw01_d59 : decode prog_78_method_10_code 59 = .ok (.iload_n 1, 1) := by decide +kernel
theorem cw01_d60 : decode prog_78_method_10_code 60 = .ok (.bipush 6, 2) := by decide +kernel
theorem cw01_d62 : decode prog_78_method_10_code 62 = .ok (.ishr, 1) := by decide +kernel
theorem cw01_d63 : decode prog_78_method_10_code 63 = .ok (.aload_n 0, 1) := by decide +kernel
theorem cw01_d64 : decode prog_78_method_10_code 64 = .ok (.getfield 20, 3) := by decide +kernel
theorem cw01_d67 : decode prog_78_method_10_code 67 = .ok (.isub, 1) := by decide +kernel
theorem cw01_d68 : decode prog_78_method_10_code 68 = .ok (.istore_n 2, 1) := by decide +kernel
theorem cw01_d69 : decode prog_78_method_10_code 69 = .ok (.iload_n 2, 1) := by decide +kernel
theorem cw01_d70 : decode prog_78_method_10_code 70 = .ok (.ifCond .lt 36, 3) := by decide +kernel
theorem cw01_d73 : decode prog_78_method_10_code 73 = .ok (.iload_n 2, 1) := by decide +kernel
theorem cw01_d74 : decode prog_78_method_10_code 74 = .ok (.aload_n 0, 1) := by decide +kernel
theorem cw01_d75 : decode prog_78_method_10_code 75 = .ok (.getfield 24, 3) := by decide +kernel
theorem cw01_d78 : decode prog_78_method_10_code 78 = .ok (.if_icmp .ge 28, 3) := by decide +kernel
theorem cw01_d81 : decode prog_78_method_10_code 81 = .ok (.aload_n 0, 1) := by decide +kernel
theorem cw01_d82 : decode prog_78_method_10_code 82 = .ok (.getfield 17, 3) := by decide +kernel
theorem cw01_d85 : decode prog_78_method_10_code 85 = .ok (.aload_n 0, 1) := by decide +kernel
theorem cw01_d86 : decode prog_78_method_10_code 86 = .ok (.getfield 55, 3) := by decide +kernel
theorem cw01_d89 : decode prog_78_method_10_code 89 = .ok (.iload_n 2, 1) := by decide +kernel
theorem cw01_d90 : decode prog_78_method_10_code 90 = .ok (.iadd, 1) := by decide +kernel
theorem cw01_d91 : decode prog_78_method_10_code 91 = .ok (.dup2, 1) := by decide +kernel
theorem cw01_d92 : decode prog_78_method_10_code 92 = .ok (.laload, 1) := by decide +kernel
theorem cw01_d93 : decode prog_78_method_10_code 93 = .ok (.lconst 1, 1) := by decide +kernel
theorem cw01_d94 : decode prog_78_method_10_code 94 = .ok (.iload_n 1, 1) := by decide +kernel
theorem cw01_d95 : decode prog_78_method_10_code 95 = .ok (.lshl, 1) := by decide +kernel
theorem cw01_d96 : decode prog_78_method_10_code 96 = .ok (.ldc2_w 75, 3) := by decide +kernel
theorem cw01_d99 : decode prog_78_method_10_code 99 = .ok (.lxor, 1) := by decide +kernel
theorem cw01_d100 : decode prog_78_method_10_code 100 = .ok (.land, 1) := by decide +kernel
theorem cw01_d101 : decode prog_78_method_10_code 101 = .ok (.lastore, 1) := by decide +kernel
theorem cw01_d102 : decode prog_78_method_10_code 102 = .ok (.aload_n 0, 1) := by decide +kernel
theorem cw01_d103 : decode prog_78_method_10_code 103 = .ok (.invokevirtual 27, 3) := by decide +kernel
theorem cw01_d106 : decode prog_78_method_10_code 106 = .ok (.return_, 1) := by decide +kernel
theorem own_pn_cw01 : plainFor (⟨"com/example/unseen_nodes/unseennodes/NodeSet", "clear", "(I)V"⟩ : MethodName) = true := plainFor_of_name (by first | (simp [plainName, overriddenIn]; done) | decide +kernel)
theorem own_ef_cw01 (m : MethodId) (o0 : Addr) (i1 : Int32) : entryFrame m #[(.ref o0), (.int i1)] 3 = (mkF m 0 #[.val (.ref o0), .val (.int i1), .unset] []) := by first | (simp [entryFrame, mkF, argsToLocals, Value.category]; done) | rfl
set_option maxRecDepth 65536 in
set_option maxHeartbeats 40000000 in
theorem cw01_go {p : Program} {l : Launch} {e : Env} {s : State} {m : MethodId} {args : Array Value} {below : List Frame} {meth : Method} {c : Code} {T : State} {Z : State} {a0 : Array Value} {h : Heap} (X : Stand p l e (⟨2, 0, 0, 34⟩ : Room) s m args below meth c T [] 0 0) (B : Bdy p s m meth c Z a0 "com/example/unseen_nodes/unseennodes/NodeSet" "clear" prog_78_method_10_code 3 none tables_1) (eT : T.heap = h) (o0 : Addr) (i1 : Int32) (fa : Addr) (w0 : Int64) (w1 : Int64) (n0 : Nat) (Zs : n0 ≤ h.size) (hE : Exa Z h o0 "com/example/unseen_nodes/unseennodes/NodeSet") (g0 : n0 ≤ o0) (ga : n0 ≤ fa) (noa : o0 ≠ fa) (hW : own_W Z h o0 fa (0 : Int32) (1 : Int32) w0 w1) (hnf : own_nf (0 : Int32) (1 : Int32) w0 w1) (z1 : w1 = 0) :
    Go p e below s 0 0 (fun v h2 L => ∃ f' c' : Int32, v = none ∧ Fr n0 L ∧ Keep h h2 [o0, fa] ∧ own_W Z h2 o0 fa f' c' (own_ck 0 i1 w0) (own_ck 1 i1 w1) ∧ own_nf f' c' (own_ck 0 i1 w0) (own_ck 1 i1 w1)) (T.setTop (mkF m 0 #[.val (.ref o0), .val (.int i1), .unset] [])) := by
  have N := Fr.nil n0
  have K := Keep.refl h [o0, fa]
  obtain ⟨Fl, Fw, Ff, Fs, Fc, Aw⟩ := hW
  refine g_aloadN X B cw01_d0 (pc' := 1) rfl (v := (.ref o0)) rfl rfl ?_
  refine g_getF X B (B.w 10 rfl) Via.refl eT Fl cw01_d1 (pc' := 4) rfl (fun T1 X1 e1 => ?_)
  refine g_ifnullN X1 B cw01_d4 (pc' := 59) (by decide) rfl ?_
  refine g_iloadN X1 B cw01_d59 (pc' := 60) rfl (v := i1) rfl ?_
  refine g_bipush X1 B cw01_d60 (pc' := 62) rfl (v := (6 : Int32)) (by decide) ?_
  refine g_ishr X1 B cw01_d62 (pc' := 63) rfl (z := ((i1 >>> ((6 : Int32) &&& 31)))) rfl ?_
  rcases own_hi (i1 >>> ((6 : Int32) &&& 31)) with hb | hb | hb
  · rw [hb]
    refine g_aloadN X1 B cw01_d63 (pc' := 64) rfl (v := (.ref o0)) rfl rfl ?_
    refine g_getF X1 B (B.w 46 rfl) Via.refl e1 Ff cw01_d64 (pc' := 67) rfl (fun T2 X2 e2 => ?_)
    refine g_isub X2 B cw01_d67 (pc' := 68) rfl ?_
    refine g_istoreN X2 B cw01_d68 (pc' := 69) rfl (Ls' := #[.val (.ref o0), .val (.int i1), .val (.int ((0 : Int32) - (0 : Int32)))]) rfl ?_
    refine g_iloadN X2 B cw01_d69 (pc' := 70) rfl (v := ((0 : Int32) - (0 : Int32))) rfl ?_
    refine g_if_lt X2 B cw01_d70 (pcT := 106) (pcF := 73) (by decide) rfl rfl (fun c70_0 => ?_) (fun c70_0 => ?_)
    · exact absurd c70_0 (by decide)
    · refine g_iloadN X2 B cw01_d73 (pc' := 74) rfl (v := ((0 : Int32) - (0 : Int32))) rfl ?_
      refine g_aloadN X2 B cw01_d74 (pc' := 75) rfl (v := (.ref o0)) rfl rfl ?_
      refine g_getF X2 B (B.w 48 rfl) Via.refl e2 Fc cw01_d75 (pc' := 78) rfl (fun T3 X3 e3 => ?_)
      refine g_icmp_ge X3 B cw01_d78 (pcT := 106) (pcF := 81) (by decide) rfl rfl (fun c78_1 => ?_) (fun c78_1 => ?_)
      · refine g_aloadN X3 B cw01_d81 (pc' := 82) rfl (v := (.ref o0)) rfl rfl ?_
        refine g_getF X3 B (B.w 14 rfl) Via.refl e3 Fw cw01_d82 (pc' := 85) rfl (fun T4 X4 e4 => ?_)
        refine g_aloadN X4 B cw01_d85 (pc' := 86) rfl (v := (.ref o0)) rfl rfl ?_
        refine g_getF X4 B (B.w 54 rfl) Via.refl e4 Fs cw01_d86 (pc' := 89) rfl (fun T5 X5 e5 => ?_)
        refine g_iloadN X5 B cw01_d89 (pc' := 90) rfl (v := ((0 : Int32) - (0 : Int32))) rfl ?_
        refine g_iadd X5 B cw01_d90 (pc' := 91) rfl ?_
        refine g_dup2 X5 B cw01_d91 (pc' := 92) rfl rfl rfl ?_
        refine g_laload X5 B 0 e5 Aw (by decide) (by decide) (v := (.long w0)) rfl cw01_d92 (pc' := 93) rfl ?_
        refine g_lconst X5 B cw01_d93 (pc' := 94) rfl (v := (1 : Int64)) (by decide) ?_
        refine g_iloadN X5 B cw01_d94 (pc' := 95) rfl (v := i1) rfl ?_
        refine g_lshl X5 B cw01_d95 (pc' := 96) rfl (z := (((1 : Int64) <<< (i1 &&& 63).toInt64))) rfl ?_
        refine g_ldc2 X5 B (B.w 56 rfl) cw01_d96 (pc' := 99) rfl ?_
        refine g_lxor X5 B cw01_d99 (pc' := 100) rfl ?_
        refine g_land X5 B cw01_d100 (pc' := 101) rfl ?_
        refine g_lastore X5 B 0 e5 Aw (by decide) (by decide) cw01_d101 (pc' := 102) rfl (fun T6 h6 X6 e6 W6 => ?_)
        have N6 := Fr.snoc X6 N ga
        have E_o0_6 := hE.wr W6
        have F_o0_listed_6 := Fl.other W6 (Or.inl noa)
        have F_o0_words_6 := Fw.other W6 (Or.inl noa)
        have A_fa_6 := Aw.set W6
        have F_o0_firstWord_6 := Ff.other W6 (Or.inl noa)
        have F_o0_start_6 := Fs.other W6 (Or.inl noa)
        have F_o0_count_6 := Fc.other W6 (Or.inl noa)
        have Zs_6 := Nat.le_trans Zs (Keep.of_wr W6).1
        have K_6 := K.wr W6 (Or.inl (List.mem_of_getElem? (i := 1) rfl))
        refine g_aloadN X6 B cw01_d102 (pc' := 103) rfl (v := (.ref o0)) rfl rfl ?_
        refine g_private X6 B e6 0 E_o0_6 (y := (⟨"com/example/unseen_nodes/unseennodes/NodeSet", "trim", "()V"⟩ : MethodName)) (argsL := []) (rest := []) (a := o0) (B.w 50 rfl) (B.w 1 rfl) (B.w 52 rfl) (B.w 51 rfl) (B.w 2 rfl) (B.w 53 rfl) (by decide) (tr01_met l Z a0 B.2.2.1 [] h6 o0 fa (w0 &&& (((1 : Int64) <<< (i1 &&& 63).toInt64) ^^^ (-1 : Int64))) w1 n0 Zs_6 E_o0_6 g0 ga noa ⟨F_o0_listed_6, F_o0_words_6, F_o0_firstWord_6, F_o0_start_6, F_o0_count_6, A_fa_6.eqw (fun j hj => by have q : j = 0 ∨ j = 1 := (by omega); rcases q with rfl | rfl <;> rfl)⟩ z1) (by decide) (by decide) (by decide) (by decide) rfl (lenOf own_pd3 rfl) rfl (Nat.le_of_eq rfl) cw01_d103 (pc' := 106) rfl (fun T7 v7 L7 X7 Q7 => ?_)
        obtain ⟨f', c', rfl, Nq7, Kq7, Wq7, nf7⟩ := Q7
        have N7 := Fr.app N6 Nq7
        have E_o0_7 := E_o0_6.keep Kq7
        have A_fa_7 := A_fa_6.keep Kq7 (by simp only [List.mem_cons, List.not_mem_nil, or_false, not_or]; exact (Ne.symm noa))
        have Zs_7 := Nat.le_trans Zs_6 Kq7.1
        have K_7 := K_6.trans Kq7 (by intro x hx; simp only [List.mem_cons, List.not_mem_nil, or_false] at hx; subst hx; exact Or.inl (List.mem_of_getElem? (i := 0) rfl))
        show Go p e below s _ _ _ (T7.setTop (mkF m 106 #[.val (.ref o0), .val (.int i1), .val (.int ((0 : Int32) - (0 : Int32)))] []))
        rw [show own_ck 0 i1 w0 = (w0 &&& (((1 : Int64) <<< (i1 &&& 63).toInt64) ^^^ (-1 : Int64))) from if_pos hb, show own_ck 1 i1 w1 = w1 from if_neg (by rw [hb]; decide)]
        exact g_ret0 X7 B rfl cw01_d106 (by decide) (by decide) ⟨f', c', rfl, N7, K_7, Wq7, nf7⟩
      · exact absurd (by decide) c78_1
  · rw [hb]
    refine g_aloadN X1 B cw01_d63 (pc' := 64) rfl (v := (.ref o0)) rfl rfl ?_
    refine g_getF X1 B (B.w 46 rfl) Via.refl e1 Ff cw01_d64 (pc' := 67) rfl (fun T8 X8 e8 => ?_)
    refine g_isub X8 B cw01_d67 (pc' := 68) rfl ?_
    refine g_istoreN X8 B cw01_d68 (pc' := 69) rfl (Ls' := #[.val (.ref o0), .val (.int i1), .val (.int ((1 : Int32) - (0 : Int32)))]) rfl ?_
    refine g_iloadN X8 B cw01_d69 (pc' := 70) rfl (v := ((1 : Int32) - (0 : Int32))) rfl ?_
    refine g_if_lt X8 B cw01_d70 (pcT := 106) (pcF := 73) (by decide) rfl rfl (fun c70_0 => ?_) (fun c70_0 => ?_)
    · exact absurd c70_0 (by decide)
    · refine g_iloadN X8 B cw01_d73 (pc' := 74) rfl (v := ((1 : Int32) - (0 : Int32))) rfl ?_
      refine g_aloadN X8 B cw01_d74 (pc' := 75) rfl (v := (.ref o0)) rfl rfl ?_
      refine g_getF X8 B (B.w 48 rfl) Via.refl e8 Fc cw01_d75 (pc' := 78) rfl (fun T9 X9 e9 => ?_)
      refine g_icmp_ge X9 B cw01_d78 (pcT := 106) (pcF := 81) (by decide) rfl rfl (fun c78_1 => ?_) (fun c78_1 => ?_)
      · exact absurd c78_1 (by decide)
      · have u0 : own_ck 0 i1 w0 = w0 := if_neg (by rw [hb]; decide)
        have u1 : own_ck 1 i1 w1 = w1 := by rw [z1]; exact (if_pos hb).trans (own_z _)
        rw [u0, u1]
        exact g_ret0 X9 B rfl cw01_d106 (by decide) (by decide) (by rw [e9]; exact ⟨_, _, rfl, N, K, ⟨Fl, Fw, Ff, Fs, Fc, Aw⟩, hnf⟩)
  · refine g_aloadN X1 B cw01_d63 (pc' := 64) rfl (v := (.ref o0)) rfl rfl ?_
    refine g_getF X1 B (B.w 46 rfl) Via.refl e1 Ff cw01_d64 (pc' := 67) rfl (fun T10 X10 e10 => ?_)
    refine g_isub X10 B cw01_d67 (pc' := 68) rfl ?_
    refine g_istoreN X10 B cw01_d68 (pc' := 69) rfl (Ls' := #[.val (.ref o0), .val (.int i1), .val (.int (((i1 >>> ((6 : Int32) &&& 31))) - (0 : Int32)))]) rfl ?_
    refine g_iloadN X10 B cw01_d69 (pc' := 70) rfl (v := (((i1 >>> ((6 : Int32) &&& 31))) - (0 : Int32))) rfl ?_
    refine g_if_lt X10 B cw01_d70 (pcT := 106) (pcF := 73) (by decide) rfl rfl (fun c70_0 => ?_) (fun c70_0 => ?_)
    · have u0 : own_ck 0 i1 w0 = w0 := if_neg hb.1
      have u1 : own_ck 1 i1 w1 = w1 := if_neg hb.2
      rw [u0, u1]
      exact g_ret0 X10 B rfl cw01_d106 (by decide) (by decide) (by rw [e10]; exact ⟨_, _, rfl, N, K, ⟨Fl, Fw, Ff, Fs, Fc, Aw⟩, hnf⟩)
    · refine g_iloadN X10 B cw01_d73 (pc' := 74) rfl (v := (((i1 >>> ((6 : Int32) &&& 31))) - (0 : Int32))) rfl ?_
      refine g_aloadN X10 B cw01_d74 (pc' := 75) rfl (v := (.ref o0)) rfl rfl ?_
      refine g_getF X10 B (B.w 48 rfl) Via.refl e10 Fc cw01_d75 (pc' := 78) rfl (fun T11 X11 e11 => ?_)
      refine g_icmp_ge X11 B cw01_d78 (pcT := 106) (pcF := 81) (by decide) rfl rfl (fun c78_1 => ?_) (fun c78_1 => ?_)
      · exfalso; have e := c_isub (i1 >>> ((6 : Int32) &&& 31)) (0 : Int32); have r3 := (i1 >>> ((6 : Int32) &&& 31)).toInt_lt; have r4 := (i1 >>> ((6 : Int32) &&& 31)).le_toInt; have r1 := ((i1 >>> ((6 : Int32) &&& 31)) - (0 : Int32)).toInt_lt; have r2 := ((i1 >>> ((6 : Int32) &&& 31)) - (0 : Int32)).le_toInt; rw [Int32.lt_iff_toInt_lt] at c70_0 c78_1; have k0 : (0 : Int32).toInt = 0 := (by decide); have k1 : (1 : Int32).toInt = 1 := (by decide); have k2 : (0 : Int32).toInt = 0 := (by decide); have k3 : (1 : Int32).toInt = 1 := (by decide); rw [← Int32.toInt_inj, ← Int32.toInt_inj] at hb; omega
      · have u0 : own_ck 0 i1 w0 = w0 := if_neg hb.1
        have u1 : own_ck 1 i1 w1 = w1 := if_neg hb.2
        rw [u0, u1]
        exact g_ret0 X11 B rfl cw01_d106 (by decide) (by decide) (by rw [e11]; exact ⟨_, _, rfl, N, K, ⟨Fl, Fw, Ff, Fs, Fc, Aw⟩, hnf⟩)
theorem cw01_met (l : Launch) (Z : State) (a0 : Array Value) (hw : ∀ d ∈ tables_1, d.before a0 Z = true) (ws : List Jvm.Cond) (h : Heap) (o0 : Addr) (i1 : Int32) (fa : Addr) (w0 : Int64) (w1 : Int64) (n0 : Nat) (Zs : n0 ≤ h.size) (hE : Exa Z h o0 "com/example/unseen_nodes/unseennodes/NodeSet") (g0 : n0 ≤ o0) (ga : n0 ≤ fa) (noa : o0 ≠ fa) (hW : own_W Z h o0 fa (0 : Int32) (1 : Int32) w0 w1) (hnf : own_nf (0 : Int32) (1 : Int32) w0 w1) (z1 : w1 = 0) :
    Met l Z (⟨"com/example/unseen_nodes/unseennodes/NodeSet", "clear", "(I)V"⟩ : MethodName) prog_78_method_10_code 3 none ws (⟨2, 0, 0, 34⟩ : Room) #[(.ref o0), (.int i1)] h (fun v h2 L => ∃ f' c' : Int32, v = none ∧ Fr n0 L ∧ Keep h h2 [o0, fa] ∧ own_W Z h2 o0 fa f' c' (own_ck 0 i1 w0) (own_ck 1 i1 w1) ∧ own_nf f' c' (own_ck 0 i1 w0) (own_ck 1 i1 w1)) :=
  met_of own_pn_cw01 hw fun p e s m below meth c T X B eT => Go.top (own_ef_cw01 m o0 i1) (cw01_go X B eT o0 i1 fa w0 w1 n0 Zs hE g0 ga noa hW hnf z1)
theorem cw11_d0 : decode prog_78_method_10_code 0 = .ok (.aload_n 0, 1) := by decide +kernel
theorem cw11_d1 : decode prog_78_method_10_code 1 = .ok (.getfield 7, 3) := by decide +kernel
theorem cw11_d4 : decode prog_78_method_10_code 4 = .ok (.ifnull 55, 3) := by decide +kernel
theorem cw11_d59 : decode prog_78_method_10_code 59 = .ok (.iload_n 1, 1) := by decide +kernel
theorem cw11_d60 : decode prog_78_method_10_code 60 = .ok (.bipush 6, 2) := by decide +kernel
theorem cw11_d62 : decode prog_78_method_10_code 62 = .ok (.ishr, 1) := by decide +kernel
theorem cw11_d63 : decode prog_78_method_10_code 63 = .ok (.aload_n 0, 1) := by decide +kernel
theorem cw11_d64 : decode prog_78_method_10_code 64 = .ok (.getfield 20, 3) := by decide +kernel
theorem cw11_d67 : decode prog_78_method_10_code 67 = .ok (.isub, 1) := by decide +kernel
theorem cw11_d68 : decode prog_78_method_10_code 68 = .ok (.istore_n 2, 1) := by decide +kernel
theorem cw11_d69 : decode prog_78_method_10_code 69 = .ok (.iload_n 2, 1) := by decide +kernel
theorem cw11_d70 : decode prog_78_method_10_code 70 = .ok (.ifCond .lt 36, 3) := by decide +kernel
theorem cw11_d73 : decode prog_78_method_10_code 73 = .ok (.iload_n 2, 1) := by decide +kernel
theorem cw11_d74 : decode prog_78_method_10_code 74 = .ok (.aload_n 0, 1) := by decide +kernel
theorem cw11_d75 : decode prog_78_method_10_code 75 = .ok (.getfield 24, 3) := by decide +kernel
theorem cw11_d78 : decode prog_78_method_10_code 78 = .ok (.if_icmp .ge 28, 3) := by decide +kernel
theorem cw11_d81 : decode prog_78_method_10_code 81 = .ok (.aload_n 0, 1) := by decide +kernel
theorem cw11_d82 : decode prog_78_method_10_code 82 = .ok (.getfield 17, 3) := by decide +kernel
theorem cw11_d85 : decode prog_78_method_10_code 85 = .ok (.aload_n 0, 1) := by decide +kernel
theorem cw11_d86 : decode prog_78_method_10_code 86 = .ok (.getfield 55, 3) := by decide +kernel
theorem cw11_d89 : decode prog_78_method_10_code 89 = .ok (.iload_n 2, 1) := by decide +kernel
theorem cw11_d90 : decode prog_78_method_10_code 90 = .ok (.iadd, 1) := by decide +kernel
theorem cw11_d91 : decode prog_78_method_10_code 91 = .ok (.dup2, 1) := by decide +kernel
theorem cw11_d92 : decode prog_78_method_10_code 92 = .ok (.laload, 1) := by decide +kernel
theorem cw11_d93 : decode prog_78_method_10_code 93 = .ok (.lconst 1, 1) := by decide +kernel
theorem cw11_d94 : decode prog_78_method_10_code 94 = .ok (.iload_n 1, 1) := by decide +kernel
theorem cw11_d95 : decode prog_78_method_10_code 95 = .ok (.lshl, 1) := by decide +kernel
theorem cw11_d96 : decode prog_78_method_10_code 96 = .ok (.ldc2_w 75, 3) := by decide +kernel
theorem cw11_d99 : decode prog_78_method_10_code 99 = .ok (.lxor, 1) := by decide +kernel
theorem cw11_d100 : decode prog_78_method_10_code 100 = .ok (.land, 1) := by decide +kernel
theorem cw11_d101 : decode prog_78_method_10_code 101 = .ok (.lastore, 1) := by decide +kernel
theorem cw11_d102 : decode prog_78_method_10_code 102 = .ok (.aload_n 0, 1) := by decide +kernel
theorem cw11_d103 : decode prog_78_method_10_code 103 = .ok (.invokevirtual 27, 3) := by decide +kernel
theorem cw11_d106 : decode prog_78_method_10_code 106 = .ok (.return_, 1) := by decide +kernel
theorem own_pn_cw11 : plainFor (⟨"com/example/unseen_nodes/unseennodes/NodeSet", "clear", "(I)V"⟩ : MethodName) = true := plainFor_of_name (by first | (simp [plainName, overriddenIn]; done) | decide +kernel)
theorem own_ef_cw11 (m : MethodId) (o0 : Addr) (i1 : Int32) : entryFrame m #[(.ref o0), (.int i1)] 3 = (mkF m 0 #[.val (.ref o0), .val (.int i1), .unset] []) := by first | (simp [entryFrame, mkF, argsToLocals, Value.category]; done) | rfl
set_option maxRecDepth 65536 in
set_option maxHeartbeats 40000000 in
theorem cw11_go {p : Program} {l : Launch} {e : Env} {s : State} {m : MethodId} {args : Array Value} {below : List Frame} {meth : Method} {c : Code} {T : State} {Z : State} {a0 : Array Value} {h : Heap} (X : Stand p l e (⟨2, 0, 0, 34⟩ : Room) s m args below meth c T [] 0 0) (B : Bdy p s m meth c Z a0 "com/example/unseen_nodes/unseennodes/NodeSet" "clear" prog_78_method_10_code 3 none tables_1) (eT : T.heap = h) (o0 : Addr) (i1 : Int32) (fa : Addr) (w0 : Int64) (w1 : Int64) (n0 : Nat) (Zs : n0 ≤ h.size) (hE : Exa Z h o0 "com/example/unseen_nodes/unseennodes/NodeSet") (g0 : n0 ≤ o0) (ga : n0 ≤ fa) (noa : o0 ≠ fa) (hW : own_W Z h o0 fa (1 : Int32) (1 : Int32) w0 w1) (hnf : own_nf (1 : Int32) (1 : Int32) w0 w1) (z0 : w0 = 0) :
    Go p e below s 0 0 (fun v h2 L => ∃ f' c' : Int32, v = none ∧ Fr n0 L ∧ Keep h h2 [o0, fa] ∧ own_W Z h2 o0 fa f' c' (own_ck 0 i1 w0) (own_ck 1 i1 w1) ∧ own_nf f' c' (own_ck 0 i1 w0) (own_ck 1 i1 w1)) (T.setTop (mkF m 0 #[.val (.ref o0), .val (.int i1), .unset] [])) := by
  have N := Fr.nil n0
  have K := Keep.refl h [o0, fa]
  obtain ⟨Fl, Fw, Ff, Fs, Fc, Aw⟩ := hW
  refine g_aloadN X B cw11_d0 (pc' := 1) rfl (v := (.ref o0)) rfl rfl ?_
  refine g_getF X B (B.w 10 rfl) Via.refl eT Fl cw11_d1 (pc' := 4) rfl (fun T1 X1 e1 => ?_)
  refine g_ifnullN X1 B cw11_d4 (pc' := 59) (by decide) rfl ?_
  refine g_iloadN X1 B cw11_d59 (pc' := 60) rfl (v := i1) rfl ?_
  refine g_bipush X1 B cw11_d60 (pc' := 62) rfl (v := (6 : Int32)) (by decide) ?_
  refine g_ishr X1 B cw11_d62 (pc' := 63) rfl (z := ((i1 >>> ((6 : Int32) &&& 31)))) rfl ?_
  rcases own_hi (i1 >>> ((6 : Int32) &&& 31)) with hb | hb | hb
  · rw [hb]
    refine g_aloadN X1 B cw11_d63 (pc' := 64) rfl (v := (.ref o0)) rfl rfl ?_
    refine g_getF X1 B (B.w 46 rfl) Via.refl e1 Ff cw11_d64 (pc' := 67) rfl (fun T2 X2 e2 => ?_)
    refine g_isub X2 B cw11_d67 (pc' := 68) rfl ?_
    refine g_istoreN X2 B cw11_d68 (pc' := 69) rfl (Ls' := #[.val (.ref o0), .val (.int i1), .val (.int ((0 : Int32) - (1 : Int32)))]) rfl ?_
    refine g_iloadN X2 B cw11_d69 (pc' := 70) rfl (v := ((0 : Int32) - (1 : Int32))) rfl ?_
    refine g_if_lt X2 B cw11_d70 (pcT := 106) (pcF := 73) (by decide) rfl rfl (fun c70_0 => ?_) (fun c70_0 => ?_)
    · have u0 : own_ck 0 i1 w0 = w0 := by rw [z0]; exact (if_pos hb).trans (own_z _)
      have u1 : own_ck 1 i1 w1 = w1 := if_neg (by rw [hb]; decide)
      rw [u0, u1]
      exact g_ret0 X2 B rfl cw11_d106 (by decide) (by decide) (by rw [e2]; exact ⟨_, _, rfl, N, K, ⟨Fl, Fw, Ff, Fs, Fc, Aw⟩, hnf⟩)
    · exact absurd (by decide) c70_0
  · rw [hb]
    refine g_aloadN X1 B cw11_d63 (pc' := 64) rfl (v := (.ref o0)) rfl rfl ?_
    refine g_getF X1 B (B.w 46 rfl) Via.refl e1 Ff cw11_d64 (pc' := 67) rfl (fun T3 X3 e3 => ?_)
    refine g_isub X3 B cw11_d67 (pc' := 68) rfl ?_
    refine g_istoreN X3 B cw11_d68 (pc' := 69) rfl (Ls' := #[.val (.ref o0), .val (.int i1), .val (.int ((1 : Int32) - (1 : Int32)))]) rfl ?_
    refine g_iloadN X3 B cw11_d69 (pc' := 70) rfl (v := ((1 : Int32) - (1 : Int32))) rfl ?_
    refine g_if_lt X3 B cw11_d70 (pcT := 106) (pcF := 73) (by decide) rfl rfl (fun c70_0 => ?_) (fun c70_0 => ?_)
    · exact absurd c70_0 (by decide)
    · refine g_iloadN X3 B cw11_d73 (pc' := 74) rfl (v := ((1 : Int32) - (1 : Int32))) rfl ?_
      refine g_aloadN X3 B cw11_d74 (pc' := 75) rfl (v := (.ref o0)) rfl rfl ?_
      refine g_getF X3 B (B.w 48 rfl) Via.refl e3 Fc cw11_d75 (pc' := 78) rfl (fun T4 X4 e4 => ?_)
      refine g_icmp_ge X4 B cw11_d78 (pcT := 106) (pcF := 81) (by decide) rfl rfl (fun c78_1 => ?_) (fun c78_1 => ?_)
      · refine g_aloadN X4 B cw11_d81 (pc' := 82) rfl (v := (.ref o0)) rfl rfl ?_
        refine g_getF X4 B (B.w 14 rfl) Via.refl e4 Fw cw11_d82 (pc' := 85) rfl (fun T5 X5 e5 => ?_)
        refine g_aloadN X5 B cw11_d85 (pc' := 86) rfl (v := (.ref o0)) rfl rfl ?_
        refine g_getF X5 B (B.w 54 rfl) Via.refl e5 Fs cw11_d86 (pc' := 89) rfl (fun T6 X6 e6 => ?_)
        refine g_iloadN X6 B cw11_d89 (pc' := 90) rfl (v := ((1 : Int32) - (1 : Int32))) rfl ?_
        refine g_iadd X6 B cw11_d90 (pc' := 91) rfl ?_
        refine g_dup2 X6 B cw11_d91 (pc' := 92) rfl rfl rfl ?_
        refine g_laload X6 B 1 e6 Aw (by decide) (by decide) (v := (.long w1)) rfl cw11_d92 (pc' := 93) rfl ?_
        refine g_lconst X6 B cw11_d93 (pc' := 94) rfl (v := (1 : Int64)) (by decide) ?_
        refine g_iloadN X6 B cw11_d94 (pc' := 95) rfl (v := i1) rfl ?_
        refine g_lshl X6 B cw11_d95 (pc' := 96) rfl (z := (((1 : Int64) <<< (i1 &&& 63).toInt64))) rfl ?_
        refine g_ldc2 X6 B (B.w 56 rfl) cw11_d96 (pc' := 99) rfl ?_
        refine g_lxor X6 B cw11_d99 (pc' := 100) rfl ?_
        refine g_land X6 B cw11_d100 (pc' := 101) rfl ?_
        refine g_lastore X6 B 1 e6 Aw (by decide) (by decide) cw11_d101 (pc' := 102) rfl (fun T7 h7 X7 e7 W7 => ?_)
        have N7 := Fr.snoc X7 N ga
        have E_o0_7 := hE.wr W7
        have F_o0_listed_7 := Fl.other W7 (Or.inl noa)
        have F_o0_words_7 := Fw.other W7 (Or.inl noa)
        have A_fa_7 := Aw.set W7
        have F_o0_firstWord_7 := Ff.other W7 (Or.inl noa)
        have F_o0_start_7 := Fs.other W7 (Or.inl noa)
        have F_o0_count_7 := Fc.other W7 (Or.inl noa)
        have Zs_7 := Nat.le_trans Zs (Keep.of_wr W7).1
        have K_7 := K.wr W7 (Or.inl (List.mem_of_getElem? (i := 1) rfl))
        refine g_aloadN X7 B cw11_d102 (pc' := 103) rfl (v := (.ref o0)) rfl rfl ?_
        refine g_private X7 B e7 0 E_o0_7 (y := (⟨"com/example/unseen_nodes/unseennodes/NodeSet", "trim", "()V"⟩ : MethodName)) (argsL := []) (rest := []) (a := o0) (B.w 50 rfl) (B.w 1 rfl) (B.w 52 rfl) (B.w 51 rfl) (B.w 2 rfl) (B.w 53 rfl) (by decide) (tr11_met l Z a0 B.2.2.1 [] h7 o0 fa w0 (w1 &&& (((1 : Int64) <<< (i1 &&& 63).toInt64) ^^^ (-1 : Int64))) n0 Zs_7 E_o0_7 g0 ga noa ⟨F_o0_listed_7, F_o0_words_7, F_o0_firstWord_7, F_o0_start_7, F_o0_count_7, A_fa_7.eqw (fun j hj => by have q : j = 0 ∨ j = 1 := (by omega); rcases q with rfl | rfl <;> rfl)⟩ z0) (by decide) (by decide) (by decide) (by decide) rfl (lenOf own_pd3 rfl) rfl (Nat.le_of_eq rfl) cw11_d103 (pc' := 106) rfl (fun T8 v8 L8 X8 Q8 => ?_)
        obtain ⟨f', c', rfl, Nq8, Kq8, Wq8, nf8⟩ := Q8
        have N8 := Fr.app N7 Nq8
        have E_o0_8 := E_o0_7.keep Kq8
        have A_fa_8 := A_fa_7.keep Kq8 (by simp only [List.mem_cons, List.not_mem_nil, or_false, not_or]; exact (Ne.symm noa))
        have Zs_8 := Nat.le_trans Zs_7 Kq8.1
        have K_8 := K_7.trans Kq8 (by intro x hx; simp only [List.mem_cons, List.not_mem_nil, or_false] at hx; subst hx; exact Or.inl (List.mem_of_getElem? (i := 0) rfl))
        show Go p e below s _ _ _ (T8.setTop (mkF m 106 #[.val (.ref o0), .val (.int i1), .val (.int ((1 : Int32) - (1 : Int32)))] []))
        rw [show own_ck 0 i1 w0 = w0 from if_neg (by rw [hb]; decide), show own_ck 1 i1 w1 = (w1 &&& (((1 : Int64) <<< (i1 &&& 63).toInt64) ^^^ (-1 : Int64))) from if_pos hb]
        exact g_ret0 X8 B rfl cw11_d106 (by decide) (by decide) ⟨f', c', rfl, N8, K_8, Wq8, nf8⟩
      · exact absurd (by decide) c78_1
  · refine g_aloadN X1 B cw11_d63 (pc' := 64) rfl (v := (.ref o0)) rfl rfl ?_
    refine g_getF X1 B (B.w 46 rfl) Via.refl e1 Ff cw11_d64 (pc' := 67) rfl (fun T9 X9 e9 => ?_)
    refine g_isub X9 B cw11_d67 (pc' := 68) rfl ?_
    refine g_istoreN X9 B cw11_d68 (pc' := 69) rfl (Ls' := #[.val (.ref o0), .val (.int i1), .val (.int (((i1 >>> ((6 : Int32) &&& 31))) - (1 : Int32)))]) rfl ?_
    refine g_iloadN X9 B cw11_d69 (pc' := 70) rfl (v := (((i1 >>> ((6 : Int32) &&& 31))) - (1 : Int32))) rfl ?_
    refine g_if_lt X9 B cw11_d70 (pcT := 106) (pcF := 73) (by decide) rfl rfl (fun c70_0 => ?_) (fun c70_0 => ?_)
    · have u0 : own_ck 0 i1 w0 = w0 := if_neg hb.1
      have u1 : own_ck 1 i1 w1 = w1 := if_neg hb.2
      rw [u0, u1]
      exact g_ret0 X9 B rfl cw11_d106 (by decide) (by decide) (by rw [e9]; exact ⟨_, _, rfl, N, K, ⟨Fl, Fw, Ff, Fs, Fc, Aw⟩, hnf⟩)
    · refine g_iloadN X9 B cw11_d73 (pc' := 74) rfl (v := (((i1 >>> ((6 : Int32) &&& 31))) - (1 : Int32))) rfl ?_
      refine g_aloadN X9 B cw11_d74 (pc' := 75) rfl (v := (.ref o0)) rfl rfl ?_
      refine g_getF X9 B (B.w 48 rfl) Via.refl e9 Fc cw11_d75 (pc' := 78) rfl (fun T10 X10 e10 => ?_)
      refine g_icmp_ge X10 B cw11_d78 (pcT := 106) (pcF := 81) (by decide) rfl rfl (fun c78_1 => ?_) (fun c78_1 => ?_)
      · exfalso; have e := c_isub (i1 >>> ((6 : Int32) &&& 31)) (1 : Int32); have r3 := (i1 >>> ((6 : Int32) &&& 31)).toInt_lt; have r4 := (i1 >>> ((6 : Int32) &&& 31)).le_toInt; have r1 := ((i1 >>> ((6 : Int32) &&& 31)) - (1 : Int32)).toInt_lt; have r2 := ((i1 >>> ((6 : Int32) &&& 31)) - (1 : Int32)).le_toInt; rw [Int32.lt_iff_toInt_lt] at c70_0 c78_1; have k0 : (1 : Int32).toInt = 1 := (by decide); have k1 : (1 : Int32).toInt = 1 := (by decide); have k2 : (0 : Int32).toInt = 0 := (by decide); have k3 : (1 : Int32).toInt = 1 := (by decide); rw [← Int32.toInt_inj, ← Int32.toInt_inj] at hb; omega
      · have u0 : own_ck 0 i1 w0 = w0 := if_neg hb.1
        have u1 : own_ck 1 i1 w1 = w1 := if_neg hb.2
        rw [u0, u1]
        exact g_ret0 X10 B rfl cw11_d106 (by decide) (by decide) (by rw [e10]; exact ⟨_, _, rfl, N, K, ⟨Fl, Fw, Ff, Fs, Fc, Aw⟩, hnf⟩)
theorem cw11_met (l : Launch) (Z : State) (a0 : Array Value) (hw : ∀ d ∈ tables_1, d.before a0 Z = true) (ws : List Jvm.Cond) (h : Heap) (o0 : Addr) (i1 : Int32) (fa : Addr) (w0 : Int64) (w1 : Int64) (n0 : Nat) (Zs : n0 ≤ h.size) (hE : Exa Z h o0 "com/example/unseen_nodes/unseennodes/NodeSet") (g0 : n0 ≤ o0) (ga : n0 ≤ fa) (noa : o0 ≠ fa) (hW : own_W Z h o0 fa (1 : Int32) (1 : Int32) w0 w1) (hnf : own_nf (1 : Int32) (1 : Int32) w0 w1) (z0 : w0 = 0) :
    Met l Z (⟨"com/example/unseen_nodes/unseennodes/NodeSet", "clear", "(I)V"⟩ : MethodName) prog_78_method_10_code 3 none ws (⟨2, 0, 0, 34⟩ : Room) #[(.ref o0), (.int i1)] h (fun v h2 L => ∃ f' c' : Int32, v = none ∧ Fr n0 L ∧ Keep h h2 [o0, fa] ∧ own_W Z h2 o0 fa f' c' (own_ck 0 i1 w0) (own_ck 1 i1 w1) ∧ own_nf f' c' (own_ck 0 i1 w0) (own_ck 1 i1 w1)) :=
  met_of own_pn_cw11 hw fun p e s m below meth c T X B eT => Go.top (own_ef_cw11 m o0 i1) (cw11_go X B eT o0 i1 fa w0 w1 n0 Zs hE g0 ga noa hW hnf z0)
theorem cw00_d0 : decode prog_78_method_10_code 0 = .ok (.aload_n 0, 1) := by decide +kernel
theorem cw00_d1 : decode prog_78_method_10_code 1 = .ok (.getfield 7, 3) := by decide +kernel
theorem cw00_d4 : decode prog_78_method_10_code 4 = .ok (.ifnull 55, 3) := by decide +kernel
theorem cw00_d59 : decode prog_78_method_10_code 59 = .ok (.iload_n 1, 1) := by decide +kernel
theorem cw00_d60 : decode prog_78_method_10_code 60 = .ok (.bipush 6, 2) := by decide +kernel
theorem cw00_d62 : decode prog_78_method_10_code 62 = .ok (.ishr, 1) := by decide +kernel
theorem cw00_d63 : decode prog_78_method_10_code 63 = .ok (.aload_n 0, 1) := by decide +kernel
theorem cw00_d64 : decode prog_78_method_10_code 64 = .ok (.getfield 20, 3) := by decide +kernel
theorem cw00_d67 : decode prog_78_method_10_code 67 = .ok (.isub, 1) := by decide +kernel
theorem cw00_d68 : decode prog_78_method_10_code 68 = .ok (.istore_n 2, 1) := by decide +kernel
theorem cw00_d69 : decode prog_78_method_10_code 69 = .ok (.iload_n 2, 1) := by decide +kernel
theorem cw00_d70 : decode prog_78_method_10_code 70 = .ok (.ifCond .lt 36, 3) := by decide +kernel
theorem cw00_d73 : decode prog_78_method_10_code 73 = .ok (.iload_n 2, 1) := by decide +kernel
theorem cw00_d74 : decode prog_78_method_10_code 74 = .ok (.aload_n 0, 1) := by decide +kernel
theorem cw00_d75 : decode prog_78_method_10_code 75 = .ok (.getfield 24, 3) := by decide +kernel
theorem cw00_d78 : decode prog_78_method_10_code 78 = .ok (.if_icmp .ge 28, 3) := by decide +kernel
theorem cw00_d106 : decode prog_78_method_10_code 106 = .ok (.return_, 1) := by decide +kernel
theorem own_pn_cw00 : plainFor (⟨"com/example/unseen_nodes/unseennodes/NodeSet", "clear", "(I)V"⟩ : MethodName) = true := plainFor_of_name (by first | (simp [plainName, overriddenIn]; done) | decide +kernel)
theorem own_ef_cw00 (m : MethodId) (o0 : Addr) (i1 : Int32) : entryFrame m #[(.ref o0), (.int i1)] 3 = (mkF m 0 #[.val (.ref o0), .val (.int i1), .unset] []) := by first | (simp [entryFrame, mkF, argsToLocals, Value.category]; done) | rfl
set_option maxRecDepth 65536 in
set_option maxHeartbeats 40000000 in
theorem cw00_go {p : Program} {l : Launch} {e : Env} {s : State} {m : MethodId} {args : Array Value} {below : List Frame} {meth : Method} {c : Code} {T : State} {Z : State} {a0 : Array Value} {h : Heap} (X : Stand p l e (⟨2, 0, 0, 34⟩ : Room) s m args below meth c T [] 0 0) (B : Bdy p s m meth c Z a0 "com/example/unseen_nodes/unseennodes/NodeSet" "clear" prog_78_method_10_code 3 none tables_1) (eT : T.heap = h) (o0 : Addr) (i1 : Int32) (fa : Addr) (w0 : Int64) (w1 : Int64) (n0 : Nat) (Zs : n0 ≤ h.size) (hE : Exa Z h o0 "com/example/unseen_nodes/unseennodes/NodeSet") (g0 : n0 ≤ o0) (ga : n0 ≤ fa) (noa : o0 ≠ fa) (hW : own_W Z h o0 fa (0 : Int32) (0 : Int32) w0 w1) (hnf : own_nf (0 : Int32) (0 : Int32) w0 w1) (z0 : w0 = 0) (z1 : w1 = 0) :
    Go p e below s 0 0 (fun v h2 L => ∃ f' c' : Int32, v = none ∧ Fr n0 L ∧ Keep h h2 [o0, fa] ∧ own_W Z h2 o0 fa f' c' (own_ck 0 i1 w0) (own_ck 1 i1 w1) ∧ own_nf f' c' (own_ck 0 i1 w0) (own_ck 1 i1 w1)) (T.setTop (mkF m 0 #[.val (.ref o0), .val (.int i1), .unset] [])) := by
  have N := Fr.nil n0
  have K := Keep.refl h [o0, fa]
  obtain ⟨Fl, Fw, Ff, Fs, Fc, Aw⟩ := hW
  refine g_aloadN X B cw00_d0 (pc' := 1) rfl (v := (.ref o0)) rfl rfl ?_
  refine g_getF X B (B.w 10 rfl) Via.refl eT Fl cw00_d1 (pc' := 4) rfl (fun T1 X1 e1 => ?_)
  refine g_ifnullN X1 B cw00_d4 (pc' := 59) (by decide) rfl ?_
  refine g_iloadN X1 B cw00_d59 (pc' := 60) rfl (v := i1) rfl ?_
  refine g_bipush X1 B cw00_d60 (pc' := 62) rfl (v := (6 : Int32)) (by decide) ?_
  refine g_ishr X1 B cw00_d62 (pc' := 63) rfl (z := ((i1 >>> ((6 : Int32) &&& 31)))) rfl ?_
  rcases own_hi (i1 >>> ((6 : Int32) &&& 31)) with hb | hb | hb
  · rw [hb]
    refine g_aloadN X1 B cw00_d63 (pc' := 64) rfl (v := (.ref o0)) rfl rfl ?_
    refine g_getF X1 B (B.w 46 rfl) Via.refl e1 Ff cw00_d64 (pc' := 67) rfl (fun T2 X2 e2 => ?_)
    refine g_isub X2 B cw00_d67 (pc' := 68) rfl ?_
    refine g_istoreN X2 B cw00_d68 (pc' := 69) rfl (Ls' := #[.val (.ref o0), .val (.int i1), .val (.int ((0 : Int32) - (0 : Int32)))]) rfl ?_
    refine g_iloadN X2 B cw00_d69 (pc' := 70) rfl (v := ((0 : Int32) - (0 : Int32))) rfl ?_
    refine g_if_lt X2 B cw00_d70 (pcT := 106) (pcF := 73) (by decide) rfl rfl (fun c70_0 => ?_) (fun c70_0 => ?_)
    · exact absurd c70_0 (by decide)
    · refine g_iloadN X2 B cw00_d73 (pc' := 74) rfl (v := ((0 : Int32) - (0 : Int32))) rfl ?_
      refine g_aloadN X2 B cw00_d74 (pc' := 75) rfl (v := (.ref o0)) rfl rfl ?_
      refine g_getF X2 B (B.w 48 rfl) Via.refl e2 Fc cw00_d75 (pc' := 78) rfl (fun T3 X3 e3 => ?_)
      refine g_icmp_ge X3 B cw00_d78 (pcT := 106) (pcF := 81) (by decide) rfl rfl (fun c78_1 => ?_) (fun c78_1 => ?_)
      · exact absurd c78_1 (by decide)
      · have u0 : own_ck 0 i1 w0 = w0 := by rw [z0]; exact (if_pos hb).trans (own_z _)
        have u1 : own_ck 1 i1 w1 = w1 := if_neg (by rw [hb]; decide)
        rw [u0, u1]
        exact g_ret0 X3 B rfl cw00_d106 (by decide) (by decide) (by rw [e3]; exact ⟨_, _, rfl, N, K, ⟨Fl, Fw, Ff, Fs, Fc, Aw⟩, hnf⟩)
  · rw [hb]
    refine g_aloadN X1 B cw00_d63 (pc' := 64) rfl (v := (.ref o0)) rfl rfl ?_
    refine g_getF X1 B (B.w 46 rfl) Via.refl e1 Ff cw00_d64 (pc' := 67) rfl (fun T4 X4 e4 => ?_)
    refine g_isub X4 B cw00_d67 (pc' := 68) rfl ?_
    refine g_istoreN X4 B cw00_d68 (pc' := 69) rfl (Ls' := #[.val (.ref o0), .val (.int i1), .val (.int ((1 : Int32) - (0 : Int32)))]) rfl ?_
    refine g_iloadN X4 B cw00_d69 (pc' := 70) rfl (v := ((1 : Int32) - (0 : Int32))) rfl ?_
    refine g_if_lt X4 B cw00_d70 (pcT := 106) (pcF := 73) (by decide) rfl rfl (fun c70_0 => ?_) (fun c70_0 => ?_)
    · exact absurd c70_0 (by decide)
    · refine g_iloadN X4 B cw00_d73 (pc' := 74) rfl (v := ((1 : Int32) - (0 : Int32))) rfl ?_
      refine g_aloadN X4 B cw00_d74 (pc' := 75) rfl (v := (.ref o0)) rfl rfl ?_
      refine g_getF X4 B (B.w 48 rfl) Via.refl e4 Fc cw00_d75 (pc' := 78) rfl (fun T5 X5 e5 => ?_)
      refine g_icmp_ge X5 B cw00_d78 (pcT := 106) (pcF := 81) (by decide) rfl rfl (fun c78_1 => ?_) (fun c78_1 => ?_)
      · exact absurd c78_1 (by decide)
      · have u0 : own_ck 0 i1 w0 = w0 := if_neg (by rw [hb]; decide)
        have u1 : own_ck 1 i1 w1 = w1 := by rw [z1]; exact (if_pos hb).trans (own_z _)
        rw [u0, u1]
        exact g_ret0 X5 B rfl cw00_d106 (by decide) (by decide) (by rw [e5]; exact ⟨_, _, rfl, N, K, ⟨Fl, Fw, Ff, Fs, Fc, Aw⟩, hnf⟩)
  · refine g_aloadN X1 B cw00_d63 (pc' := 64) rfl (v := (.ref o0)) rfl rfl ?_
    refine g_getF X1 B (B.w 46 rfl) Via.refl e1 Ff cw00_d64 (pc' := 67) rfl (fun T6 X6 e6 => ?_)
    refine g_isub X6 B cw00_d67 (pc' := 68) rfl ?_
    refine g_istoreN X6 B cw00_d68 (pc' := 69) rfl (Ls' := #[.val (.ref o0), .val (.int i1), .val (.int (((i1 >>> ((6 : Int32) &&& 31))) - (0 : Int32)))]) rfl ?_
    refine g_iloadN X6 B cw00_d69 (pc' := 70) rfl (v := (((i1 >>> ((6 : Int32) &&& 31))) - (0 : Int32))) rfl ?_
    refine g_if_lt X6 B cw00_d70 (pcT := 106) (pcF := 73) (by decide) rfl rfl (fun c70_0 => ?_) (fun c70_0 => ?_)
    · have u0 : own_ck 0 i1 w0 = w0 := if_neg hb.1
      have u1 : own_ck 1 i1 w1 = w1 := if_neg hb.2
      rw [u0, u1]
      exact g_ret0 X6 B rfl cw00_d106 (by decide) (by decide) (by rw [e6]; exact ⟨_, _, rfl, N, K, ⟨Fl, Fw, Ff, Fs, Fc, Aw⟩, hnf⟩)
    · refine g_iloadN X6 B cw00_d73 (pc' := 74) rfl (v := (((i1 >>> ((6 : Int32) &&& 31))) - (0 : Int32))) rfl ?_
      refine g_aloadN X6 B cw00_d74 (pc' := 75) rfl (v := (.ref o0)) rfl rfl ?_
      refine g_getF X6 B (B.w 48 rfl) Via.refl e6 Fc cw00_d75 (pc' := 78) rfl (fun T7 X7 e7 => ?_)
      refine g_icmp_ge X7 B cw00_d78 (pcT := 106) (pcF := 81) (by decide) rfl rfl (fun c78_1 => ?_) (fun c78_1 => ?_)
      · exfalso; have e := c_isub (i1 >>> ((6 : Int32) &&& 31)) (0 : Int32); have r3 := (i1 >>> ((6 : Int32) &&& 31)).toInt_lt; have r4 := (i1 >>> ((6 : Int32) &&& 31)).le_toInt; have r1 := ((i1 >>> ((6 : Int32) &&& 31)) - (0 : Int32)).toInt_lt; have r2 := ((i1 >>> ((6 : Int32) &&& 31)) - (0 : Int32)).le_toInt; rw [Int32.lt_iff_toInt_lt] at c70_0 c78_1; have k0 : (0 : Int32).toInt = 0 := (by decide); have k1 : (0 : Int32).toInt = 0 := (by decide); have k2 : (0 : Int32).toInt = 0 := (by decide); have k3 : (1 : Int32).toInt = 1 := (by decide); rw [← Int32.toInt_inj, ← Int32.toInt_inj] at hb; omega
      · have u0 : own_ck 0 i1 w0 = w0 := if_neg hb.1
        have u1 : own_ck 1 i1 w1 = w1 := if_neg hb.2
        rw [u0, u1]
        exact g_ret0 X7 B rfl cw00_d106 (by decide) (by decide) (by rw [e7]; exact ⟨_, _, rfl, N, K, ⟨Fl, Fw, Ff, Fs, Fc, Aw⟩, hnf⟩)
theorem cw00_met (l : Launch) (Z : State) (a0 : Array Value) (hw : ∀ d ∈ tables_1, d.before a0 Z = true) (ws : List Jvm.Cond) (h : Heap) (o0 : Addr) (i1 : Int32) (fa : Addr) (w0 : Int64) (w1 : Int64) (n0 : Nat) (Zs : n0 ≤ h.size) (hE : Exa Z h o0 "com/example/unseen_nodes/unseennodes/NodeSet") (g0 : n0 ≤ o0) (ga : n0 ≤ fa) (noa : o0 ≠ fa) (hW : own_W Z h o0 fa (0 : Int32) (0 : Int32) w0 w1) (hnf : own_nf (0 : Int32) (0 : Int32) w0 w1) (z0 : w0 = 0) (z1 : w1 = 0) :
    Met l Z (⟨"com/example/unseen_nodes/unseennodes/NodeSet", "clear", "(I)V"⟩ : MethodName) prog_78_method_10_code 3 none ws (⟨2, 0, 0, 34⟩ : Room) #[(.ref o0), (.int i1)] h (fun v h2 L => ∃ f' c' : Int32, v = none ∧ Fr n0 L ∧ Keep h h2 [o0, fa] ∧ own_W Z h2 o0 fa f' c' (own_ck 0 i1 w0) (own_ck 1 i1 w1) ∧ own_nf f' c' (own_ck 0 i1 w0) (own_ck 1 i1 w1)) :=
  met_of own_pn_cw00 hw fun p e s m below meth c T X B eT => Go.top (own_ef_cw00 m o0 i1) (cw00_go X B eT o0 i1 fa w0 w1 n0 Zs hE g0 ga noa hW hnf z0 z1)
theorem cw10_d0 : decode prog_78_method_10_code 0 = .ok (.aload_n 0, 1) := by decide +kernel
theorem cw10_d1 : decode prog_78_method_10_code 1 = .ok (.getfield 7, 3) := by decide +kernel
theorem cw10_d4 : decode prog_78_method_10_code 4 = .ok (.ifnull 55, 3) := by decide +kernel
theorem cw10_d59 : decode prog_78_method_10_code 59 = .ok (.iload_n 1, 1) := by decide +kernel
theorem cw10_d60 : decode prog_78_method_10_code 60 = .ok (.bipush 6, 2) := by decide +kernel
theorem cw10_d62 : decode prog_78_method_10_code 62 = .ok (.ishr, 1) := by decide +kernel
theorem cw10_d63 : decode prog_78_method_10_code 63 = .ok (.aload_n 0, 1) := by decide +kernel
theorem cw10_d64 : decode prog_78_method_10_code 64 = .ok (.getfield 20, 3) := by decide +kernel
theorem cw10_d67 : decode prog_78_method_10_code 67 = .ok (.isub, 1) := by decide +kernel
theorem cw10_d68 : decode prog_78_method_10_code 68 = .ok (.istore_n 2, 1) := by decide +kernel
theorem cw10_d69 : decode prog_78_method_10_code 69 = .ok (.iload_n 2, 1) := by decide +kernel
theorem cw10_d70 : decode prog_78_method_10_code 70 = .ok (.ifCond .lt 36, 3) := by decide +kernel
theorem cw10_d73 : decode prog_78_method_10_code 73 = .ok (.iload_n 2, 1) := by decide +kernel
theorem cw10_d74 : decode prog_78_method_10_code 74 = .ok (.aload_n 0, 1) := by decide +kernel
theorem cw10_d75 : decode prog_78_method_10_code 75 = .ok (.getfield 24, 3) := by decide +kernel
theorem cw10_d78 : decode prog_78_method_10_code 78 = .ok (.if_icmp .ge 28, 3) := by decide +kernel
theorem cw10_d106 : decode prog_78_method_10_code 106 = .ok (.return_, 1) := by decide +kernel
theorem own_pn_cw10 : plainFor (⟨"com/example/unseen_nodes/unseennodes/NodeSet", "clear", "(I)V"⟩ : MethodName) = true := plainFor_of_name (by first | (simp [plainName, overriddenIn]; done) | decide +kernel)
theorem own_ef_cw10 (m : MethodId) (o0 : Addr) (i1 : Int32) : entryFrame m #[(.ref o0), (.int i1)] 3 = (mkF m 0 #[.val (.ref o0), .val (.int i1), .unset] []) := by first | (simp [entryFrame, mkF, argsToLocals, Value.category]; done) | rfl
set_option maxRecDepth 65536 in
set_option maxHeartbeats 40000000 in
theorem cw10_go {p : Program} {l : Launch} {e : Env} {s : State} {m : MethodId} {args : Array Value} {below : List Frame} {meth : Method} {c : Code} {T : State} {Z : State} {a0 : Array Value} {h : Heap} (X : Stand p l e (⟨2, 0, 0, 34⟩ : Room) s m args below meth c T [] 0 0) (B : Bdy p s m meth c Z a0 "com/example/unseen_nodes/unseennodes/NodeSet" "clear" prog_78_method_10_code 3 none tables_1) (eT : T.heap = h) (o0 : Addr) (i1 : Int32) (fa : Addr) (w0 : Int64) (w1 : Int64) (n0 : Nat) (Zs : n0 ≤ h.size) (hE : Exa Z h o0 "com/example/unseen_nodes/unseennodes/NodeSet") (g0 : n0 ≤ o0) (ga : n0 ≤ fa) (noa : o0 ≠ fa) (hW : own_W Z h o0 fa (1 : Int32) (0 : Int32) w0 w1) (hnf : own_nf (1 : Int32) (0 : Int32) w0 w1) (z0 : w0 = 0) (z1 : w1 = 0) :
    Go p e below s 0 0 (fun v h2 L => ∃ f' c' : Int32, v = none ∧ Fr n0 L ∧ Keep h h2 [o0, fa] ∧ own_W Z h2 o0 fa f' c' (own_ck 0 i1 w0) (own_ck 1 i1 w1) ∧ own_nf f' c' (own_ck 0 i1 w0) (own_ck 1 i1 w1)) (T.setTop (mkF m 0 #[.val (.ref o0), .val (.int i1), .unset] [])) := by
  have N := Fr.nil n0
  have K := Keep.refl h [o0, fa]
  obtain ⟨Fl, Fw, Ff, Fs, Fc, Aw⟩ := hW
  refine g_aloadN X B cw10_d0 (pc' := 1) rfl (v := (.ref o0)) rfl rfl ?_
  refine g_getF X B (B.w 10 rfl) Via.refl eT Fl cw10_d1 (pc' := 4) rfl (fun T1 X1 e1 => ?_)
  refine g_ifnullN X1 B cw10_d4 (pc' := 59) (by decide) rfl ?_
  refine g_iloadN X1 B cw10_d59 (pc' := 60) rfl (v := i1) rfl ?_
  refine g_bipush X1 B cw10_d60 (pc' := 62) rfl (v := (6 : Int32)) (by decide) ?_
  refine g_ishr X1 B cw10_d62 (pc' := 63) rfl (z := ((i1 >>> ((6 : Int32) &&& 31)))) rfl ?_
  rcases own_hi (i1 >>> ((6 : Int32) &&& 31)) with hb | hb | hb
  · rw [hb]
    refine g_aloadN X1 B cw10_d63 (pc' := 64) rfl (v := (.ref o0)) rfl rfl ?_
    refine g_getF X1 B (B.w 46 rfl) Via.refl e1 Ff cw10_d64 (pc' := 67) rfl (fun T2 X2 e2 => ?_)
    refine g_isub X2 B cw10_d67 (pc' := 68) rfl ?_
    refine g_istoreN X2 B cw10_d68 (pc' := 69) rfl (Ls' := #[.val (.ref o0), .val (.int i1), .val (.int ((0 : Int32) - (1 : Int32)))]) rfl ?_
    refine g_iloadN X2 B cw10_d69 (pc' := 70) rfl (v := ((0 : Int32) - (1 : Int32))) rfl ?_
    refine g_if_lt X2 B cw10_d70 (pcT := 106) (pcF := 73) (by decide) rfl rfl (fun c70_0 => ?_) (fun c70_0 => ?_)
    · have u0 : own_ck 0 i1 w0 = w0 := by rw [z0]; exact (if_pos hb).trans (own_z _)
      have u1 : own_ck 1 i1 w1 = w1 := if_neg (by rw [hb]; decide)
      rw [u0, u1]
      exact g_ret0 X2 B rfl cw10_d106 (by decide) (by decide) (by rw [e2]; exact ⟨_, _, rfl, N, K, ⟨Fl, Fw, Ff, Fs, Fc, Aw⟩, hnf⟩)
    · exact absurd (by decide) c70_0
  · rw [hb]
    refine g_aloadN X1 B cw10_d63 (pc' := 64) rfl (v := (.ref o0)) rfl rfl ?_
    refine g_getF X1 B (B.w 46 rfl) Via.refl e1 Ff cw10_d64 (pc' := 67) rfl (fun T3 X3 e3 => ?_)
    refine g_isub X3 B cw10_d67 (pc' := 68) rfl ?_
    refine g_istoreN X3 B cw10_d68 (pc' := 69) rfl (Ls' := #[.val (.ref o0), .val (.int i1), .val (.int ((1 : Int32) - (1 : Int32)))]) rfl ?_
    refine g_iloadN X3 B cw10_d69 (pc' := 70) rfl (v := ((1 : Int32) - (1 : Int32))) rfl ?_
    refine g_if_lt X3 B cw10_d70 (pcT := 106) (pcF := 73) (by decide) rfl rfl (fun c70_0 => ?_) (fun c70_0 => ?_)
    · exact absurd c70_0 (by decide)
    · refine g_iloadN X3 B cw10_d73 (pc' := 74) rfl (v := ((1 : Int32) - (1 : Int32))) rfl ?_
      refine g_aloadN X3 B cw10_d74 (pc' := 75) rfl (v := (.ref o0)) rfl rfl ?_
      refine g_getF X3 B (B.w 48 rfl) Via.refl e3 Fc cw10_d75 (pc' := 78) rfl (fun T4 X4 e4 => ?_)
      refine g_icmp_ge X4 B cw10_d78 (pcT := 106) (pcF := 81) (by decide) rfl rfl (fun c78_1 => ?_) (fun c78_1 => ?_)
      · exact absurd c78_1 (by decide)
      · have u0 : own_ck 0 i1 w0 = w0 := if_neg (by rw [hb]; decide)
        have u1 : own_ck 1 i1 w1 = w1 := by rw [z1]; exact (if_pos hb).trans (own_z _)
        rw [u0, u1]
        exact g_ret0 X4 B rfl cw10_d106 (by decide) (by decide) (by rw [e4]; exact ⟨_, _, rfl, N, K, ⟨Fl, Fw, Ff, Fs, Fc, Aw⟩, hnf⟩)
  · refine g_aloadN X1 B cw10_d63 (pc' := 64) rfl (v := (.ref o0)) rfl rfl ?_
    refine g_getF X1 B (B.w 46 rfl) Via.refl e1 Ff cw10_d64 (pc' := 67) rfl (fun T5 X5 e5 => ?_)
    refine g_isub X5 B cw10_d67 (pc' := 68) rfl ?_
    refine g_istoreN X5 B cw10_d68 (pc' := 69) rfl (Ls' := #[.val (.ref o0), .val (.int i1), .val (.int (((i1 >>> ((6 : Int32) &&& 31))) - (1 : Int32)))]) rfl ?_
    refine g_iloadN X5 B cw10_d69 (pc' := 70) rfl (v := (((i1 >>> ((6 : Int32) &&& 31))) - (1 : Int32))) rfl ?_
    refine g_if_lt X5 B cw10_d70 (pcT := 106) (pcF := 73) (by decide) rfl rfl (fun c70_0 => ?_) (fun c70_0 => ?_)
    · have u0 : own_ck 0 i1 w0 = w0 := if_neg hb.1
      have u1 : own_ck 1 i1 w1 = w1 := if_neg hb.2
      rw [u0, u1]
      exact g_ret0 X5 B rfl cw10_d106 (by decide) (by decide) (by rw [e5]; exact ⟨_, _, rfl, N, K, ⟨Fl, Fw, Ff, Fs, Fc, Aw⟩, hnf⟩)
    · refine g_iloadN X5 B cw10_d73 (pc' := 74) rfl (v := (((i1 >>> ((6 : Int32) &&& 31))) - (1 : Int32))) rfl ?_
      refine g_aloadN X5 B cw10_d74 (pc' := 75) rfl (v := (.ref o0)) rfl rfl ?_
      refine g_getF X5 B (B.w 48 rfl) Via.refl e5 Fc cw10_d75 (pc' := 78) rfl (fun T6 X6 e6 => ?_)
      refine g_icmp_ge X6 B cw10_d78 (pcT := 106) (pcF := 81) (by decide) rfl rfl (fun c78_1 => ?_) (fun c78_1 => ?_)
      · exfalso; have e := c_isub (i1 >>> ((6 : Int32) &&& 31)) (1 : Int32); have r3 := (i1 >>> ((6 : Int32) &&& 31)).toInt_lt; have r4 := (i1 >>> ((6 : Int32) &&& 31)).le_toInt; have r1 := ((i1 >>> ((6 : Int32) &&& 31)) - (1 : Int32)).toInt_lt; have r2 := ((i1 >>> ((6 : Int32) &&& 31)) - (1 : Int32)).le_toInt; rw [Int32.lt_iff_toInt_lt] at c70_0 c78_1; have k0 : (1 : Int32).toInt = 1 := (by decide); have k1 : (0 : Int32).toInt = 0 := (by decide); have k2 : (0 : Int32).toInt = 0 := (by decide); have k3 : (1 : Int32).toInt = 1 := (by decide); rw [← Int32.toInt_inj, ← Int32.toInt_inj] at hb; omega
      · have u0 : own_ck 0 i1 w0 = w0 := if_neg hb.1
        have u1 : own_ck 1 i1 w1 = w1 := if_neg hb.2
        rw [u0, u1]
        exact g_ret0 X6 B rfl cw10_d106 (by decide) (by decide) (by rw [e6]; exact ⟨_, _, rfl, N, K, ⟨Fl, Fw, Ff, Fs, Fc, Aw⟩, hnf⟩)
theorem cw10_met (l : Launch) (Z : State) (a0 : Array Value) (hw : ∀ d ∈ tables_1, d.before a0 Z = true) (ws : List Jvm.Cond) (h : Heap) (o0 : Addr) (i1 : Int32) (fa : Addr) (w0 : Int64) (w1 : Int64) (n0 : Nat) (Zs : n0 ≤ h.size) (hE : Exa Z h o0 "com/example/unseen_nodes/unseennodes/NodeSet") (g0 : n0 ≤ o0) (ga : n0 ≤ fa) (noa : o0 ≠ fa) (hW : own_W Z h o0 fa (1 : Int32) (0 : Int32) w0 w1) (hnf : own_nf (1 : Int32) (0 : Int32) w0 w1) (z0 : w0 = 0) (z1 : w1 = 0) :
    Met l Z (⟨"com/example/unseen_nodes/unseennodes/NodeSet", "clear", "(I)V"⟩ : MethodName) prog_78_method_10_code 3 none ws (⟨2, 0, 0, 34⟩ : Room) #[(.ref o0), (.int i1)] h (fun v h2 L => ∃ f' c' : Int32, v = none ∧ Fr n0 L ∧ Keep h h2 [o0, fa] ∧ own_W Z h2 o0 fa f' c' (own_ck 0 i1 w0) (own_ck 1 i1 w1) ∧ own_nf f' c' (own_ck 0 i1 w0) (own_ck 1 i1 w1)) :=
  met_of own_pn_cw10 hw fun p e s m below meth c T X B eT => Go.top (own_ef_cw10 m o0 i1) (cw10_go X B eT o0 i1 fa w0 w1 n0 Zs hE g0 ga noa hW hnf z0 z1)
theorem cw20_d0 : decode prog_78_method_10_code 0 = .ok (.aload_n 0, 1) := by decide +kernel
theorem cw20_d1 : decode prog_78_method_10_code 1 = .ok (.getfield 7, 3) := by decide +kernel
theorem cw20_d4 : decode prog_78_method_10_code 4 = .ok (.ifnull 55, 3) := by decide +kernel
theorem cw20_d59 : decode prog_78_method_10_code 59 = .ok (.iload_n 1, 1) := by decide +kernel
theorem cw20_d60 : decode prog_78_method_10_code 60 = .ok (.bipush 6, 2) := by decide +kernel
theorem cw20_d62 : decode prog_78_method_10_code 62 = .ok (.ishr, 1) := by decide +kernel
theorem cw20_d63 : decode prog_78_method_10_code 63 = .ok (.aload_n 0, 1) := by decide +kernel
theorem cw20_d64 : decode prog_78_method_10_code 64 = .ok (.getfield 20, 3) := by decide +kernel
theorem cw20_d67 : decode prog_78_method_10_code 67 = .ok (.isub, 1) := by decide +kernel
theorem cw20_d68 : decode prog_78_method_10_code 68 = .ok (.istore_n 2, 1) := by decide +kernel
theorem cw20_d69 : decode prog_78_method_10_code 69 = .ok (.iload_n 2, 1) := by decide +kernel
theorem cw20_d70 : decode prog_78_method_10_code 70 = .ok (.ifCond .lt 36, 3) := by decide +kernel
theorem cw20_d73 : decode prog_78_method_10_code 73 = .ok (.iload_n 2, 1) := by decide +kernel
theorem cw20_d74 : decode prog_78_method_10_code 74 = .ok (.aload_n 0, 1) := by decide +kernel
theorem cw20_d75 : decode prog_78_method_10_code 75 = .ok (.getfield 24, 3) := by decide +kernel
theorem cw20_d78 : decode prog_78_method_10_code 78 = .ok (.if_icmp .ge 28, 3) := by decide +kernel
theorem cw20_d106 : decode prog_78_method_10_code 106 = .ok (.return_, 1) := by decide +kernel
theorem own_pn_cw20 : plainFor (⟨"com/example/unseen_nodes/unseennodes/NodeSet", "clear", "(I)V"⟩ : MethodName) = true := plainFor_of_name (by first | (simp [plainName, overriddenIn]; done) | decide +kernel)
theorem own_ef_cw20 (m : MethodId) (o0 : Addr) (i1 : Int32) : entryFrame m #[(.ref o0), (.int i1)] 3 = (mkF m 0 #[.val (.ref o0), .val (.int i1), .unset] []) := by first | (simp [entryFrame, mkF, argsToLocals, Value.category]; done) | rfl
set_option maxRecDepth 65536 in
set_option maxHeartbeats 40000000 in
theorem cw20_go {p : Program} {l : Launch} {e : Env} {s : State} {m : MethodId} {args : Array Value} {below : List Frame} {meth : Method} {c : Code} {T : State} {Z : State} {a0 : Array Value} {h : Heap} (X : Stand p l e (⟨2, 0, 0, 34⟩ : Room) s m args below meth c T [] 0 0) (B : Bdy p s m meth c Z a0 "com/example/unseen_nodes/unseennodes/NodeSet" "clear" prog_78_method_10_code 3 none tables_1) (eT : T.heap = h) (o0 : Addr) (i1 : Int32) (fa : Addr) (w0 : Int64) (w1 : Int64) (n0 : Nat) (Zs : n0 ≤ h.size) (hE : Exa Z h o0 "com/example/unseen_nodes/unseennodes/NodeSet") (g0 : n0 ≤ o0) (ga : n0 ≤ fa) (noa : o0 ≠ fa) (hW : own_W Z h o0 fa (2 : Int32) (0 : Int32) w0 w1) (hnf : own_nf (2 : Int32) (0 : Int32) w0 w1) (z0 : w0 = 0) (z1 : w1 = 0) :
    Go p e below s 0 0 (fun v h2 L => ∃ f' c' : Int32, v = none ∧ Fr n0 L ∧ Keep h h2 [o0, fa] ∧ own_W Z h2 o0 fa f' c' (own_ck 0 i1 w0) (own_ck 1 i1 w1) ∧ own_nf f' c' (own_ck 0 i1 w0) (own_ck 1 i1 w1)) (T.setTop (mkF m 0 #[.val (.ref o0), .val (.int i1), .unset] [])) := by
  have N := Fr.nil n0
  have K := Keep.refl h [o0, fa]
  obtain ⟨Fl, Fw, Ff, Fs, Fc, Aw⟩ := hW
  refine g_aloadN X B cw20_d0 (pc' := 1) rfl (v := (.ref o0)) rfl rfl ?_
  refine g_getF X B (B.w 10 rfl) Via.refl eT Fl cw20_d1 (pc' := 4) rfl (fun T1 X1 e1 => ?_)
  refine g_ifnullN X1 B cw20_d4 (pc' := 59) (by decide) rfl ?_
  refine g_iloadN X1 B cw20_d59 (pc' := 60) rfl (v := i1) rfl ?_
  refine g_bipush X1 B cw20_d60 (pc' := 62) rfl (v := (6 : Int32)) (by decide) ?_
  refine g_ishr X1 B cw20_d62 (pc' := 63) rfl (z := ((i1 >>> ((6 : Int32) &&& 31)))) rfl ?_
  rcases own_hi (i1 >>> ((6 : Int32) &&& 31)) with hb | hb | hb
  · rw [hb]
    refine g_aloadN X1 B cw20_d63 (pc' := 64) rfl (v := (.ref o0)) rfl rfl ?_
    refine g_getF X1 B (B.w 46 rfl) Via.refl e1 Ff cw20_d64 (pc' := 67) rfl (fun T2 X2 e2 => ?_)
    refine g_isub X2 B cw20_d67 (pc' := 68) rfl ?_
    refine g_istoreN X2 B cw20_d68 (pc' := 69) rfl (Ls' := #[.val (.ref o0), .val (.int i1), .val (.int ((0 : Int32) - (2 : Int32)))]) rfl ?_
    refine g_iloadN X2 B cw20_d69 (pc' := 70) rfl (v := ((0 : Int32) - (2 : Int32))) rfl ?_
    refine g_if_lt X2 B cw20_d70 (pcT := 106) (pcF := 73) (by decide) rfl rfl (fun c70_0 => ?_) (fun c70_0 => ?_)
    · have u0 : own_ck 0 i1 w0 = w0 := by rw [z0]; exact (if_pos hb).trans (own_z _)
      have u1 : own_ck 1 i1 w1 = w1 := if_neg (by rw [hb]; decide)
      rw [u0, u1]
      exact g_ret0 X2 B rfl cw20_d106 (by decide) (by decide) (by rw [e2]; exact ⟨_, _, rfl, N, K, ⟨Fl, Fw, Ff, Fs, Fc, Aw⟩, hnf⟩)
    · exact absurd (by decide) c70_0
  · rw [hb]
    refine g_aloadN X1 B cw20_d63 (pc' := 64) rfl (v := (.ref o0)) rfl rfl ?_
    refine g_getF X1 B (B.w 46 rfl) Via.refl e1 Ff cw20_d64 (pc' := 67) rfl (fun T3 X3 e3 => ?_)
    refine g_isub X3 B cw20_d67 (pc' := 68) rfl ?_
    refine g_istoreN X3 B cw20_d68 (pc' := 69) rfl (Ls' := #[.val (.ref o0), .val (.int i1), .val (.int ((1 : Int32) - (2 : Int32)))]) rfl ?_
    refine g_iloadN X3 B cw20_d69 (pc' := 70) rfl (v := ((1 : Int32) - (2 : Int32))) rfl ?_
    refine g_if_lt X3 B cw20_d70 (pcT := 106) (pcF := 73) (by decide) rfl rfl (fun c70_0 => ?_) (fun c70_0 => ?_)
    · have u0 : own_ck 0 i1 w0 = w0 := if_neg (by rw [hb]; decide)
      have u1 : own_ck 1 i1 w1 = w1 := by rw [z1]; exact (if_pos hb).trans (own_z _)
      rw [u0, u1]
      exact g_ret0 X3 B rfl cw20_d106 (by decide) (by decide) (by rw [e3]; exact ⟨_, _, rfl, N, K, ⟨Fl, Fw, Ff, Fs, Fc, Aw⟩, hnf⟩)
    · exact absurd (by decide) c70_0
  · refine g_aloadN X1 B cw20_d63 (pc' := 64) rfl (v := (.ref o0)) rfl rfl ?_
    refine g_getF X1 B (B.w 46 rfl) Via.refl e1 Ff cw20_d64 (pc' := 67) rfl (fun T4 X4 e4 => ?_)
    refine g_isub X4 B cw20_d67 (pc' := 68) rfl ?_
    refine g_istoreN X4 B cw20_d68 (pc' := 69) rfl (Ls' := #[.val (.ref o0), .val (.int i1), .val (.int (((i1 >>> ((6 : Int32) &&& 31))) - (2 : Int32)))]) rfl ?_
    refine g_iloadN X4 B cw20_d69 (pc' := 70) rfl (v := (((i1 >>> ((6 : Int32) &&& 31))) - (2 : Int32))) rfl ?_
    refine g_if_lt X4 B cw20_d70 (pcT := 106) (pcF := 73) (by decide) rfl rfl (fun c70_0 => ?_) (fun c70_0 => ?_)
    · have u0 : own_ck 0 i1 w0 = w0 := if_neg hb.1
      have u1 : own_ck 1 i1 w1 = w1 := if_neg hb.2
      rw [u0, u1]
      exact g_ret0 X4 B rfl cw20_d106 (by decide) (by decide) (by rw [e4]; exact ⟨_, _, rfl, N, K, ⟨Fl, Fw, Ff, Fs, Fc, Aw⟩, hnf⟩)
    · refine g_iloadN X4 B cw20_d73 (pc' := 74) rfl (v := (((i1 >>> ((6 : Int32) &&& 31))) - (2 : Int32))) rfl ?_
      refine g_aloadN X4 B cw20_d74 (pc' := 75) rfl (v := (.ref o0)) rfl rfl ?_
      refine g_getF X4 B (B.w 48 rfl) Via.refl e4 Fc cw20_d75 (pc' := 78) rfl (fun T5 X5 e5 => ?_)
      refine g_icmp_ge X5 B cw20_d78 (pcT := 106) (pcF := 81) (by decide) rfl rfl (fun c78_1 => ?_) (fun c78_1 => ?_)
      · exfalso; have e := c_isub (i1 >>> ((6 : Int32) &&& 31)) (2 : Int32); have r3 := (i1 >>> ((6 : Int32) &&& 31)).toInt_lt; have r4 := (i1 >>> ((6 : Int32) &&& 31)).le_toInt; have r1 := ((i1 >>> ((6 : Int32) &&& 31)) - (2 : Int32)).toInt_lt; have r2 := ((i1 >>> ((6 : Int32) &&& 31)) - (2 : Int32)).le_toInt; rw [Int32.lt_iff_toInt_lt] at c70_0 c78_1; have k0 : (2 : Int32).toInt = 2 := (by decide); have k1 : (0 : Int32).toInt = 0 := (by decide); have k2 : (0 : Int32).toInt = 0 := (by decide); have k3 : (1 : Int32).toInt = 1 := (by decide); rw [← Int32.toInt_inj, ← Int32.toInt_inj] at hb; omega
      · have u0 : own_ck 0 i1 w0 = w0 := if_neg hb.1
        have u1 : own_ck 1 i1 w1 = w1 := if_neg hb.2
        rw [u0, u1]
        exact g_ret0 X5 B rfl cw20_d106 (by decide) (by decide) (by rw [e5]; exact ⟨_, _, rfl, N, K, ⟨Fl, Fw, Ff, Fs, Fc, Aw⟩, hnf⟩)
theorem cw20_met (l : Launch) (Z : State) (a0 : Array Value) (hw : ∀ d ∈ tables_1, d.before a0 Z = true) (ws : List Jvm.Cond) (h : Heap) (o0 : Addr) (i1 : Int32) (fa : Addr) (w0 : Int64) (w1 : Int64) (n0 : Nat) (Zs : n0 ≤ h.size) (hE : Exa Z h o0 "com/example/unseen_nodes/unseennodes/NodeSet") (g0 : n0 ≤ o0) (ga : n0 ≤ fa) (noa : o0 ≠ fa) (hW : own_W Z h o0 fa (2 : Int32) (0 : Int32) w0 w1) (hnf : own_nf (2 : Int32) (0 : Int32) w0 w1) (z0 : w0 = 0) (z1 : w1 = 0) :
    Met l Z (⟨"com/example/unseen_nodes/unseennodes/NodeSet", "clear", "(I)V"⟩ : MethodName) prog_78_method_10_code 3 none ws (⟨2, 0, 0, 34⟩ : Room) #[(.ref o0), (.int i1)] h (fun v h2 L => ∃ f' c' : Int32, v = none ∧ Fr n0 L ∧ Keep h h2 [o0, fa] ∧ own_W Z h2 o0 fa f' c' (own_ck 0 i1 w0) (own_ck 1 i1 w1) ∧ own_nf f' c' (own_ck 0 i1 w0) (own_ck 1 i1 w1)) :=
  met_of own_pn_cw20 hw fun p e s m below meth c T X B eT => Go.top (own_ef_cw20 m o0 i1) (cw20_go X B eT o0 i1 fa w0 w1 n0 Zs hE g0 ga noa hW hnf z0 z1)
theorem cw_any (l : Launch) (Z : State) (a0 : Array Value) (hw : ∀ d ∈ tables_1, d.before a0 Z = true) (ws : List Jvm.Cond) (h : Heap) (o0 : Addr) (i1 : Int32) (fa : Addr) (f c : Int32) (w0 w1 : Int64) (n0 : Nat) (Zs : n0 ≤ h.size) (hE : Exa Z h o0 "com/example/unseen_nodes/unseennodes/NodeSet") (g0 : n0 ≤ o0) (ga : n0 ≤ fa) (noa : o0 ≠ fa) (hW : own_W Z h o0 fa f c w0 w1) (hnf : own_nf f c w0 w1) :
    Met l Z (⟨"com/example/unseen_nodes/unseennodes/NodeSet", "clear", "(I)V"⟩ : MethodName) prog_78_method_10_code 3 none ws (⟨2, 0, 0, 34⟩ : Room) #[.ref o0, .int i1] h (fun v h2 L => ∃ f' c' : Int32, v = none ∧ Fr n0 L ∧ Keep h h2 [o0, fa] ∧ own_W Z h2 o0 fa f' c' (own_ck 0 i1 w0) (own_ck 1 i1 w1) ∧ own_nf f' c' (own_ck 0 i1 w0) (own_ck 1 i1 w1)) := by
  rcases id hnf with ⟨rfl, rfl, a, b⟩ | ⟨rfl, rfl, a, b⟩ | ⟨rfl, rfl, a, b⟩ | ⟨rfl | rfl | rfl, rfl, a, b⟩
  · exact cw02_met l Z a0 hw ws h o0 i1 fa w0 w1 n0 Zs hE g0 ga noa hW hnf 
  · exact cw01_met l Z a0 hw ws h o0 i1 fa w0 w1 n0 Zs hE g0 ga noa hW hnf b
  · exact cw11_met l Z a0 hw ws h o0 i1 fa w0 w1 n0 Zs hE g0 ga noa hW hnf a
  · exact cw00_met l Z a0 hw ws h o0 i1 fa w0 w1 n0 Zs hE g0 ga noa hW hnf a b
  · exact cw10_met l Z a0 hw ws h o0 i1 fa w0 w1 n0 Zs hE g0 ga noa hW hnf a b
  · exact cw20_met l Z a0 hw ws h o0 i1 fa w0 w1 n0 Zs hE g0 ga noa hW hnf a b
theorem il_d0 : decode prog_78_method_18_code 0 = .ok (.aload_n 0, 1) := by decide +kernel
theorem il_d1 : decode prog_78_method_18_code 1 = .ok (.getfield 7, 3) := by decide +kernel
theorem il_d4 : decode prog_78_method_18_code 4 = .ok (.ifnull 18, 3) := by decide +kernel
theorem il_d7 : decode prog_78_method_18_code 7 = .ok (.aload_n 0, 1) := by decide +kernel
theorem il_d8 : decode prog_78_method_18_code 8 = .ok (.getfield 30, 3) := by decide +kernel
theorem il_d11 : decode prog_78_method_18_code 11 = .ok (.ifCond .ne 7, 3) := by decide +kernel
theorem il_d14 : decode prog_78_method_18_code 14 = .ok (.iconst 1, 1) := by decide +kernel
theorem il_d15 : decode prog_78_method_18_code 15 = .ok (.goto 19, 3) := by decide +kernel
theorem il_d18 : decode prog_78_method_18_code 18 = .ok (.iconst 0, 1) := by decide +kernel
theorem il_d19 : decode prog_78_method_18_code 19 = .ok (.goto 15, 3) := by decide +kernel
theorem il_d34 : decode prog_78_method_18_code 34 = .ok (.ireturn, 1) := by decide +kernel
theorem own_pn_il : plainFor (⟨"com/example/unseen_nodes/unseennodes/NodeSet", "isEmpty", "()Z"⟩ : MethodName) = true := plainFor_of_name (by first | (simp [plainName, overriddenIn]; done) | decide +kernel)
theorem own_ef_il (m : MethodId) (o0 : Addr) : entryFrame m #[(.ref o0)] 1 = (mkF m 0 #[.val (.ref o0)] []) := by first | (simp [entryFrame, mkF, argsToLocals, Value.category]; done) | rfl
set_option maxRecDepth 65536 in
set_option maxHeartbeats 40000000 in
theorem il_go {p : Program} {l : Launch} {e : Env} {s : State} {m : MethodId} {args : Array Value} {below : List Frame} {meth : Method} {c : Code} {T : State} {Z : State} {a0 : Array Value} {h : Heap} (X : Stand p l e (⟨0, 0, 0, 0⟩ : Room) s m args below meth c T [] 0 0) (B : Bdy p s m meth c Z a0 "com/example/unseen_nodes/unseennodes/NodeSet" "isEmpty" prog_78_method_18_code 1 (some .boolean) tables_1) (eT : T.heap = h) (o0 : Addr) (fa : Addr) (cn : Int32) (Fl : Fld Z h o0 "com/example/unseen_nodes/unseennodes/NodeSet" "listed" "[I" (.ref fa)) (Fc : Fld Z h o0 "com/example/unseen_nodes/unseennodes/NodeSet" "listedCount" "I" (.int cn)) :
    Go p e below s 0 0 (PQ (some (.int (if cn = 0 then 1 else 0))) h []) (T.setTop (mkF m 0 #[.val (.ref o0)] [])) := by
  refine g_aloadN X B il_d0 (pc' := 1) rfl (v := (.ref o0)) rfl rfl ?_
  refine g_getF X B (B.w 10 rfl) Via.refl eT Fl il_d1 (pc' := 4) rfl (fun T1 X1 e1 => ?_)
  refine g_ifnullR X1 B il_d4 (pc' := 7) rfl ?_
  refine g_aloadN X1 B il_d7 (pc' := 8) rfl (v := (.ref o0)) rfl rfl ?_
  refine g_getF X1 B (B.w 21 rfl) Via.refl e1 Fc il_d8 (pc' := 11) rfl (fun T2 X2 e2 => ?_)
  refine g_if_ne X2 B il_d11 (pcT := 18) (pcF := 14) (by decide) rfl rfl (fun c11_0 => ?_) (fun c11_0 => ?_)
  · refine g_iconst X2 B il_d14 (pc' := 15) rfl (v := (1 : Int32)) (by decide) ?_
    refine g_goto X2 B il_d15 (pc' := 34) (by decide) rfl ?_
    exact g_retN X2 B (t := .boolean) rfl (by simp) il_d34 (by decide) (by decide) ⟨by rw [if_pos c11_0]; exact congrArg (fun z => some (Value.int z)) (by decide : nar .boolean (1 : Int32) = 1), e2, rfl⟩
  · refine g_iconst X2 B il_d18 (pc' := 19) rfl (v := (0 : Int32)) (by decide) ?_
    refine g_goto X2 B il_d19 (pc' := 34) (by decide) rfl ?_
    exact g_retN X2 B (t := .boolean) rfl (by simp) il_d34 (by decide) (by decide) ⟨by rw [if_neg c11_0]; exact congrArg (fun z => some (Value.int z)) (by decide : nar .boolean (0 : Int32) = 0), e2, rfl⟩
theorem il_met (l : Launch) (Z : State) (a0 : Array Value) (hw : ∀ d ∈ tables_1, d.before a0 Z = true) (ws : List Jvm.Cond) (h : Heap) (o0 : Addr) (fa : Addr) (cn : Int32) (Fl : Fld Z h o0 "com/example/unseen_nodes/unseennodes/NodeSet" "listed" "[I" (.ref fa)) (Fc : Fld Z h o0 "com/example/unseen_nodes/unseennodes/NodeSet" "listedCount" "I" (.int cn)) :
    Met l Z (⟨"com/example/unseen_nodes/unseennodes/NodeSet", "isEmpty", "()Z"⟩ : MethodName) prog_78_method_18_code 1 (some .boolean) ws (⟨0, 0, 0, 0⟩ : Room) #[(.ref o0)] h (PQ (some (.int (if cn = 0 then 1 else 0))) h []) :=
  met_of own_pn_il hw fun p e s m below meth c T X B eT => Go.top (own_ef_il m o0) (il_go X B eT o0 fa cn Fl Fc)
theorem iw_d0 : decode prog_78_method_18_code 0 = .ok (.aload_n 0, 1) := by decide +kernel
theorem iw_d1 : decode prog_78_method_18_code 1 = .ok (.getfield 7, 3) := by decide +kernel
theorem iw_d4 : decode prog_78_method_18_code 4 = .ok (.ifnull 18, 3) := by decide +kernel
theorem iw_d22 : decode prog_78_method_18_code 22 = .ok (.aload_n 0, 1) := by decide +kernel
theorem iw_d23 : decode prog_78_method_18_code 23 = .ok (.getfield 24, 3) := by decide +kernel
theorem iw_d26 : decode prog_78_method_18_code 26 = .ok (.ifCond .ne 7, 3) := by decide +kernel
theorem iw_d29 : decode prog_78_method_18_code 29 = .ok (.iconst 1, 1) := by decide +kernel
theorem iw_d30 : decode prog_78_method_18_code 30 = .ok (.goto 4, 3) := by decide +kernel
theorem iw_d33 : decode prog_78_method_18_code 33 = .ok (.iconst 0, 1) := by decide +kernel
theorem iw_d34 : decode prog_78_method_18_code 34 = .ok (.ireturn, 1) := by decide +kernel
theorem own_pn_iw : plainFor (⟨"com/example/unseen_nodes/unseennodes/NodeSet", "isEmpty", "()Z"⟩ : MethodName) = true := plainFor_of_name (by first | (simp [plainName, overriddenIn]; done) | decide +kernel)
theorem own_ef_iw (m : MethodId) (o0 : Addr) : entryFrame m #[(.ref o0)] 1 = (mkF m 0 #[.val (.ref o0)] []) := by first | (simp [entryFrame, mkF, argsToLocals, Value.category]; done) | rfl
set_option maxRecDepth 65536 in
set_option maxHeartbeats 40000000 in
theorem iw_go {p : Program} {l : Launch} {e : Env} {s : State} {m : MethodId} {args : Array Value} {below : List Frame} {meth : Method} {c : Code} {T : State} {Z : State} {a0 : Array Value} {h : Heap} (X : Stand p l e (⟨0, 0, 0, 0⟩ : Room) s m args below meth c T [] 0 0) (B : Bdy p s m meth c Z a0 "com/example/unseen_nodes/unseennodes/NodeSet" "isEmpty" prog_78_method_18_code 1 (some .boolean) tables_1) (eT : T.heap = h) (o0 : Addr) (cn : Int32) (Fl : Fld Z h o0 "com/example/unseen_nodes/unseennodes/NodeSet" "listed" "[I" .null) (Fc : Fld Z h o0 "com/example/unseen_nodes/unseennodes/NodeSet" "count" "I" (.int cn)) :
    Go p e below s 0 0 (PQ (some (.int (if cn = 0 then 1 else 0))) h []) (T.setTop (mkF m 0 #[.val (.ref o0)] [])) := by
  refine g_aloadN X B iw_d0 (pc' := 1) rfl (v := (.ref o0)) rfl rfl ?_
  refine g_getF X B (B.w 10 rfl) Via.refl eT Fl iw_d1 (pc' := 4) rfl (fun T1 X1 e1 => ?_)
  refine g_ifnullN X1 B iw_d4 (pc' := 22) (by decide) rfl ?_
  refine g_aloadN X1 B iw_d22 (pc' := 23) rfl (v := (.ref o0)) rfl rfl ?_
  refine g_getF X1 B (B.w 48 rfl) Via.refl e1 Fc iw_d23 (pc' := 26) rfl (fun T2 X2 e2 => ?_)
  refine g_if_ne X2 B iw_d26 (pcT := 33) (pcF := 29) (by decide) rfl rfl (fun c26_0 => ?_) (fun c26_0 => ?_)
  · refine g_iconst X2 B iw_d29 (pc' := 30) rfl (v := (1 : Int32)) (by decide) ?_
    refine g_goto X2 B iw_d30 (pc' := 34) (by decide) rfl ?_
    exact g_retN X2 B (t := .boolean) rfl (by simp) iw_d34 (by decide) (by decide) ⟨by rw [if_pos c26_0]; exact congrArg (fun z => some (Value.int z)) (by decide : nar .boolean (1 : Int32) = 1), e2, rfl⟩
  · refine g_iconst X2 B iw_d33 (pc' := 34) rfl (v := (0 : Int32)) (by decide) ?_
    exact g_retN X2 B (t := .boolean) rfl (by simp) iw_d34 (by decide) (by decide) ⟨by rw [if_neg c26_0]; exact congrArg (fun z => some (Value.int z)) (by decide : nar .boolean (0 : Int32) = 0), e2, rfl⟩
theorem iw_met (l : Launch) (Z : State) (a0 : Array Value) (hw : ∀ d ∈ tables_1, d.before a0 Z = true) (ws : List Jvm.Cond) (h : Heap) (o0 : Addr) (cn : Int32) (Fl : Fld Z h o0 "com/example/unseen_nodes/unseennodes/NodeSet" "listed" "[I" .null) (Fc : Fld Z h o0 "com/example/unseen_nodes/unseennodes/NodeSet" "count" "I" (.int cn)) :
    Met l Z (⟨"com/example/unseen_nodes/unseennodes/NodeSet", "isEmpty", "()Z"⟩ : MethodName) prog_78_method_18_code 1 (some .boolean) ws (⟨0, 0, 0, 0⟩ : Room) #[(.ref o0)] h (PQ (some (.int (if cn = 0 then 1 else 0))) h []) :=
  met_of own_pn_iw hw fun p e s m below meth c T X B eT => Go.top (own_ef_iw m o0) (iw_go X B eT o0 cn Fl Fc)
theorem ni_d0 : decode prog_78_method_1_code 0 = .ok (.aload_n 0, 1) := by decide +kernel
theorem ni_d1 : decode prog_78_method_1_code 1 = .ok (.invokespecial 1, 3) := by decide +kernel
theorem ni_d4 : decode prog_78_method_1_code 4 = .ok (.aload_n 0, 1) := by decide +kernel
theorem ni_d5 : decode prog_78_method_1_code 5 = .ok (.iconst 4, 1) := by decide +kernel
theorem ni_d6 : decode prog_78_method_1_code 6 = .ok (.newarray .int, 2) := by decide +kernel
theorem ni_d8 : decode prog_78_method_1_code 8 = .ok (.putfield 7, 3) := by decide +kernel
theorem ni_d11 : decode prog_78_method_1_code 11 = .ok (.aload_n 0, 1) := by decide +kernel
theorem ni_d12 : decode prog_78_method_1_code 12 = .ok (.getstatic 13, 3) := by decide +kernel
theorem ni_d15 : decode prog_78_method_1_code 15 = .ok (.putfield 17, 3) := by decide +kernel
theorem ni_d18 : decode prog_78_method_1_code 18 = .ok (.return_, 1) := by decide +kernel
theorem own_pn_ni : plainFor (⟨"com/example/unseen_nodes/unseennodes/NodeSet", "<init>", "()V"⟩ : MethodName) = true := plainFor_of_name (by first | (simp [plainName, overriddenIn]; done) | decide +kernel)
theorem own_ef_ni (m : MethodId) (o0 : Addr) : entryFrame m #[(.ref o0)] 1 = (mkF m 0 #[.val (.ref o0)] []) := by first | (simp [entryFrame, mkF, argsToLocals, Value.category]; done) | rfl
set_option maxRecDepth 65536 in
set_option maxHeartbeats 40000000 in
theorem ni_go {p : Program} {l : Launch} {e : Env} {s : State} {m : MethodId} {args : Array Value} {below : List Frame} {meth : Method} {c : Code} {T : State} {Z : State} {a0 : Array Value} {h : Heap} (X : Stand p l e (⟨1, 1, 4, 12⟩ : Room) s m args below meth c T [] 0 0) (B : Bdy p s m meth c Z a0 "com/example/unseen_nodes/unseennodes/NodeSet" "<init>" prog_78_method_1_code 1 none tables_1) (eT : T.heap = h) (o0 : Addr) (aW : Addr) (n0 : Nat) (Zs : n0 ≤ h.size) (hE : Exa Z h o0 "com/example/unseen_nodes/unseennodes/NodeSet") (g0 : n0 ≤ o0) (S0 : Sta Z h "com/example/unseen_nodes/unseennodes/NodeSet" "NO_WORDS" "[J" (.ref aW)) (f_listed : Fld Z h o0 "com/example/unseen_nodes/unseennodes/NodeSet" "listed" "[I" .null) (f_words : Fld Z h o0 "com/example/unseen_nodes/unseennodes/NodeSet" "words" "[J" .null) (f_firstWord : Fld Z h o0 "com/example/unseen_nodes/unseennodes/NodeSet" "firstWord" "I" (.int (0 : Int32))) (f_start : Fld Z h o0 "com/example/unseen_nodes/unseennodes/NodeSet" "start" "I" (.int (0 : Int32))) (f_count : Fld Z h o0 "com/example/unseen_nodes/unseennodes/NodeSet" "count" "I" (.int (0 : Int32))) (f_listedCount : Fld Z h o0 "com/example/unseen_nodes/unseennodes/NodeSet" "listedCount" "I" (.int (0 : Int32))) :
    Go p e below s 1 4 (fun v h2 L => ∃ fa, v = none ∧ Fr n0 L ∧ Keep h h2 [o0] ∧ o0 ≠ fa ∧ n0 ≤ fa ∧ own_S Z h2 o0 fa []) (T.setTop (mkF m 0 #[.val (.ref o0)] [])) := by
  have N := Fr.nil n0
  have K := Keep.refl h [o0]
  refine g_aloadN X B ni_d0 (pc' := 1) rfl (v := (.ref o0)) rfl rfl ?_
  refine g_initO X B 0 (B.w 6 rfl) (B.w 7 rfl) (B.w 8 rfl) eT rfl ni_d1 (pc' := 4) rfl (by decide) (Nat.le_of_eq rfl) (by decide) (fun T1 X1 e1 => ?_)
  refine g_aloadN X1 B ni_d4 (pc' := 5) rfl (v := (.ref o0)) rfl rfl ?_
  refine g_iconst X1 B ni_d5 (pc' := 6) rfl (v := (4 : Int32)) (by decide) ?_
  refine g_newA X1 B (aty := .int) 4 4 (B.w 9 rfl) e1 (by decide) (by decide) (by decide) ni_d6 (pc' := 8) rfl (by decide) (by decide) (fun T2 h2 ob2 q2 X2 e2 E2 A2 => ?_)
  have ne_o0_ob2 : o0 ≠ ob2 := fun q => absurd (hE.lt) (by rw [q, q2]; exact Nat.lt_irrefl _)
  have G_ob2 : n0 ≤ ob2 := by rw [q2]; exact Zs
  have H_ob2 : h.size ≤ ob2 := by rw [q2]; exact K.1
  have E_o0_2 := hE.ext E2
  have St_NO_WORDS_2 := S0.ext E2
  have F_o0_listed_2 := f_listed.ext E2
  have F_o0_words_2 := f_words.ext E2
  have F_o0_firstWord_2 := f_firstWord.ext E2
  have F_o0_start_2 := f_start.ext E2
  have F_o0_count_2 := f_count.ext E2
  have F_o0_listedCount_2 := f_listedCount.ext E2
  have Zs_2 := Nat.le_trans Zs E2.1
  have K_2 := K.ext E2
  have A_ob2 : Ax Z h2 ob2 .int 4 (fun _ => (.int (0 : Int32))) := A2
  refine g_putF X2 B (B.w 10 rfl) Via.refl e2 F_o0_listed_2 E_o0_2 (Or.inl (B.w 11 rfl)) (B.w 1 rfl) (ty := (.array .int)) (by decide) rfl rfl ni_d8 (pc' := 11) rfl (fun T3 h3 X3 e3 W3 => ?_)
  have N3 := Fr.snoc X3 N g0
  have E_o0_3 := E_o0_2.wr W3
  have St_NO_WORDS_3 := St_NO_WORDS_2.wr W3
  have F_o0_listed_3 := F_o0_listed_2.same W3
  have F_o0_words_3 := F_o0_words_2.other W3 (Or.inr (slot_ne (Or.inl (B.w 15 rfl)) (Or.inl (B.w 11 rfl)) (by decide) (t := (.array .long)) (t' := (.array .int)) (by decide) (by decide)))
  have F_o0_firstWord_3 := F_o0_firstWord_2.other W3 (Or.inr (slot_ne (Or.inl (B.w 47 rfl)) (Or.inl (B.w 11 rfl)) (by decide) (t := .int) (t' := (.array .int)) (by decide) (by decide)))
  have F_o0_start_3 := F_o0_start_2.other W3 (Or.inr (slot_ne (Or.inl (B.w 55 rfl)) (Or.inl (B.w 11 rfl)) (by decide) (t := .int) (t' := (.array .int)) (by decide) (by decide)))
  have F_o0_count_3 := F_o0_count_2.other W3 (Or.inr (slot_ne (Or.inl (B.w 49 rfl)) (Or.inl (B.w 11 rfl)) (by decide) (t := .int) (t' := (.array .int)) (by decide) (by decide)))
  have F_o0_listedCount_3 := F_o0_listedCount_2.other W3 (Or.inr (slot_ne (Or.inl (B.w 22 rfl)) (Or.inl (B.w 11 rfl)) (by decide) (t := .int) (t' := (.array .int)) (by decide) (by decide)))
  have A_ob2_3 := A_ob2.other W3 (Ne.symm ne_o0_ob2)
  have Zs_3 := Nat.le_trans Zs_2 (Keep.of_wr W3).1
  have K_3 := K_2.wr W3 (Or.inl (List.mem_of_getElem? (i := 0) rfl))
  refine g_aloadN X3 B ni_d11 (pc' := 12) rfl (v := (.ref o0)) rfl rfl ?_
  refine g_getS X3 B (B.w 12 rfl) Via.refl e3 St_NO_WORDS_3 ni_d12 (pc' := 15) rfl (fun T4 X4 e4 => ?_)
  refine g_putF X4 B (B.w 14 rfl) Via.refl e4 F_o0_words_3 E_o0_3 (Or.inl (B.w 15 rfl)) (B.w 1 rfl) (ty := (.array .long)) (by decide) rfl rfl ni_d15 (pc' := 18) rfl (fun T5 h5 X5 e5 W5 => ?_)
  have N5 := Fr.snoc X5 N3 g0
  have E_o0_5 := E_o0_3.wr W5
  have St_NO_WORDS_5 := St_NO_WORDS_3.wr W5
  have F_o0_listed_5 := F_o0_listed_3.other W5 (Or.inr (slot_ne (Or.inl (B.w 11 rfl)) (Or.inl (B.w 15 rfl)) (by decide) (t := (.array .int)) (t' := (.array .long)) (by decide) (by decide)))
  have F_o0_words_5 := F_o0_words_3.same W5
  have F_o0_firstWord_5 := F_o0_firstWord_3.other W5 (Or.inr (slot_ne (Or.inl (B.w 47 rfl)) (Or.inl (B.w 15 rfl)) (by decide) (t := .int) (t' := (.array .long)) (by decide) (by decide)))
  have F_o0_start_5 := F_o0_start_3.other W5 (Or.inr (slot_ne (Or.inl (B.w 55 rfl)) (Or.inl (B.w 15 rfl)) (by decide) (t := .int) (t' := (.array .long)) (by decide) (by decide)))
  have F_o0_count_5 := F_o0_count_3.other W5 (Or.inr (slot_ne (Or.inl (B.w 49 rfl)) (Or.inl (B.w 15 rfl)) (by decide) (t := .int) (t' := (.array .long)) (by decide) (by decide)))
  have F_o0_listedCount_5 := F_o0_listedCount_3.other W5 (Or.inr (slot_ne (Or.inl (B.w 22 rfl)) (Or.inl (B.w 15 rfl)) (by decide) (t := .int) (t' := (.array .long)) (by decide) (by decide)))
  have A_ob2_5 := A_ob2_3.other W5 (Ne.symm ne_o0_ob2)
  have Zs_5 := Nat.le_trans Zs_3 (Keep.of_wr W5).1
  have K_5 := K_3.wr W5 (Or.inl (List.mem_of_getElem? (i := 0) rfl))
  exact g_ret0 X5 B rfl ni_d18 (by decide) (by decide) (by rw [e5]; exact ⟨ob2, rfl, N5, K_5, ne_o0_ob2, G_ob2, 0, 0, 0, 0, F_o0_listed_5, F_o0_listedCount_5, A_ob2_5.eqw (fun j hj => by have q : j = 0 ∨ j = 1 ∨ j = 2 ∨ j = 3 := (by omega); rcases q with rfl | rfl | rfl | rfl <;> first | rfl | simp [own_f]), trivial⟩)
theorem ni_met (l : Launch) (Z : State) (a0 : Array Value) (hw : ∀ d ∈ tables_1, d.before a0 Z = true) (ws : List Jvm.Cond) (h : Heap) (o0 : Addr) (aW : Addr) (n0 : Nat) (Zs : n0 ≤ h.size) (hE : Exa Z h o0 "com/example/unseen_nodes/unseennodes/NodeSet") (g0 : n0 ≤ o0) (S0 : Sta Z h "com/example/unseen_nodes/unseennodes/NodeSet" "NO_WORDS" "[J" (.ref aW)) (f_listed : Fld Z h o0 "com/example/unseen_nodes/unseennodes/NodeSet" "listed" "[I" .null) (f_words : Fld Z h o0 "com/example/unseen_nodes/unseennodes/NodeSet" "words" "[J" .null) (f_firstWord : Fld Z h o0 "com/example/unseen_nodes/unseennodes/NodeSet" "firstWord" "I" (.int (0 : Int32))) (f_start : Fld Z h o0 "com/example/unseen_nodes/unseennodes/NodeSet" "start" "I" (.int (0 : Int32))) (f_count : Fld Z h o0 "com/example/unseen_nodes/unseennodes/NodeSet" "count" "I" (.int (0 : Int32))) (f_listedCount : Fld Z h o0 "com/example/unseen_nodes/unseennodes/NodeSet" "listedCount" "I" (.int (0 : Int32))) :
    Met l Z (⟨"com/example/unseen_nodes/unseennodes/NodeSet", "<init>", "()V"⟩ : MethodName) prog_78_method_1_code 1 none ws (⟨1, 1, 4, 12⟩ : Room) #[(.ref o0)] h (fun v h2 L => ∃ fa, v = none ∧ Fr n0 L ∧ Keep h h2 [o0] ∧ o0 ≠ fa ∧ n0 ≤ fa ∧ own_S Z h2 o0 fa []) :=
  met_of own_pn_ni hw fun p e s m below meth c T X B eT => Go.top (own_ef_ni m o0) (ni_go X B eT o0 aW n0 Zs hE g0 S0 f_listed f_words f_firstWord f_start f_count f_listedCount)
theorem n2_d0 : decode prog_78_method_2_code 0 = .ok (.aload_n 0, 1) := by decide +kernel
theorem n2_d1 : decode prog_78_method_2_code 1 = .ok (.invokespecial 1, 3) := by decide +kernel
theorem n2_d4 : decode prog_78_method_2_code 4 = .ok (.aload_n 0, 1) := by decide +kernel
theorem n2_d5 : decode prog_78_method_2_code 5 = .ok (.iconst 4, 1) := by decide +kernel
theorem n2_d6 : decode prog_78_method_2_code 6 = .ok (.newarray .int, 2) := by decide +kernel
theorem n2_d8 : decode prog_78_method_2_code 8 = .ok (.putfield 7, 3) := by decide +kernel
theorem n2_d11 : decode prog_78_method_2_code 11 = .ok (.aload_n 0, 1) := by decide +kernel
theorem n2_d12 : decode prog_78_method_2_code 12 = .ok (.getstatic 13, 3) := by decide +kernel
theorem n2_d15 : decode prog_78_method_2_code 15 = .ok (.putfield 17, 3) := by decide +kernel
theorem n2_d18 : decode prog_78_method_2_code 18 = .ok (.aload_n 0, 1) := by decide +kernel
theorem n2_d19 : decode prog_78_method_2_code 19 = .ok (.aconst_null, 1) := by decide +kernel
theorem n2_d20 : decode prog_78_method_2_code 20 = .ok (.putfield 7, 3) := by decide +kernel
theorem n2_d23 : decode prog_78_method_2_code 23 = .ok (.aload_n 0, 1) := by decide +kernel
theorem n2_d24 : decode prog_78_method_2_code 24 = .ok (.aload_n 1, 1) := by decide +kernel
theorem n2_d25 : decode prog_78_method_2_code 25 = .ok (.putfield 17, 3) := by decide +kernel
theorem n2_d28 : decode prog_78_method_2_code 28 = .ok (.aload_n 0, 1) := by decide +kernel
theorem n2_d29 : decode prog_78_method_2_code 29 = .ok (.iload_n 2, 1) := by decide +kernel
theorem n2_d30 : decode prog_78_method_2_code 30 = .ok (.putfield 20, 3) := by decide +kernel
theorem n2_d33 : decode prog_78_method_2_code 33 = .ok (.aload_n 0, 1) := by decide +kernel
theorem n2_d34 : decode prog_78_method_2_code 34 = .ok (.aload_n 1, 1) := by decide +kernel
theorem n2_d35 : decode prog_78_method_2_code 35 = .ok (.arraylength, 1) := by decide +kernel
theorem n2_d36 : decode prog_78_method_2_code 36 = .ok (.putfield 24, 3) := by decide +kernel
theorem n2_d39 : decode prog_78_method_2_code 39 = .ok (.aload_n 0, 1) := by decide +kernel
theorem n2_d40 : decode prog_78_method_2_code 40 = .ok (.invokevirtual 27, 3) := by decide +kernel
theorem n2_d43 : decode prog_78_method_2_code 43 = .ok (.return_, 1) := by decide +kernel
theorem own_pn_n2 : plainFor (⟨"com/example/unseen_nodes/unseennodes/NodeSet", "<init>", "([JI)V"⟩ : MethodName) = true := plainFor_of_name (by first | (simp [plainName, overriddenIn]; done) | decide +kernel)
theorem own_ef_n2 (m : MethodId) (o0 : Addr) (o1 : Addr) (i2 : Int32) : entryFrame m #[(.ref o0), (.ref o1), (.int i2)] 3 = (mkF m 0 #[.val (.ref o0), .val (.ref o1), .val (.int i2)] []) := by first | (simp [entryFrame, mkF, argsToLocals, Value.category]; done) | rfl
set_option maxRecDepth 65536 in
set_option maxHeartbeats 40000000 in
theorem n2_go {p : Program} {l : Launch} {e : Env} {s : State} {m : MethodId} {args : Array Value} {below : List Frame} {meth : Method} {c : Code} {T : State} {Z : State} {a0 : Array Value} {h : Heap} (X : Stand p l e (⟨2, 1, 4, 40⟩ : Room) s m args below meth c T [] 0 0) (B : Bdy p s m meth c Z a0 "com/example/unseen_nodes/unseennodes/NodeSet" "<init>" prog_78_method_2_code 3 none tables_1) (eT : T.heap = h) (o0 : Addr) (o1 : Addr) (i2 : Int32) (aW : Addr) (w0 : Int64) (w1 : Int64) (n0 : Nat) (Zs : n0 ≤ h.size) (hE : Exa Z h o0 "com/example/unseen_nodes/unseennodes/NodeSet") (g0 : n0 ≤ o0) (ga : n0 ≤ o1) (noa : o0 ≠ o1) (S0 : Sta Z h "com/example/unseen_nodes/unseennodes/NodeSet" "NO_WORDS" "[J" (.ref aW)) (f_listed : Fld Z h o0 "com/example/unseen_nodes/unseennodes/NodeSet" "listed" "[I" .null) (f_words : Fld Z h o0 "com/example/unseen_nodes/unseennodes/NodeSet" "words" "[J" .null) (f_firstWord : Fld Z h o0 "com/example/unseen_nodes/unseennodes/NodeSet" "firstWord" "I" (.int (0 : Int32))) (f_start : Fld Z h o0 "com/example/unseen_nodes/unseennodes/NodeSet" "start" "I" (.int (0 : Int32))) (f_count : Fld Z h o0 "com/example/unseen_nodes/unseennodes/NodeSet" "count" "I" (.int (0 : Int32))) (f_listedCount : Fld Z h o0 "com/example/unseen_nodes/unseennodes/NodeSet" "listedCount" "I" (.int (0 : Int32))) (Aw : Ax Z h o1 .long 2 (own_g w0 w1)) (hi : i2 = (0 : Int32)) :
    Go p e below s 1 4 (fun v h2 L => ∃ f' c' : Int32, v = none ∧ Fr n0 L ∧ Keep h h2 [o0] ∧ own_W Z h2 o0 o1 f' c' w0 w1 ∧ own_nf f' c' w0 w1) (T.setTop (mkF m 0 #[.val (.ref o0), .val (.ref o1), .val (.int i2)] [])) := by
  have N := Fr.nil n0
  have K := Keep.refl h [o0]
  subst hi
  refine g_aloadN X B n2_d0 (pc' := 1) rfl (v := (.ref o0)) rfl rfl ?_
  refine g_initO X B 0 (B.w 6 rfl) (B.w 7 rfl) (B.w 8 rfl) eT rfl n2_d1 (pc' := 4) rfl (by decide) (Nat.le_of_eq rfl) (by decide) (fun T1 X1 e1 => ?_)
  refine g_aloadN X1 B n2_d4 (pc' := 5) rfl (v := (.ref o0)) rfl rfl ?_
  refine g_iconst X1 B n2_d5 (pc' := 6) rfl (v := (4 : Int32)) (by decide) ?_
  refine g_newA X1 B (aty := .int) 4 4 (B.w 9 rfl) e1 (by decide) (by decide) (by decide) n2_d6 (pc' := 8) rfl (by decide) (by decide) (fun T2 h2 ob2 q2 X2 e2 E2 A2 => ?_)
  have ne_o0_ob2 : o0 ≠ ob2 := fun q => absurd (hE.lt) (by rw [q, q2]; exact Nat.lt_irrefl _)
  have ne_o1_ob2 : o1 ≠ ob2 := fun q => absurd (Aw.lt) (by rw [q, q2]; exact Nat.lt_irrefl _)
  have G_ob2 : n0 ≤ ob2 := by rw [q2]; exact Zs
  have H_ob2 : h.size ≤ ob2 := by rw [q2]; exact K.1
  have E_o0_2 := hE.ext E2
  have St_NO_WORDS_2 := S0.ext E2
  have F_o0_listed_2 := f_listed.ext E2
  have F_o0_words_2 := f_words.ext E2
  have F_o0_firstWord_2 := f_firstWord.ext E2
  have F_o0_start_2 := f_start.ext E2
  have F_o0_count_2 := f_count.ext E2
  have F_o0_listedCount_2 := f_listedCount.ext E2
  have A_o1_2 := Aw.ext E2
  have Zs_2 := Nat.le_trans Zs E2.1
  have K_2 := K.ext E2
  have A_ob2 : Ax Z h2 ob2 .int 4 (fun _ => (.int (0 : Int32))) := A2
  refine g_putF X2 B (B.w 10 rfl) Via.refl e2 F_o0_listed_2 E_o0_2 (Or.inl (B.w 11 rfl)) (B.w 1 rfl) (ty := (.array .int)) (by decide) rfl rfl n2_d8 (pc' := 11) rfl (fun T3 h3 X3 e3 W3 => ?_)
  have N3 := Fr.snoc X3 N g0
  have E_o0_3 := E_o0_2.wr W3
  have St_NO_WORDS_3 := St_NO_WORDS_2.wr W3
  have F_o0_listed_3 := F_o0_listed_2.same W3
  have F_o0_words_3 := F_o0_words_2.other W3 (Or.inr (slot_ne (Or.inl (B.w 15 rfl)) (Or.inl (B.w 11 rfl)) (by decide) (t := (.array .long)) (t' := (.array .int)) (by decide) (by decide)))
  have F_o0_firstWord_3 := F_o0_firstWord_2.other W3 (Or.inr (slot_ne (Or.inl (B.w 47 rfl)) (Or.inl (B.w 11 rfl)) (by decide) (t := .int) (t' := (.array .int)) (by decide) (by decide)))
  have F_o0_start_3 := F_o0_start_2.other W3 (Or.inr (slot_ne (Or.inl (B.w 55 rfl)) (Or.inl (B.w 11 rfl)) (by decide) (t := .int) (t' := (.array .int)) (by decide) (by decide)))
  have F_o0_count_3 := F_o0_count_2.other W3 (Or.inr (slot_ne (Or.inl (B.w 49 rfl)) (Or.inl (B.w 11 rfl)) (by decide) (t := .int) (t' := (.array .int)) (by decide) (by decide)))
  have F_o0_listedCount_3 := F_o0_listedCount_2.other W3 (Or.inr (slot_ne (Or.inl (B.w 22 rfl)) (Or.inl (B.w 11 rfl)) (by decide) (t := .int) (t' := (.array .int)) (by decide) (by decide)))
  have A_o1_3 := A_o1_2.other W3 (Ne.symm noa)
  have A_ob2_3 := A_ob2.other W3 (Ne.symm ne_o0_ob2)
  have Zs_3 := Nat.le_trans Zs_2 (Keep.of_wr W3).1
  have K_3 := K_2.wr W3 (Or.inl (List.mem_of_getElem? (i := 0) rfl))
  refine g_aloadN X3 B n2_d11 (pc' := 12) rfl (v := (.ref o0)) rfl rfl ?_
  refine g_getS X3 B (B.w 12 rfl) Via.refl e3 St_NO_WORDS_3 n2_d12 (pc' := 15) rfl (fun T4 X4 e4 => ?_)
  refine g_putF X4 B (B.w 14 rfl) Via.refl e4 F_o0_words_3 E_o0_3 (Or.inl (B.w 15 rfl)) (B.w 1 rfl) (ty := (.array .long)) (by decide) rfl rfl n2_d15 (pc' := 18) rfl (fun T5 h5 X5 e5 W5 => ?_)
  have N5 := Fr.snoc X5 N3 g0
  have E_o0_5 := E_o0_3.wr W5
  have St_NO_WORDS_5 := St_NO_WORDS_3.wr W5
  have F_o0_listed_5 := F_o0_listed_3.other W5 (Or.inr (slot_ne (Or.inl (B.w 11 rfl)) (Or.inl (B.w 15 rfl)) (by decide) (t := (.array .int)) (t' := (.array .long)) (by decide) (by decide)))
  have F_o0_words_5 := F_o0_words_3.same W5
  have F_o0_firstWord_5 := F_o0_firstWord_3.other W5 (Or.inr (slot_ne (Or.inl (B.w 47 rfl)) (Or.inl (B.w 15 rfl)) (by decide) (t := .int) (t' := (.array .long)) (by decide) (by decide)))
  have F_o0_start_5 := F_o0_start_3.other W5 (Or.inr (slot_ne (Or.inl (B.w 55 rfl)) (Or.inl (B.w 15 rfl)) (by decide) (t := .int) (t' := (.array .long)) (by decide) (by decide)))
  have F_o0_count_5 := F_o0_count_3.other W5 (Or.inr (slot_ne (Or.inl (B.w 49 rfl)) (Or.inl (B.w 15 rfl)) (by decide) (t := .int) (t' := (.array .long)) (by decide) (by decide)))
  have F_o0_listedCount_5 := F_o0_listedCount_3.other W5 (Or.inr (slot_ne (Or.inl (B.w 22 rfl)) (Or.inl (B.w 15 rfl)) (by decide) (t := .int) (t' := (.array .long)) (by decide) (by decide)))
  have A_o1_5 := A_o1_3.other W5 (Ne.symm noa)
  have A_ob2_5 := A_ob2_3.other W5 (Ne.symm ne_o0_ob2)
  have Zs_5 := Nat.le_trans Zs_3 (Keep.of_wr W5).1
  have K_5 := K_3.wr W5 (Or.inl (List.mem_of_getElem? (i := 0) rfl))
  refine g_aloadN X5 B n2_d18 (pc' := 19) rfl (v := (.ref o0)) rfl rfl ?_
  refine g_null X5 B n2_d19 (pc' := 20) rfl ?_
  refine g_putF X5 B (B.w 10 rfl) Via.refl e5 F_o0_listed_5 E_o0_5 (Or.inl (B.w 11 rfl)) (B.w 1 rfl) (ty := (.array .int)) (by decide) rfl rfl n2_d20 (pc' := 23) rfl (fun T6 h6 X6 e6 W6 => ?_)
  have N6 := Fr.snoc X6 N5 g0
  have E_o0_6 := E_o0_5.wr W6
  have St_NO_WORDS_6 := St_NO_WORDS_5.wr W6
  have F_o0_listed_6 := F_o0_listed_5.same W6
  have F_o0_words_6 := F_o0_words_5.other W6 (Or.inr (slot_ne (Or.inl (B.w 15 rfl)) (Or.inl (B.w 11 rfl)) (by decide) (t := (.array .long)) (t' := (.array .int)) (by decide) (by decide)))
  have F_o0_firstWord_6 := F_o0_firstWord_5.other W6 (Or.inr (slot_ne (Or.inl (B.w 47 rfl)) (Or.inl (B.w 11 rfl)) (by decide) (t := .int) (t' := (.array .int)) (by decide) (by decide)))
  have F_o0_start_6 := F_o0_start_5.other W6 (Or.inr (slot_ne (Or.inl (B.w 55 rfl)) (Or.inl (B.w 11 rfl)) (by decide) (t := .int) (t' := (.array .int)) (by decide) (by decide)))
  have F_o0_count_6 := F_o0_count_5.other W6 (Or.inr (slot_ne (Or.inl (B.w 49 rfl)) (Or.inl (B.w 11 rfl)) (by decide) (t := .int) (t' := (.array .int)) (by decide) (by decide)))
  have F_o0_listedCount_6 := F_o0_listedCount_5.other W6 (Or.inr (slot_ne (Or.inl (B.w 22 rfl)) (Or.inl (B.w 11 rfl)) (by decide) (t := .int) (t' := (.array .int)) (by decide) (by decide)))
  have A_o1_6 := A_o1_5.other W6 (Ne.symm noa)
  have A_ob2_6 := A_ob2_5.other W6 (Ne.symm ne_o0_ob2)
  have Zs_6 := Nat.le_trans Zs_5 (Keep.of_wr W6).1
  have K_6 := K_5.wr W6 (Or.inl (List.mem_of_getElem? (i := 0) rfl))
  refine g_aloadN X6 B n2_d23 (pc' := 24) rfl (v := (.ref o0)) rfl rfl ?_
  refine g_aloadN X6 B n2_d24 (pc' := 25) rfl (v := (.ref o1)) rfl rfl ?_
  refine g_putF X6 B (B.w 14 rfl) Via.refl e6 F_o0_words_6 E_o0_6 (Or.inl (B.w 15 rfl)) (B.w 1 rfl) (ty := (.array .long)) (by decide) rfl rfl n2_d25 (pc' := 28) rfl (fun T7 h7 X7 e7 W7 => ?_)
  have N7 := Fr.snoc X7 N6 g0
  have E_o0_7 := E_o0_6.wr W7
  have St_NO_WORDS_7 := St_NO_WORDS_6.wr W7
  have F_o0_listed_7 := F_o0_listed_6.other W7 (Or.inr (slot_ne (Or.inl (B.w 11 rfl)) (Or.inl (B.w 15 rfl)) (by decide) (t := (.array .int)) (t' := (.array .long)) (by decide) (by decide)))
  have F_o0_words_7 := F_o0_words_6.same W7
  have F_o0_firstWord_7 := F_o0_firstWord_6.other W7 (Or.inr (slot_ne (Or.inl (B.w 47 rfl)) (Or.inl (B.w 15 rfl)) (by decide) (t := .int) (t' := (.array .long)) (by decide) (by decide)))
  have F_o0_start_7 := F_o0_start_6.other W7 (Or.inr (slot_ne (Or.inl (B.w 55 rfl)) (Or.inl (B.w 15 rfl)) (by decide) (t := .int) (t' := (.array .long)) (by decide) (by decide)))
  have F_o0_count_7 := F_o0_count_6.other W7 (Or.inr (slot_ne (Or.inl (B.w 49 rfl)) (Or.inl (B.w 15 rfl)) (by decide) (t := .int) (t' := (.array .long)) (by decide) (by decide)))
  have F_o0_listedCount_7 := F_o0_listedCount_6.other W7 (Or.inr (slot_ne (Or.inl (B.w 22 rfl)) (Or.inl (B.w 15 rfl)) (by decide) (t := .int) (t' := (.array .long)) (by decide) (by decide)))
  have A_o1_7 := A_o1_6.other W7 (Ne.symm noa)
  have A_ob2_7 := A_ob2_6.other W7 (Ne.symm ne_o0_ob2)
  have Zs_7 := Nat.le_trans Zs_6 (Keep.of_wr W7).1
  have K_7 := K_6.wr W7 (Or.inl (List.mem_of_getElem? (i := 0) rfl))
  refine g_aloadN X7 B n2_d28 (pc' := 29) rfl (v := (.ref o0)) rfl rfl ?_
  refine g_iloadN X7 B n2_d29 (pc' := 30) rfl (v := (0 : Int32)) rfl ?_
  refine g_putF X7 B (B.w 46 rfl) Via.refl e7 F_o0_firstWord_7 E_o0_7 (Or.inl (B.w 47 rfl)) (B.w 1 rfl) (ty := .int) (by decide) rfl rfl n2_d30 (pc' := 33) rfl (fun T8 h8 X8 e8 W8 => ?_)
  have N8 := Fr.snoc X8 N7 g0
  have E_o0_8 := E_o0_7.wr W8
  have St_NO_WORDS_8 := St_NO_WORDS_7.wr W8
  have F_o0_listed_8 := F_o0_listed_7.other W8 (Or.inr (slot_ne (Or.inl (B.w 11 rfl)) (Or.inl (B.w 47 rfl)) (by decide) (t := (.array .int)) (t' := .int) (by decide) (by decide)))
  have F_o0_words_8 := F_o0_words_7.other W8 (Or.inr (slot_ne (Or.inl (B.w 15 rfl)) (Or.inl (B.w 47 rfl)) (by decide) (t := (.array .long)) (t' := .int) (by decide) (by decide)))
  have F_o0_firstWord_8 := F_o0_firstWord_7.same W8
  have F_o0_start_8 := F_o0_start_7.other W8 (Or.inr (slot_ne (Or.inl (B.w 55 rfl)) (Or.inl (B.w 47 rfl)) (by decide) (t := .int) (t' := .int) (by decide) (by decide)))
  have F_o0_count_8 := F_o0_count_7.other W8 (Or.inr (slot_ne (Or.inl (B.w 49 rfl)) (Or.inl (B.w 47 rfl)) (by decide) (t := .int) (t' := .int) (by decide) (by decide)))
  have F_o0_listedCount_8 := F_o0_listedCount_7.other W8 (Or.inr (slot_ne (Or.inl (B.w 22 rfl)) (Or.inl (B.w 47 rfl)) (by decide) (t := .int) (t' := .int) (by decide) (by decide)))
  have A_o1_8 := A_o1_7.other W8 (Ne.symm noa)
  have A_ob2_8 := A_ob2_7.other W8 (Ne.symm ne_o0_ob2)
  have Zs_8 := Nat.le_trans Zs_7 (Keep.of_wr W8).1
  have K_8 := K_7.wr W8 (Or.inl (List.mem_of_getElem? (i := 0) rfl))
  refine g_aloadN X8 B n2_d33 (pc' := 34) rfl (v := (.ref o0)) rfl rfl ?_
  refine g_aloadN X8 B n2_d34 (pc' := 35) rfl (v := (.ref o1)) rfl rfl ?_
  refine g_arrlen X8 B (2 : Int32) e8 A_o1_8 (by decide) n2_d35 (pc' := 36) rfl ?_
  refine g_putF X8 B (B.w 48 rfl) Via.refl e8 F_o0_count_8 E_o0_8 (Or.inl (B.w 49 rfl)) (B.w 1 rfl) (ty := .int) (by decide) rfl rfl n2_d36 (pc' := 39) rfl (fun T9 h9 X9 e9 W9 => ?_)
  have N9 := Fr.snoc X9 N8 g0
  have E_o0_9 := E_o0_8.wr W9
  have St_NO_WORDS_9 := St_NO_WORDS_8.wr W9
  have F_o0_listed_9 := F_o0_listed_8.other W9 (Or.inr (slot_ne (Or.inl (B.w 11 rfl)) (Or.inl (B.w 49 rfl)) (by decide) (t := (.array .int)) (t' := .int) (by decide) (by decide)))
  have F_o0_words_9 := F_o0_words_8.other W9 (Or.inr (slot_ne (Or.inl (B.w 15 rfl)) (Or.inl (B.w 49 rfl)) (by decide) (t := (.array .long)) (t' := .int) (by decide) (by decide)))
  have F_o0_firstWord_9 := F_o0_firstWord_8.other W9 (Or.inr (slot_ne (Or.inl (B.w 47 rfl)) (Or.inl (B.w 49 rfl)) (by decide) (t := .int) (t' := .int) (by decide) (by decide)))
  have F_o0_start_9 := F_o0_start_8.other W9 (Or.inr (slot_ne (Or.inl (B.w 55 rfl)) (Or.inl (B.w 49 rfl)) (by decide) (t := .int) (t' := .int) (by decide) (by decide)))
  have F_o0_count_9 := F_o0_count_8.same W9
  have F_o0_listedCount_9 := F_o0_listedCount_8.other W9 (Or.inr (slot_ne (Or.inl (B.w 22 rfl)) (Or.inl (B.w 49 rfl)) (by decide) (t := .int) (t' := .int) (by decide) (by decide)))
  have A_o1_9 := A_o1_8.other W9 (Ne.symm noa)
  have A_ob2_9 := A_ob2_8.other W9 (Ne.symm ne_o0_ob2)
  have Zs_9 := Nat.le_trans Zs_8 (Keep.of_wr W9).1
  have K_9 := K_8.wr W9 (Or.inl (List.mem_of_getElem? (i := 0) rfl))
  refine g_aloadN X9 B n2_d39 (pc' := 40) rfl (v := (.ref o0)) rfl rfl ?_
  refine g_private X9 B e9 0 E_o0_9 (y := (⟨"com/example/unseen_nodes/unseennodes/NodeSet", "trim", "()V"⟩ : MethodName)) (argsL := []) (rest := []) (a := o0) (B.w 50 rfl) (B.w 1 rfl) (B.w 52 rfl) (B.w 51 rfl) (B.w 2 rfl) (B.w 53 rfl) (by decide) (tr02_met l Z a0 B.2.2.1 [] h9 o0 o1 w0 w1 n0 Zs_9 E_o0_9 g0 ga noa ⟨F_o0_listed_9, F_o0_words_9, F_o0_firstWord_9, F_o0_start_9, F_o0_count_9, A_o1_9⟩) (by decide) (by decide) (by decide) (by decide) rfl (lenOf own_pd3 rfl) rfl (Nat.le_of_eq rfl) n2_d40 (pc' := 43) rfl (fun T10 v10 L10 X10 Q10 => ?_)
  obtain ⟨f', c', rfl, Nq10, Kq10, Wq10, nf10⟩ := Q10
  have N10 := Fr.app N9 Nq10
  have E_o0_10 := E_o0_9.keep Kq10
  have A_o1_10 := A_o1_9.keep Kq10 (by simp only [List.mem_cons, List.not_mem_nil, or_false, not_or]; exact (Ne.symm noa))
  have A_ob2_10 := A_ob2_9.keep Kq10 (by simp only [List.mem_cons, List.not_mem_nil, or_false, not_or]; exact (Ne.symm ne_o0_ob2))
  have Zs_10 := Nat.le_trans Zs_9 Kq10.1
  have K_10 := K_9.trans Kq10 (by intro x hx; simp only [List.mem_cons, List.not_mem_nil, or_false] at hx; subst hx; exact Or.inl (List.mem_of_getElem? (i := 0) rfl))
  show Go p e below s _ _ _ (T10.setTop (mkF m 43 #[.val (.ref o0), .val (.ref o1), .val (.int (0 : Int32))] []))
  exact g_ret0 X10 B rfl n2_d43 (by decide) (by decide) ⟨f', c', rfl, N10, K_10, Wq10, nf10⟩
theorem n2_met (l : Launch) (Z : State) (a0 : Array Value) (hw : ∀ d ∈ tables_1, d.before a0 Z = true) (ws : List Jvm.Cond) (h : Heap) (o0 : Addr) (o1 : Addr) (i2 : Int32) (aW : Addr) (w0 : Int64) (w1 : Int64) (n0 : Nat) (Zs : n0 ≤ h.size) (hE : Exa Z h o0 "com/example/unseen_nodes/unseennodes/NodeSet") (g0 : n0 ≤ o0) (ga : n0 ≤ o1) (noa : o0 ≠ o1) (S0 : Sta Z h "com/example/unseen_nodes/unseennodes/NodeSet" "NO_WORDS" "[J" (.ref aW)) (f_listed : Fld Z h o0 "com/example/unseen_nodes/unseennodes/NodeSet" "listed" "[I" .null) (f_words : Fld Z h o0 "com/example/unseen_nodes/unseennodes/NodeSet" "words" "[J" .null) (f_firstWord : Fld Z h o0 "com/example/unseen_nodes/unseennodes/NodeSet" "firstWord" "I" (.int (0 : Int32))) (f_start : Fld Z h o0 "com/example/unseen_nodes/unseennodes/NodeSet" "start" "I" (.int (0 : Int32))) (f_count : Fld Z h o0 "com/example/unseen_nodes/unseennodes/NodeSet" "count" "I" (.int (0 : Int32))) (f_listedCount : Fld Z h o0 "com/example/unseen_nodes/unseennodes/NodeSet" "listedCount" "I" (.int (0 : Int32))) (Aw : Ax Z h o1 .long 2 (own_g w0 w1)) (hi : i2 = (0 : Int32)) :
    Met l Z (⟨"com/example/unseen_nodes/unseennodes/NodeSet", "<init>", "([JI)V"⟩ : MethodName) prog_78_method_2_code 3 none ws (⟨2, 1, 4, 40⟩ : Room) #[(.ref o0), (.ref o1), (.int i2)] h (fun v h2 L => ∃ f' c' : Int32, v = none ∧ Fr n0 L ∧ Keep h h2 [o0] ∧ own_W Z h2 o0 o1 f' c' w0 w1 ∧ own_nf f' c' w0 w1) :=
  met_of own_pn_n2 hw fun p e s m below meth c T X B eT => Go.top (own_ef_n2 m o0 o1 i2) (n2_go X B eT o0 o1 i2 aW w0 w1 n0 Zs hE g0 ga noa S0 f_listed f_words f_firstWord f_start f_count f_listedCount Aw hi)
theorem ob_d0 : decode prog_78_method_4_code 0 = .ok (.new 8, 3) := by decide +kernel
theorem ob_d3 : decode prog_78_method_4_code 3 = .ok (.dup, 1) := by decide +kernel
theorem ob_d4 : decode prog_78_method_4_code 4 = .ok (.aload_n 0, 1) := by decide +kernel
theorem ob_d5 : decode prog_78_method_4_code 5 = .ok (.iconst 0, 1) := by decide +kernel
theorem ob_d6 : decode prog_78_method_4_code 6 = .ok (.invokespecial 33, 3) := by decide +kernel
theorem ob_d9 : decode prog_78_method_4_code 9 = .ok (.areturn, 1) := by decide +kernel
theorem own_pn_ob : plainFor (⟨"com/example/unseen_nodes/unseennodes/NodeSet", "ofBits", "([J)Lcom/example/unseen_nodes/unseennodes/NodeSet;"⟩ : MethodName) = true := plainFor_of_name (by first | (simp [plainName, overriddenIn]; done) | decide +kernel)
theorem own_ef_ob (m : MethodId) (o0 : Addr) : entryFrame m #[(.ref o0)] 1 = (mkF m 0 #[.val (.ref o0)] []) := by first | (simp [entryFrame, mkF, argsToLocals, Value.category]; done) | rfl
set_option maxRecDepth 65536 in
set_option maxHeartbeats 40000000 in
theorem ob_go {p : Program} {l : Launch} {e : Env} {s : State} {m : MethodId} {args : Array Value} {below : List Frame} {meth : Method} {c : Code} {T : State} {Z : State} {a0 : Array Value} {h : Heap} (X : Stand p l e (⟨3, 2, 10, 60⟩ : Room) s m args below meth c T [] 0 0) (B : Bdy p s m meth c Z a0 "com/example/unseen_nodes/unseennodes/NodeSet" "ofBits" prog_78_method_4_code 1 (some (.object "com/example/unseen_nodes/unseennodes/NodeSet")) tables_1) (eT : T.heap = h) (o0 : Addr) (aW : Addr) (w0 : Int64) (w1 : Int64) (n0 : Nat) (Zs : n0 ≤ h.size) (ga : n0 ≤ o0) (S0 : Sta Z h "com/example/unseen_nodes/unseennodes/NodeSet" "NO_WORDS" "[J" (.ref aW)) (Aw : Ax Z h o0 .long 2 (own_g w0 w1)) :
    Go p e below s 2 10 (fun v h2 L => ∃ (o : Addr) (f' c' : Int32), v = some (.ref o) ∧ Fr n0 L ∧ Keep h h2 [] ∧ Exa Z h2 o "com/example/unseen_nodes/unseennodes/NodeSet" ∧ n0 ≤ o ∧ o ≠ o0 ∧ own_W Z h2 o o0 f' c' w0 w1 ∧ own_nf f' c' w0 w1) (T.setTop (mkF m 0 #[.val (.ref o0)] [])) := by
  have N := Fr.nil n0
  have K := Keep.refl h []
  refine g_new X B (B.w 42 rfl) (B.w 1 rfl) (B.w 2 rfl) eT ob_d0 (pc' := 3) rfl (by decide) (by decide) (fun T1 h1 ob1 q1 X1 e1 E1 A1 D1 => ?_)
  have ne_o0_ob1 : o0 ≠ ob1 := fun q => absurd (Aw.lt) (by rw [q, q1]; exact Nat.lt_irrefl _)
  have G_ob1 : n0 ≤ ob1 := by rw [q1]; exact Zs
  have H_ob1 : h.size ≤ ob1 := by rw [q1]; exact K.1
  have A_o0_1 := Aw.ext E1
  have St_NO_WORDS_1 := S0.ext E1
  have Zs_1 := Nat.le_trans Zs E1.1
  have K_1 := K.ext E1
  have F_ob1_listed : Fld Z h1 ob1 "com/example/unseen_nodes/unseennodes/NodeSet" "listed" "[I" .null := D1 (Or.inl (B.w 11 rfl)) (ty := (.array .int)) (by decide)
  have F_ob1_words : Fld Z h1 ob1 "com/example/unseen_nodes/unseennodes/NodeSet" "words" "[J" .null := D1 (Or.inl (B.w 15 rfl)) (ty := (.array .long)) (by decide)
  have F_ob1_listedCount : Fld Z h1 ob1 "com/example/unseen_nodes/unseennodes/NodeSet" "listedCount" "I" (.int (0 : Int32)) := D1 (Or.inl (B.w 22 rfl)) (ty := .int) (by decide)
  have F_ob1_firstWord : Fld Z h1 ob1 "com/example/unseen_nodes/unseennodes/NodeSet" "firstWord" "I" (.int (0 : Int32)) := D1 (Or.inl (B.w 47 rfl)) (ty := .int) (by decide)
  have F_ob1_count : Fld Z h1 ob1 "com/example/unseen_nodes/unseennodes/NodeSet" "count" "I" (.int (0 : Int32)) := D1 (Or.inl (B.w 49 rfl)) (ty := .int) (by decide)
  have F_ob1_start : Fld Z h1 ob1 "com/example/unseen_nodes/unseennodes/NodeSet" "start" "I" (.int (0 : Int32)) := D1 (Or.inl (B.w 55 rfl)) (ty := .int) (by decide)
  refine g_dup X1 B ob_d3 (pc' := 4) rfl rfl ?_
  refine g_aloadN X1 B ob_d4 (pc' := 5) rfl (v := (.ref o0)) rfl rfl ?_
  refine g_iconst X1 B ob_d5 (pc' := 6) rfl (v := (0 : Int32)) (by decide) ?_
  refine g_special X1 B e1 1 (y := (⟨"com/example/unseen_nodes/unseennodes/NodeSet", "<init>", "([JI)V"⟩ : MethodName)) (argsL := [(.ref o0), (.int (0 : Int32))]) (rest := [(.ref ob1)]) (a := ob1) rfl (B.w 43 rfl) (B.w 44 rfl) (B.w 2 rfl) (B.w 45 rfl) (by decide) (n2_met l Z a0 B.2.2.1 [] h1 ob1 o0 (0 : Int32) aW w0 w1 n0 Zs_1 A1 G_ob1 ga (Ne.symm ne_o0_ob1) St_NO_WORDS_1 F_ob1_listed F_ob1_words F_ob1_firstWord F_ob1_start F_ob1_count F_ob1_listedCount A_o0_1 rfl) (by decide) (by decide) (by decide) (by decide) rfl (lenOf own_pd4 rfl) rfl (Nat.le_of_eq rfl) ob_d6 (pc' := 9) rfl (fun T2 v2 L2 X2 Q2 => ?_)
  obtain ⟨f', c', rfl, Nq2, Kq2, Wq2, nf2⟩ := Q2
  have N2 := Fr.app N Nq2
  have A_o0_2 := A_o0_1.keep Kq2 (by simp only [List.mem_cons, List.not_mem_nil, or_false, not_or]; exact ne_o0_ob1)
  have E_ob1_2 := A1.keep Kq2
  have Zs_2 := Nat.le_trans Zs_1 Kq2.1
  have K_2 := K_1.trans Kq2 (by intro x hx; simp only [List.mem_cons, List.not_mem_nil, or_false] at hx; subst hx; exact Or.inr H_ob1)
  show Go p e below s _ _ _ (T2.setTop (mkF m 9 #[.val (.ref o0)] [(.ref ob1)]))
  exact g_retA X2 B rfl rfl rfl rfl ob_d9 (by decide) (by decide) ⟨ob1, f', c', rfl, N2, K_2, E_ob1_2, G_ob1, (Ne.symm ne_o0_ob1), Wq2, nf2⟩
theorem ob_met (l : Launch) (Z : State) (a0 : Array Value) (hw : ∀ d ∈ tables_1, d.before a0 Z = true) (ws : List Jvm.Cond) (h : Heap) (o0 : Addr) (aW : Addr) (w0 : Int64) (w1 : Int64) (n0 : Nat) (Zs : n0 ≤ h.size) (ga : n0 ≤ o0) (S0 : Sta Z h "com/example/unseen_nodes/unseennodes/NodeSet" "NO_WORDS" "[J" (.ref aW)) (Aw : Ax Z h o0 .long 2 (own_g w0 w1)) :
    Met l Z (⟨"com/example/unseen_nodes/unseennodes/NodeSet", "ofBits", "([J)Lcom/example/unseen_nodes/unseennodes/NodeSet;"⟩ : MethodName) prog_78_method_4_code 1 (some (.object "com/example/unseen_nodes/unseennodes/NodeSet")) ws (⟨3, 2, 10, 60⟩ : Room) #[(.ref o0)] h (fun v h2 L => ∃ (o : Addr) (f' c' : Int32), v = some (.ref o) ∧ Fr n0 L ∧ Keep h h2 [] ∧ Exa Z h2 o "com/example/unseen_nodes/unseennodes/NodeSet" ∧ n0 ≤ o ∧ o ≠ o0 ∧ own_W Z h2 o o0 f' c' w0 w1 ∧ own_nf f' c' w0 w1) :=
  met_of own_pn_ob hw fun p e s m below meth c T X B eT => Go.top (own_ef_ob m o0) (ob_go X B eT o0 aW w0 w1 n0 Zs ga S0 Aw)
theorem bit_d0 : decode method_2_code 0 = .ok (.iload_n 0, 1) := by decide +kernel
theorem bit_d1 : decode method_2_code 1 = .ok (.bipush 6, 2) := by decide +kernel
theorem bit_d3 : decode method_2_code 3 = .ok (.ishr, 1) := by decide +kernel
theorem bit_d4 : decode method_2_code 4 = .ok (.iload_n 1, 1) := by decide +kernel
theorem bit_d5 : decode method_2_code 5 = .ok (.if_icmp .ne 12, 3) := by decide +kernel
theorem bit_d8 : decode method_2_code 8 = .ok (.lconst 1, 1) := by decide +kernel
theorem bit_d9 : decode method_2_code 9 = .ok (.iload_n 0, 1) := by decide +kernel
theorem bit_d10 : decode method_2_code 10 = .ok (.bipush 63, 2) := by decide +kernel
theorem bit_d12 : decode method_2_code 12 = .ok (.iand, 1) := by decide +kernel
theorem bit_d13 : decode method_2_code 13 = .ok (.lshl, 1) := by decide +kernel
theorem bit_d14 : decode method_2_code 14 = .ok (.goto 4, 3) := by decide +kernel
theorem bit_d17 : decode method_2_code 17 = .ok (.lconst 0, 1) := by decide +kernel
theorem bit_d18 : decode method_2_code 18 = .ok (.lreturn, 1) := by decide +kernel
def bit_f18 (u0 : Int64) : Int64 := u0
theorem bit_b18 {p : Program} {l : Launch} {e : Env} {s : State} {m : MethodId} {args : Array Value} {below : List Frame} {meth : Method} {c : Code} {T : State} {Z : State} {a0 : Array Value} {h : Heap} {locs : List Loc} {cells slots : Nat} (X : Stand p l e (⟨0, 0, 0, 0⟩ : Room) s m args below meth c T locs cells slots) (hc : cells ≤ ((⟨0, 0, 0, 0⟩ : Room)).cells) (hs : slots ≤ ((⟨0, 0, 0, 0⟩ : Room)).slots) (B : Bdy p s m meth c Z a0 "com/example/unseen_nodes/unseennodes/NodeSetIsEmptyPinLaw" "bit" method_2_code 2 (some .long) tables_1) (eT : T.heap = h) (i0 : Int32) (i1 : Int32) (u0 : Int64)  :
    Go p e below s cells slots (PQ (some (.long (bit_f18 u0))) h locs) (T.setTop (mkF m 18 #[.val (.int i0), .val (.int i1)] [(.long u0)])) := by
  exact g_retL X B rfl bit_d18 (Nat.le_refl _) (Nat.le_refl _) ⟨congrArg (fun z => some (Value.long z)) (Eq.symm (by rw [bit_f18])), eT, rfl⟩
def bit_f0 (i0 : Int32) (i1 : Int32) : Int64 := (if ((i0 >>> ((6 : Int32) &&& 31))) = i1 then (bit_f18 (((1 : Int64) <<< ((i0 &&& (63 : Int32)) &&& 63).toInt64))) else (bit_f18 (0 : Int64)))
theorem bit_b0 {p : Program} {l : Launch} {e : Env} {s : State} {m : MethodId} {args : Array Value} {below : List Frame} {meth : Method} {c : Code} {T : State} {Z : State} {a0 : Array Value} {h : Heap} {locs : List Loc} {cells slots : Nat} (X : Stand p l e (⟨0, 0, 0, 0⟩ : Room) s m args below meth c T locs cells slots) (hc : cells ≤ ((⟨0, 0, 0, 0⟩ : Room)).cells) (hs : slots ≤ ((⟨0, 0, 0, 0⟩ : Room)).slots) (B : Bdy p s m meth c Z a0 "com/example/unseen_nodes/unseennodes/NodeSetIsEmptyPinLaw" "bit" method_2_code 2 (some .long) tables_1) (eT : T.heap = h) (i0 : Int32) (i1 : Int32)  :
    Go p e below s cells slots (PQ (some (.long (bit_f0 i0 i1))) h locs) (T.setTop (mkF m 0 #[.val (.int i0), .val (.int i1)] [])) := by
  refine g_iloadN X B bit_d0 (pc' := 1) rfl (v := i0) rfl ?_
  refine g_bipush X B bit_d1 (pc' := 3) rfl (v := (6 : Int32)) (by decide) ?_
  refine g_ishr X B bit_d3 (pc' := 4) rfl (z := ((i0 >>> ((6 : Int32) &&& 31)))) rfl ?_
  refine g_iloadN X B bit_d4 (pc' := 5) rfl (v := i1) rfl ?_
  refine g_icmp_ne X B bit_d5 (pcT := 17) (pcF := 8) (by decide) rfl rfl (fun c5_0 => ?_) (fun c5_0 => ?_)
  · refine g_lconst X B bit_d8 (pc' := 9) rfl (v := (1 : Int64)) (by decide) ?_
    refine g_iloadN X B bit_d9 (pc' := 10) rfl (v := i0) rfl ?_
    refine g_bipush X B bit_d10 (pc' := 12) rfl (v := (63 : Int32)) (by decide) ?_
    refine g_iand X B bit_d12 (pc' := 13) rfl ?_
    refine g_lshl X B bit_d13 (pc' := 14) rfl (z := (((1 : Int64) <<< ((i0 &&& (63 : Int32)) &&& 63).toInt64))) rfl ?_
    refine g_goto X B bit_d14 (pc' := 18) (by decide) rfl ?_
    exact Go.cw (congrArg (fun z => some (Value.long z)) (Eq.symm (by rw [bit_f0, if_pos c5_0]))) (bit_b18 X hc hs B eT i0 i1 (((1 : Int64) <<< ((i0 &&& (63 : Int32)) &&& 63).toInt64)))
  · refine g_lconst X B bit_d17 (pc' := 18) rfl (v := (0 : Int64)) (by decide) ?_
    exact Go.cw (congrArg (fun z => some (Value.long z)) (Eq.symm (by rw [bit_f0, if_neg c5_0]))) (bit_b18 X hc hs B eT i0 i1 (0 : Int64))
theorem own_pn_bit : plainFor (⟨"com/example/unseen_nodes/unseennodes/NodeSetIsEmptyPinLaw", "bit", "(II)J"⟩ : MethodName) = true := plainFor_of_name (by first | (simp [plainName, overriddenIn]; done) | decide +kernel)
theorem own_ef_bit (m : MethodId) (i0 : Int32) (i1 : Int32) : entryFrame m #[(.int i0), (.int i1)] 2 = (mkF m 0 #[.val (.int i0), .val (.int i1)] []) := by first | (simp [entryFrame, mkF, argsToLocals, Value.category]; done) | rfl
theorem bit_met (l : Launch) (Z : State) (a0 : Array Value) (hw : ∀ d ∈ tables_1, d.before a0 Z = true) (ws : List Jvm.Cond) (h : Heap) (i0 : Int32) (i1 : Int32)  :
    Met l Z (⟨"com/example/unseen_nodes/unseennodes/NodeSetIsEmptyPinLaw", "bit", "(II)J"⟩ : MethodName) method_2_code 2 (some .long) ws (⟨0, 0, 0, 0⟩ : Room) #[(.int i0), (.int i1)] h (PQ (some (.long (bit_f0 i0 i1))) h []) :=
  met_of own_pn_bit hw fun p e s m below meth c T X B eT => Go.top (own_ef_bit m i0 i1) (bit_b0 X (Nat.zero_le _) (Nat.zero_le _) B eT i0 i1)
theorem own_Sl {Z : State} {h : Heap} {o fa : Addr} {xs : List Int32} (S : own_S Z h o fa xs) : Fld Z h o "com/example/unseen_nodes/unseennodes/NodeSet" "listed" "[I" (.ref fa) := by obtain ⟨_, _, _, _, a, _, _, _⟩ := S; exact a
theorem own_Sc {Z : State} {h : Heap} {o fa : Addr} {xs : List Int32} (S : own_S Z h o fa xs) : Fld Z h o "com/example/unseen_nodes/unseennodes/NodeSet" "listedCount" "I" (.int (own_n xs)) := by obtain ⟨_, _, _, _, _, a, _, _⟩ := S; exact a
theorem own_emp {f c : Int32} {W0 W1 r0 r1 : Int64} (nf : own_nf f c W0 W1) (e0 : r0 = W0) (e1 : r1 = W1) : c = 0 ↔ (r0 = 0 ∧ r1 = 0) := by
  subst e0 e1
  rcases nf with ⟨-, rfl, a, b⟩ | ⟨-, rfl, a, b⟩ | ⟨-, rfl, a, b⟩ | ⟨-, rfl, a, b⟩ <;> simp [a, b]
theorem own_bk (x k : Int32) (w : Int64) : (w &&& (bit_f0 x k ^^^ (-1 : Int64))) = own_ck k x w := by
  have e : (x &&& 63) &&& 63 = x &&& 63 := by rw [Int32.and_assoc]; rfl
  have z : (w &&& ((0 : Int64) ^^^ (-1 : Int64))) = w := by rw [Int64.zero_xor, Int64.and_neg_one]
  simp only [bit_f0, bit_f18, own_ck]
  split
  · simp only [e]
  · exact z
set_option maxRecDepth 65536 in
set_option maxHeartbeats 40000000 in
theorem law_w0 {p : Program} {l : Launch} {e : Env} {s : State} {m : MethodId} {args : Array Value} {below : List Frame} {meth : Method} {c : Code} {T : State} {Z : State} {a0 : Array Value} {h : Heap} {locs : List Loc} (X : Stand p l e room_1 s m args below meth c T locs 3 12) (B : Bdy p s m meth c Z a0 "com/example/unseen_nodes/unseennodes/NodeSetIsEmptyPinLaw" "law" code 16 (some .boolean) tables_1) (eT : T.heap = h) (n0 : Nat) (Zs : n0 ≤ h.size) (N : Fr n0 locs) (i0 : Int32) (i1 : Int32) (i2 : Int32) (i3 : Int32) (j4 : Int64) (j6 : Int64) (o8 : Addr) (i9 : Int32) (i10 : Int32) (i11 : Int32) (fa : Addr) (f : Int32) (cn : Int32) (hi : i11 = (0 : Int32)) (hE : Exa Z h o8 "com/example/unseen_nodes/unseennodes/NodeSet") (g0 : n0 ≤ o8) (ga : n0 ≤ fa) (noa : o8 ≠ fa) (hW : own_W Z h o8 fa f cn j4 j6) (hnf : own_nf f cn j4 j6) :
    Go p e below s room_1.cells room_1.slots (fun v _ L => v = some (.int 1) ∧ Fr n0 L) (T.setTop (mkF m 222 #[.val (.int i0), .val (.int i1), .val (.int i2), .val (.int i3), .val (.long j4), .second, .val (.long j6), .second, .val (.ref o8), .val (.int i9), .val (.int i10), .val (.int i11), .unset, .unset, .unset, .unset] [])) := by
  subst hi
  refine g_aload X B at_222 (pc' := 224) rfl (v := (.ref o8)) rfl rfl ?_
  refine g_iload X B at_224 (pc' := 226) rfl (v := i9) rfl ?_
  refine g_virtual X B eT 0 hE (y := (⟨"com/example/unseen_nodes/unseennodes/NodeSet", "clear", "(I)V"⟩ : MethodName)) (argsL := [(.int i9)]) (rest := []) (a := o8) (B.w 16 rfl) (B.w 17 rfl) (B.w 19 rfl) (B.w 18 rfl) (B.w 2 rfl) (B.w 20 rfl) (by decide) (cw_any l Z a0 B.2.2.1 [] h o8 i9 fa f cn j4 j6 n0 Zs hE g0 ga noa hW hnf) (by decide) (by decide) (by decide) (by decide) rfl (lenOf own_pd2 rfl) rfl (Nat.le_of_eq rfl) at_226 (pc' := 229) rfl (fun T1 v1 L1 X1 Q1 => ?_)
  obtain ⟨f1, cn1, rfl, Nq1, Kq1, Wq1, nf1⟩ := Q1
  have N1 := Fr.app N Nq1
  have E_o8_1 := hE.keep Kq1
  have Zs_1 := Nat.le_trans Zs Kq1.1
  show Go p e below s _ _ _ (T1.setTop (mkF m 229 #[.val (.int i0), .val (.int i1), .val (.int i2), .val (.int i3), .val (.long j4), .second, .val (.long j6), .second, .val (.ref o8), .val (.int i9), .val (.int i10), .val (.int (0 : Int32)), .unset, .unset, .unset, .unset] []))
  refine g_iload X1 B at_229 (pc' := 231) rfl (v := (0 : Int32)) rfl ?_
  refine g_if_eq X1 B at_231 (pcT := 241) (pcF := 234) (by decide) rfl rfl (fun c231_0 => ?_) (fun c231_0 => ?_)
  · refine g_lload X1 B at_241 (pc' := 243) rfl (v := j4) rfl ?_
    refine g_iload X1 B at_243 (pc' := 245) rfl (v := i9) rfl ?_
    refine g_iconst X1 B at_245 (pc' := 246) rfl (v := (0 : Int32)) (by decide) ?_
    refine g_callP X1 B rfl 2 (y := (⟨"com/example/unseen_nodes/unseennodes/NodeSetIsEmptyPinLaw", "bit", "(II)J"⟩ : MethodName)) (argsL := [(.int i9), (.int (0 : Int32))]) (rest := [(.long j4)]) (w := (.long (bit_f0 i9 (0 : Int32)))) (B.w 57 rfl) (B.w 58 rfl) (B.w 59 rfl) (B.w 60 rfl) (by decide) (bit_met l Z a0 B.2.2.1 [] T1.heap i9 (0 : Int32)) (by decide) (by decide) (by decide) (by decide) rfl (lenOf own_pd5 rfl) rfl (Nat.le_of_eq rfl) at_246 (pc' := 249) rfl (fun T2 X2 e2 => ?_)
    refine g_ldc2 X2 B (B.w 61 rfl) at_249 (pc' := 252) rfl ?_
    refine g_lxor X2 B at_252 (pc' := 253) rfl ?_
    refine g_land X2 B at_253 (pc' := 254) rfl ?_
    refine g_lstore X2 B at_254 (pc' := 256) rfl (Ls' := #[.val (.int i0), .val (.int i1), .val (.int i2), .val (.int i3), .val (.long j4), .second, .val (.long j6), .second, .val (.ref o8), .val (.int i9), .val (.int i10), .val (.int (0 : Int32)), .val (.long (j4 &&& ((bit_f0 i9 (0 : Int32)) ^^^ (-1 : Int64)))), .second, .unset, .unset]) rfl ?_
    refine g_lload X2 B at_256 (pc' := 258) rfl (v := j6) rfl ?_
    refine g_iload X2 B at_258 (pc' := 260) rfl (v := i9) rfl ?_
    refine g_iconst X2 B at_260 (pc' := 261) rfl (v := (1 : Int32)) (by decide) ?_
    refine g_callP X2 B e2 2 (y := (⟨"com/example/unseen_nodes/unseennodes/NodeSetIsEmptyPinLaw", "bit", "(II)J"⟩ : MethodName)) (argsL := [(.int i9), (.int (1 : Int32))]) (rest := [(.long j6)]) (w := (.long (bit_f0 i9 (1 : Int32)))) (B.w 57 rfl) (B.w 58 rfl) (B.w 59 rfl) (B.w 60 rfl) (by decide) (bit_met l Z a0 B.2.2.1 [] T1.heap i9 (1 : Int32)) (by decide) (by decide) (by decide) (by decide) rfl (lenOf own_pd5 rfl) rfl (Nat.le_of_eq rfl) at_261 (pc' := 264) rfl (fun T3 X3 e3 => ?_)
    refine g_ldc2 X3 B (B.w 61 rfl) at_264 (pc' := 267) rfl ?_
    refine g_lxor X3 B at_267 (pc' := 268) rfl ?_
    refine g_land X3 B at_268 (pc' := 269) rfl ?_
    refine g_lstore X3 B at_269 (pc' := 271) rfl (Ls' := #[.val (.int i0), .val (.int i1), .val (.int i2), .val (.int i3), .val (.long j4), .second, .val (.long j6), .second, .val (.ref o8), .val (.int i9), .val (.int i10), .val (.int (0 : Int32)), .val (.long (j4 &&& ((bit_f0 i9 (0 : Int32)) ^^^ (-1 : Int64)))), .second, .val (.long (j6 &&& ((bit_f0 i9 (1 : Int32)) ^^^ (-1 : Int64)))), .second]) rfl ?_
    refine g_iload X3 B at_271 (pc' := 273) rfl (v := (0 : Int32)) rfl ?_
    refine g_if_eq X3 B at_273 (pcT := 306) (pcF := 276) (by decide) rfl rfl (fun c273_1 => ?_) (fun c273_1 => ?_)
    · refine g_aload X3 B at_306 (pc' := 308) rfl (v := (.ref o8)) rfl rfl ?_
      refine g_virtual X3 B e3 0 E_o8_1 (y := (⟨"com/example/unseen_nodes/unseennodes/NodeSet", "isEmpty", "()Z"⟩ : MethodName)) (argsL := []) (rest := []) (a := o8) (B.w 33 rfl) (B.w 34 rfl) (B.w 36 rfl) (B.w 35 rfl) (B.w 2 rfl) (B.w 37 rfl) (by decide) (iw_met l Z a0 B.2.2.1 [] T1.heap o8 cn1 Wq1.1 Wq1.2.2.2.2.1) (by decide) (by decide) (by decide) (by decide) rfl (lenOf own_pd6 rfl) rfl (Nat.le_of_eq rfl) at_308 (pc' := 311) rfl (fun T4 v4 L4 X4 Q4 => ?_)
      obtain ⟨rfl, hh4, rfl⟩ := Q4
      rw [List.append_nil] at X4
      show Go p e below s _ _ _ (T4.setTop (mkF m 311 #[.val (.int i0), .val (.int i1), .val (.int i2), .val (.int i3), .val (.long j4), .second, .val (.long j6), .second, .val (.ref o8), .val (.int i9), .val (.int i10), .val (.int (0 : Int32)), .val (.long (j4 &&& ((bit_f0 i9 (0 : Int32)) ^^^ (-1 : Int64)))), .second, .val (.long (j6 &&& ((bit_f0 i9 (1 : Int32)) ^^^ (-1 : Int64)))), .second] [(.int (if cn1 = 0 then 1 else 0))]))
      refine g_lload X4 B at_311 (pc' := 313) rfl (v := (j4 &&& ((bit_f0 i9 (0 : Int32)) ^^^ (-1 : Int64)))) rfl ?_
      refine g_lconst X4 B at_313 (pc' := 314) rfl (v := (0 : Int64)) (by decide) ?_
      refine g_lcmp_ne X4 B at_314 at_315 (pcT := 329) (pcF := 318) (by decide) rfl rfl (fun c314_2 => ?_) (fun c314_2 => ?_)
      · refine g_lload X4 B at_318 (pc' := 320) rfl (v := (j6 &&& ((bit_f0 i9 (1 : Int32)) ^^^ (-1 : Int64)))) rfl ?_
        refine g_lconst X4 B at_320 (pc' := 321) rfl (v := (0 : Int64)) (by decide) ?_
        refine g_lcmp_ne X4 B at_321 at_322 (pcT := 329) (pcF := 325) (by decide) rfl rfl (fun c321_3 => ?_) (fun c321_3 => ?_)
        · refine g_iconst X4 B at_325 (pc' := 326) rfl (v := (1 : Int32)) (by decide) ?_
          refine g_goto X4 B at_326 (pc' := 330) (by decide) rfl ?_
          refine g_icmp_ne X4 B at_330 (pcT := 337) (pcF := 333) (by decide) rfl rfl (fun c330_4 => ?_) (fun c330_4 => ?_)
          · refine g_iconst X4 B at_333 (pc' := 334) rfl (v := (1 : Int32)) (by decide) ?_
            refine g_goto X4 B at_334 (pc' := 338) (by decide) rfl ?_
            exact g_retN X4 B (t := .boolean) rfl (by simp) at_338 (by decide) (by decide) ⟨congrArg (fun z => some (Value.int z)) (by decide : nar .boolean (1 : Int32) = 1), N1⟩
          · exact absurd (if_pos ((own_emp (r0 := (j4 &&& ((bit_f0 i9 (0 : Int32)) ^^^ (-1 : Int64)))) (r1 := (j6 &&& ((bit_f0 i9 (1 : Int32)) ^^^ (-1 : Int64)))) nf1 (by rw [own_bk]) (by rw [own_bk])).mpr ⟨c314_2, c321_3⟩)) c330_4
        · refine g_iconst X4 B at_329 (pc' := 330) rfl (v := (0 : Int32)) (by decide) ?_
          refine g_icmp_ne X4 B at_330 (pcT := 337) (pcF := 333) (by decide) rfl rfl (fun c330_4 => ?_) (fun c330_4 => ?_)
          · refine g_iconst X4 B at_333 (pc' := 334) rfl (v := (1 : Int32)) (by decide) ?_
            refine g_goto X4 B at_334 (pc' := 338) (by decide) rfl ?_
            exact g_retN X4 B (t := .boolean) rfl (by simp) at_338 (by decide) (by decide) ⟨congrArg (fun z => some (Value.int z)) (by decide : nar .boolean (1 : Int32) = 1), N1⟩
          · exact absurd (if_neg (fun q => c321_3 ((own_emp (r0 := (j4 &&& ((bit_f0 i9 (0 : Int32)) ^^^ (-1 : Int64)))) (r1 := (j6 &&& ((bit_f0 i9 (1 : Int32)) ^^^ (-1 : Int64)))) nf1 (by rw [own_bk]) (by rw [own_bk])).mp q).2)) c330_4
      · refine g_iconst X4 B at_329 (pc' := 330) rfl (v := (0 : Int32)) (by decide) ?_
        refine g_icmp_ne X4 B at_330 (pcT := 337) (pcF := 333) (by decide) rfl rfl (fun c330_3 => ?_) (fun c330_3 => ?_)
        · refine g_iconst X4 B at_333 (pc' := 334) rfl (v := (1 : Int32)) (by decide) ?_
          refine g_goto X4 B at_334 (pc' := 338) (by decide) rfl ?_
          exact g_retN X4 B (t := .boolean) rfl (by simp) at_338 (by decide) (by decide) ⟨congrArg (fun z => some (Value.int z)) (by decide : nar .boolean (1 : Int32) = 1), N1⟩
        · exact absurd (if_neg (fun q => c314_2 ((own_emp (r0 := (j4 &&& ((bit_f0 i9 (0 : Int32)) ^^^ (-1 : Int64)))) (r1 := (j6 &&& ((bit_f0 i9 (1 : Int32)) ^^^ (-1 : Int64)))) nf1 (by rw [own_bk]) (by rw [own_bk])).mp q).1)) c330_3
    · exact absurd (by decide) c273_1
  · exact absurd (by decide) c231_0
set_option maxRecDepth 65536 in
set_option maxHeartbeats 40000000 in
theorem law_w1 {p : Program} {l : Launch} {e : Env} {s : State} {m : MethodId} {args : Array Value} {below : List Frame} {meth : Method} {c : Code} {T : State} {Z : State} {a0 : Array Value} {h : Heap} {locs : List Loc} (X : Stand p l e room_1 s m args below meth c T locs 3 12) (B : Bdy p s m meth c Z a0 "com/example/unseen_nodes/unseennodes/NodeSetIsEmptyPinLaw" "law" code 16 (some .boolean) tables_1) (eT : T.heap = h) (n0 : Nat) (Zs : n0 ≤ h.size) (N : Fr n0 locs) (i0 : Int32) (i1 : Int32) (i2 : Int32) (i3 : Int32) (j4 : Int64) (j6 : Int64) (o8 : Addr) (i9 : Int32) (i10 : Int32) (i11 : Int32) (fa : Addr) (f : Int32) (cn : Int32) (hi : i11 = (1 : Int32)) (hE : Exa Z h o8 "com/example/unseen_nodes/unseennodes/NodeSet") (g0 : n0 ≤ o8) (ga : n0 ≤ fa) (noa : o8 ≠ fa) (hW : own_W Z h o8 fa f cn j4 j6) (hnf : own_nf f cn j4 j6) :
    Go p e below s room_1.cells room_1.slots (fun v _ L => v = some (.int 1) ∧ Fr n0 L) (T.setTop (mkF m 222 #[.val (.int i0), .val (.int i1), .val (.int i2), .val (.int i3), .val (.long j4), .second, .val (.long j6), .second, .val (.ref o8), .val (.int i9), .val (.int i10), .val (.int i11), .unset, .unset, .unset, .unset] [])) := by
  subst hi
  refine g_aload X B at_222 (pc' := 224) rfl (v := (.ref o8)) rfl rfl ?_
  refine g_iload X B at_224 (pc' := 226) rfl (v := i9) rfl ?_
  refine g_virtual X B eT 0 hE (y := (⟨"com/example/unseen_nodes/unseennodes/NodeSet", "clear", "(I)V"⟩ : MethodName)) (argsL := [(.int i9)]) (rest := []) (a := o8) (B.w 16 rfl) (B.w 17 rfl) (B.w 19 rfl) (B.w 18 rfl) (B.w 2 rfl) (B.w 20 rfl) (by decide) (cw_any l Z a0 B.2.2.1 [] h o8 i9 fa f cn j4 j6 n0 Zs hE g0 ga noa hW hnf) (by decide) (by decide) (by decide) (by decide) rfl (lenOf own_pd2 rfl) rfl (Nat.le_of_eq rfl) at_226 (pc' := 229) rfl (fun T1 v1 L1 X1 Q1 => ?_)
  obtain ⟨f1, cn1, rfl, Nq1, Kq1, Wq1, nf1⟩ := Q1
  have N1 := Fr.app N Nq1
  have E_o8_1 := hE.keep Kq1
  have Zs_1 := Nat.le_trans Zs Kq1.1
  show Go p e below s _ _ _ (T1.setTop (mkF m 229 #[.val (.int i0), .val (.int i1), .val (.int i2), .val (.int i3), .val (.long j4), .second, .val (.long j6), .second, .val (.ref o8), .val (.int i9), .val (.int i10), .val (.int (1 : Int32)), .unset, .unset, .unset, .unset] []))
  refine g_iload X1 B at_229 (pc' := 231) rfl (v := (1 : Int32)) rfl ?_
  refine g_if_eq X1 B at_231 (pcT := 241) (pcF := 234) (by decide) rfl rfl (fun c231_0 => ?_) (fun c231_0 => ?_)
  · exact absurd c231_0 (by decide)
  · refine g_aload X1 B at_234 (pc' := 236) rfl (v := (.ref o8)) rfl rfl ?_
    refine g_iload X1 B at_236 (pc' := 238) rfl (v := i10) rfl ?_
    refine g_virtual X1 B rfl 0 E_o8_1 (y := (⟨"com/example/unseen_nodes/unseennodes/NodeSet", "clear", "(I)V"⟩ : MethodName)) (argsL := [(.int i10)]) (rest := []) (a := o8) (B.w 16 rfl) (B.w 17 rfl) (B.w 19 rfl) (B.w 18 rfl) (B.w 2 rfl) (B.w 20 rfl) (by decide) (cw_any l Z a0 B.2.2.1 [] T1.heap o8 i10 fa f1 cn1 (own_ck 0 i9 j4) (own_ck 1 i9 j6) n0 Zs_1 E_o8_1 g0 ga noa Wq1 nf1) (by decide) (by decide) (by decide) (by decide) rfl (lenOf own_pd2 rfl) rfl (Nat.le_of_eq rfl) at_238 (pc' := 241) rfl (fun T2 v2 L2 X2 Q2 => ?_)
    obtain ⟨f2, cn2, rfl, Nq2, Kq2, Wq2, nf2⟩ := Q2
    have N2 := Fr.app N1 Nq2
    have E_o8_2 := E_o8_1.keep Kq2
    have Zs_2 := Nat.le_trans Zs_1 Kq2.1
    show Go p e below s _ _ _ (T2.setTop (mkF m 241 #[.val (.int i0), .val (.int i1), .val (.int i2), .val (.int i3), .val (.long j4), .second, .val (.long j6), .second, .val (.ref o8), .val (.int i9), .val (.int i10), .val (.int (1 : Int32)), .unset, .unset, .unset, .unset] []))
    refine g_lload X2 B at_241 (pc' := 243) rfl (v := j4) rfl ?_
    refine g_iload X2 B at_243 (pc' := 245) rfl (v := i9) rfl ?_
    refine g_iconst X2 B at_245 (pc' := 246) rfl (v := (0 : Int32)) (by decide) ?_
    refine g_callP X2 B rfl 2 (y := (⟨"com/example/unseen_nodes/unseennodes/NodeSetIsEmptyPinLaw", "bit", "(II)J"⟩ : MethodName)) (argsL := [(.int i9), (.int (0 : Int32))]) (rest := [(.long j4)]) (w := (.long (bit_f0 i9 (0 : Int32)))) (B.w 57 rfl) (B.w 58 rfl) (B.w 59 rfl) (B.w 60 rfl) (by decide) (bit_met l Z a0 B.2.2.1 [] T2.heap i9 (0 : Int32)) (by decide) (by decide) (by decide) (by decide) rfl (lenOf own_pd5 rfl) rfl (Nat.le_of_eq rfl) at_246 (pc' := 249) rfl (fun T3 X3 e3 => ?_)
    refine g_ldc2 X3 B (B.w 61 rfl) at_249 (pc' := 252) rfl ?_
    refine g_lxor X3 B at_252 (pc' := 253) rfl ?_
    refine g_land X3 B at_253 (pc' := 254) rfl ?_
    refine g_lstore X3 B at_254 (pc' := 256) rfl (Ls' := #[.val (.int i0), .val (.int i1), .val (.int i2), .val (.int i3), .val (.long j4), .second, .val (.long j6), .second, .val (.ref o8), .val (.int i9), .val (.int i10), .val (.int (1 : Int32)), .val (.long (j4 &&& ((bit_f0 i9 (0 : Int32)) ^^^ (-1 : Int64)))), .second, .unset, .unset]) rfl ?_
    refine g_lload X3 B at_256 (pc' := 258) rfl (v := j6) rfl ?_
    refine g_iload X3 B at_258 (pc' := 260) rfl (v := i9) rfl ?_
    refine g_iconst X3 B at_260 (pc' := 261) rfl (v := (1 : Int32)) (by decide) ?_
    refine g_callP X3 B e3 2 (y := (⟨"com/example/unseen_nodes/unseennodes/NodeSetIsEmptyPinLaw", "bit", "(II)J"⟩ : MethodName)) (argsL := [(.int i9), (.int (1 : Int32))]) (rest := [(.long j6)]) (w := (.long (bit_f0 i9 (1 : Int32)))) (B.w 57 rfl) (B.w 58 rfl) (B.w 59 rfl) (B.w 60 rfl) (by decide) (bit_met l Z a0 B.2.2.1 [] T2.heap i9 (1 : Int32)) (by decide) (by decide) (by decide) (by decide) rfl (lenOf own_pd5 rfl) rfl (Nat.le_of_eq rfl) at_261 (pc' := 264) rfl (fun T4 X4 e4 => ?_)
    refine g_ldc2 X4 B (B.w 61 rfl) at_264 (pc' := 267) rfl ?_
    refine g_lxor X4 B at_267 (pc' := 268) rfl ?_
    refine g_land X4 B at_268 (pc' := 269) rfl ?_
    refine g_lstore X4 B at_269 (pc' := 271) rfl (Ls' := #[.val (.int i0), .val (.int i1), .val (.int i2), .val (.int i3), .val (.long j4), .second, .val (.long j6), .second, .val (.ref o8), .val (.int i9), .val (.int i10), .val (.int (1 : Int32)), .val (.long (j4 &&& ((bit_f0 i9 (0 : Int32)) ^^^ (-1 : Int64)))), .second, .val (.long (j6 &&& ((bit_f0 i9 (1 : Int32)) ^^^ (-1 : Int64)))), .second]) rfl ?_
    refine g_iload X4 B at_271 (pc' := 273) rfl (v := (1 : Int32)) rfl ?_
    refine g_if_eq X4 B at_273 (pcT := 306) (pcF := 276) (by decide) rfl rfl (fun c273_1 => ?_) (fun c273_1 => ?_)
    · exact absurd c273_1 (by decide)
    · refine g_lload X4 B at_276 (pc' := 278) rfl (v := (j4 &&& ((bit_f0 i9 (0 : Int32)) ^^^ (-1 : Int64)))) rfl ?_
      refine g_iload X4 B at_278 (pc' := 280) rfl (v := i10) rfl ?_
      refine g_iconst X4 B at_280 (pc' := 281) rfl (v := (0 : Int32)) (by decide) ?_
      refine g_callP X4 B e4 2 (y := (⟨"com/example/unseen_nodes/unseennodes/NodeSetIsEmptyPinLaw", "bit", "(II)J"⟩ : MethodName)) (argsL := [(.int i10), (.int (0 : Int32))]) (rest := [(.long (j4 &&& ((bit_f0 i9 (0 : Int32)) ^^^ (-1 : Int64))))]) (w := (.long (bit_f0 i10 (0 : Int32)))) (B.w 57 rfl) (B.w 58 rfl) (B.w 59 rfl) (B.w 60 rfl) (by decide) (bit_met l Z a0 B.2.2.1 [] T2.heap i10 (0 : Int32)) (by decide) (by decide) (by decide) (by decide) rfl (lenOf own_pd5 rfl) rfl (Nat.le_of_eq rfl) at_281 (pc' := 284) rfl (fun T5 X5 e5 => ?_)
      refine g_ldc2 X5 B (B.w 61 rfl) at_284 (pc' := 287) rfl ?_
      refine g_lxor X5 B at_287 (pc' := 288) rfl ?_
      refine g_land X5 B at_288 (pc' := 289) rfl ?_
      refine g_lstore X5 B at_289 (pc' := 291) rfl (Ls' := #[.val (.int i0), .val (.int i1), .val (.int i2), .val (.int i3), .val (.long j4), .second, .val (.long j6), .second, .val (.ref o8), .val (.int i9), .val (.int i10), .val (.int (1 : Int32)), .val (.long ((j4 &&& ((bit_f0 i9 (0 : Int32)) ^^^ (-1 : Int64))) &&& ((bit_f0 i10 (0 : Int32)) ^^^ (-1 : Int64)))), .second, .val (.long (j6 &&& ((bit_f0 i9 (1 : Int32)) ^^^ (-1 : Int64)))), .second]) rfl ?_
      refine g_lload X5 B at_291 (pc' := 293) rfl (v := (j6 &&& ((bit_f0 i9 (1 : Int32)) ^^^ (-1 : Int64)))) rfl ?_
      refine g_iload X5 B at_293 (pc' := 295) rfl (v := i10) rfl ?_
      refine g_iconst X5 B at_295 (pc' := 296) rfl (v := (1 : Int32)) (by decide) ?_
      refine g_callP X5 B e5 2 (y := (⟨"com/example/unseen_nodes/unseennodes/NodeSetIsEmptyPinLaw", "bit", "(II)J"⟩ : MethodName)) (argsL := [(.int i10), (.int (1 : Int32))]) (rest := [(.long (j6 &&& ((bit_f0 i9 (1 : Int32)) ^^^ (-1 : Int64))))]) (w := (.long (bit_f0 i10 (1 : Int32)))) (B.w 57 rfl) (B.w 58 rfl) (B.w 59 rfl) (B.w 60 rfl) (by decide) (bit_met l Z a0 B.2.2.1 [] T2.heap i10 (1 : Int32)) (by decide) (by decide) (by decide) (by decide) rfl (lenOf own_pd5 rfl) rfl (Nat.le_of_eq rfl) at_296 (pc' := 299) rfl (fun T6 X6 e6 => ?_)
      refine g_ldc2 X6 B (B.w 61 rfl) at_299 (pc' := 302) rfl ?_
      refine g_lxor X6 B at_302 (pc' := 303) rfl ?_
      refine g_land X6 B at_303 (pc' := 304) rfl ?_
      refine g_lstore X6 B at_304 (pc' := 306) rfl (Ls' := #[.val (.int i0), .val (.int i1), .val (.int i2), .val (.int i3), .val (.long j4), .second, .val (.long j6), .second, .val (.ref o8), .val (.int i9), .val (.int i10), .val (.int (1 : Int32)), .val (.long ((j4 &&& ((bit_f0 i9 (0 : Int32)) ^^^ (-1 : Int64))) &&& ((bit_f0 i10 (0 : Int32)) ^^^ (-1 : Int64)))), .second, .val (.long ((j6 &&& ((bit_f0 i9 (1 : Int32)) ^^^ (-1 : Int64))) &&& ((bit_f0 i10 (1 : Int32)) ^^^ (-1 : Int64)))), .second]) rfl ?_
      refine g_aload X6 B at_306 (pc' := 308) rfl (v := (.ref o8)) rfl rfl ?_
      refine g_virtual X6 B e6 0 E_o8_2 (y := (⟨"com/example/unseen_nodes/unseennodes/NodeSet", "isEmpty", "()Z"⟩ : MethodName)) (argsL := []) (rest := []) (a := o8) (B.w 33 rfl) (B.w 34 rfl) (B.w 36 rfl) (B.w 35 rfl) (B.w 2 rfl) (B.w 37 rfl) (by decide) (iw_met l Z a0 B.2.2.1 [] T2.heap o8 cn2 Wq2.1 Wq2.2.2.2.2.1) (by decide) (by decide) (by decide) (by decide) rfl (lenOf own_pd6 rfl) rfl (Nat.le_of_eq rfl) at_308 (pc' := 311) rfl (fun T7 v7 L7 X7 Q7 => ?_)
      obtain ⟨rfl, hh7, rfl⟩ := Q7
      rw [List.append_nil] at X7
      show Go p e below s _ _ _ (T7.setTop (mkF m 311 #[.val (.int i0), .val (.int i1), .val (.int i2), .val (.int i3), .val (.long j4), .second, .val (.long j6), .second, .val (.ref o8), .val (.int i9), .val (.int i10), .val (.int (1 : Int32)), .val (.long ((j4 &&& ((bit_f0 i9 (0 : Int32)) ^^^ (-1 : Int64))) &&& ((bit_f0 i10 (0 : Int32)) ^^^ (-1 : Int64)))), .second, .val (.long ((j6 &&& ((bit_f0 i9 (1 : Int32)) ^^^ (-1 : Int64))) &&& ((bit_f0 i10 (1 : Int32)) ^^^ (-1 : Int64)))), .second] [(.int (if cn2 = 0 then 1 else 0))]))
      refine g_lload X7 B at_311 (pc' := 313) rfl (v := ((j4 &&& ((bit_f0 i9 (0 : Int32)) ^^^ (-1 : Int64))) &&& ((bit_f0 i10 (0 : Int32)) ^^^ (-1 : Int64)))) rfl ?_
      refine g_lconst X7 B at_313 (pc' := 314) rfl (v := (0 : Int64)) (by decide) ?_
      refine g_lcmp_ne X7 B at_314 at_315 (pcT := 329) (pcF := 318) (by decide) rfl rfl (fun c314_2 => ?_) (fun c314_2 => ?_)
      · refine g_lload X7 B at_318 (pc' := 320) rfl (v := ((j6 &&& ((bit_f0 i9 (1 : Int32)) ^^^ (-1 : Int64))) &&& ((bit_f0 i10 (1 : Int32)) ^^^ (-1 : Int64)))) rfl ?_
        refine g_lconst X7 B at_320 (pc' := 321) rfl (v := (0 : Int64)) (by decide) ?_
        refine g_lcmp_ne X7 B at_321 at_322 (pcT := 329) (pcF := 325) (by decide) rfl rfl (fun c321_3 => ?_) (fun c321_3 => ?_)
        · refine g_iconst X7 B at_325 (pc' := 326) rfl (v := (1 : Int32)) (by decide) ?_
          refine g_goto X7 B at_326 (pc' := 330) (by decide) rfl ?_
          refine g_icmp_ne X7 B at_330 (pcT := 337) (pcF := 333) (by decide) rfl rfl (fun c330_4 => ?_) (fun c330_4 => ?_)
          · refine g_iconst X7 B at_333 (pc' := 334) rfl (v := (1 : Int32)) (by decide) ?_
            refine g_goto X7 B at_334 (pc' := 338) (by decide) rfl ?_
            exact g_retN X7 B (t := .boolean) rfl (by simp) at_338 (by decide) (by decide) ⟨congrArg (fun z => some (Value.int z)) (by decide : nar .boolean (1 : Int32) = 1), N2⟩
          · exact absurd (if_pos ((own_emp (r0 := ((j4 &&& ((bit_f0 i9 (0 : Int32)) ^^^ (-1 : Int64))) &&& ((bit_f0 i10 (0 : Int32)) ^^^ (-1 : Int64)))) (r1 := ((j6 &&& ((bit_f0 i9 (1 : Int32)) ^^^ (-1 : Int64))) &&& ((bit_f0 i10 (1 : Int32)) ^^^ (-1 : Int64)))) nf2 (by rw [own_bk, own_bk]) (by rw [own_bk, own_bk])).mpr ⟨c314_2, c321_3⟩)) c330_4
        · refine g_iconst X7 B at_329 (pc' := 330) rfl (v := (0 : Int32)) (by decide) ?_
          refine g_icmp_ne X7 B at_330 (pcT := 337) (pcF := 333) (by decide) rfl rfl (fun c330_4 => ?_) (fun c330_4 => ?_)
          · refine g_iconst X7 B at_333 (pc' := 334) rfl (v := (1 : Int32)) (by decide) ?_
            refine g_goto X7 B at_334 (pc' := 338) (by decide) rfl ?_
            exact g_retN X7 B (t := .boolean) rfl (by simp) at_338 (by decide) (by decide) ⟨congrArg (fun z => some (Value.int z)) (by decide : nar .boolean (1 : Int32) = 1), N2⟩
          · exact absurd (if_neg (fun q => c321_3 ((own_emp (r0 := ((j4 &&& ((bit_f0 i9 (0 : Int32)) ^^^ (-1 : Int64))) &&& ((bit_f0 i10 (0 : Int32)) ^^^ (-1 : Int64)))) (r1 := ((j6 &&& ((bit_f0 i9 (1 : Int32)) ^^^ (-1 : Int64))) &&& ((bit_f0 i10 (1 : Int32)) ^^^ (-1 : Int64)))) nf2 (by rw [own_bk, own_bk]) (by rw [own_bk, own_bk])).mp q).2)) c330_4
      · refine g_iconst X7 B at_329 (pc' := 330) rfl (v := (0 : Int32)) (by decide) ?_
        refine g_icmp_ne X7 B at_330 (pcT := 337) (pcF := 333) (by decide) rfl rfl (fun c330_3 => ?_) (fun c330_3 => ?_)
        · refine g_iconst X7 B at_333 (pc' := 334) rfl (v := (1 : Int32)) (by decide) ?_
          refine g_goto X7 B at_334 (pc' := 338) (by decide) rfl ?_
          exact g_retN X7 B (t := .boolean) rfl (by simp) at_338 (by decide) (by decide) ⟨congrArg (fun z => some (Value.int z)) (by decide : nar .boolean (1 : Int32) = 1), N2⟩
        · exact absurd (if_neg (fun q => c314_2 ((own_emp (r0 := ((j4 &&& ((bit_f0 i9 (0 : Int32)) ^^^ (-1 : Int64))) &&& ((bit_f0 i10 (0 : Int32)) ^^^ (-1 : Int64)))) (r1 := ((j6 &&& ((bit_f0 i9 (1 : Int32)) ^^^ (-1 : Int64))) &&& ((bit_f0 i10 (1 : Int32)) ^^^ (-1 : Int64)))) nf2 (by rw [own_bk, own_bk]) (by rw [own_bk, own_bk])).mp q).1)) c330_3
set_option maxRecDepth 65536 in
set_option maxHeartbeats 40000000 in
theorem law_go {p : Program} {l : Launch} {e : Env} {s : State} {m : MethodId} {args : Array Value} {below : List Frame} {meth : Method} {c : Code} {T : State} {Z : State} {a0 : Array Value} {h : Heap} (X : Stand p l e room_1 s m args below meth c T [] 0 0) (B : Bdy p s m meth c Z a0 "com/example/unseen_nodes/unseennodes/NodeSetIsEmptyPinLaw" "law" code 16 (some .boolean) tables_1) (eT : T.heap = h) (n0 : Nat) (Zs : n0 ≤ h.size) (i0 : Int32) (i1 : Int32) (i2 : Int32) (i3 : Int32) (j4 : Int64) (j6 : Int64) (aW : Addr) (hn0 : Z.heap.size ≤ n0) (hO : Ext Z.heap h) (S0 : Sta Z Z.heap "com/example/unseen_nodes/unseennodes/NodeSet" "NO_WORDS" "[J" (.ref aW)) :
    Go p e below s room_1.cells room_1.slots (fun v _ L => v = some (.int 1) ∧ Fr n0 L) (T.setTop (mkF m 0 #[.val (.int i0), .val (.int i1), .val (.int i2), .val (.int i3), .val (.long j4), .second, .val (.long j6), .second, .unset, .unset, .unset, .unset, .unset, .unset, .unset, .unset] [])) := by
  have N := Fr.nil n0
  refine g_iloadN X B at_0 (pc' := 1) rfl (v := i0) rfl ?_
  refine g_iconst X B at_1 (pc' := 2) rfl (v := (1 : Int32)) (by decide) ?_
  refine g_iand X B at_2 (pc' := 3) rfl ?_
  refine g_if_ne X B at_3 (pcT := 156) (pcF := 6) (by decide) rfl rfl (fun c3_0 => ?_) (fun c3_0 => ?_)
  · refine g_new X B (B.w 0 rfl) (B.w 1 rfl) (B.w 2 rfl) eT at_6 (pc' := 9) rfl (by decide) (by decide) (fun T1 h1 ob1 q1 X1 e1 E1 A1 D1 => ?_)
    have G_ob1 : n0 ≤ ob1 := by rw [q1]; exact Zs
    have Zs_1 := Nat.le_trans Zs E1.1
    have O_1 := own_old_ext hO E1
    have F_ob1_listed : Fld Z h1 ob1 "com/example/unseen_nodes/unseennodes/NodeSet" "listed" "[I" .null := D1 (Or.inl (B.w 11 rfl)) (ty := (.array .int)) (by decide)
    have F_ob1_words : Fld Z h1 ob1 "com/example/unseen_nodes/unseennodes/NodeSet" "words" "[J" .null := D1 (Or.inl (B.w 15 rfl)) (ty := (.array .long)) (by decide)
    have F_ob1_listedCount : Fld Z h1 ob1 "com/example/unseen_nodes/unseennodes/NodeSet" "listedCount" "I" (.int (0 : Int32)) := D1 (Or.inl (B.w 22 rfl)) (ty := .int) (by decide)
    have F_ob1_firstWord : Fld Z h1 ob1 "com/example/unseen_nodes/unseennodes/NodeSet" "firstWord" "I" (.int (0 : Int32)) := D1 (Or.inl (B.w 47 rfl)) (ty := .int) (by decide)
    have F_ob1_count : Fld Z h1 ob1 "com/example/unseen_nodes/unseennodes/NodeSet" "count" "I" (.int (0 : Int32)) := D1 (Or.inl (B.w 49 rfl)) (ty := .int) (by decide)
    have F_ob1_start : Fld Z h1 ob1 "com/example/unseen_nodes/unseennodes/NodeSet" "start" "I" (.int (0 : Int32)) := D1 (Or.inl (B.w 55 rfl)) (ty := .int) (by decide)
    refine g_dup X1 B at_9 (pc' := 10) rfl rfl ?_
    refine g_special X1 B e1 1 (y := (⟨"com/example/unseen_nodes/unseennodes/NodeSet", "<init>", "()V"⟩ : MethodName)) (argsL := []) (rest := [(.ref ob1)]) (a := ob1) rfl (B.w 3 rfl) (B.w 4 rfl) (B.w 2 rfl) (B.w 5 rfl) (by decide) (ni_met l Z a0 B.2.2.1 [] h1 ob1 aW n0 Zs_1 A1 G_ob1 (S0.ext O_1) F_ob1_listed F_ob1_words F_ob1_firstWord F_ob1_start F_ob1_count F_ob1_listedCount) (by decide) (by decide) (by decide) (by decide) rfl (lenOf own_pd3 rfl) rfl (Nat.le_of_eq rfl) at_10 (pc' := 13) rfl (fun T2 v2 L2 X2 Q2 => ?_)
    obtain ⟨fa, rfl, Nq2, Kq2, noa, ga, Sq2⟩ := Q2
    have N2 := Fr.app N Nq2
    have E_ob1_2 := A1.keep Kq2
    have Zs_2 := Nat.le_trans Zs_1 Kq2.1
    have O_2 := own_old_keep O_1 Kq2 (by intro x hx; simp only [List.mem_cons, List.not_mem_nil, or_false] at hx; subst hx; exact Nat.le_trans hn0 G_ob1)
    show Go p e below s _ _ _ (T2.setTop (mkF m 13 #[.val (.int i0), .val (.int i1), .val (.int i2), .val (.int i3), .val (.long j4), .second, .val (.long j6), .second, .unset, .unset, .unset, .unset, .unset, .unset, .unset, .unset] [(.ref ob1)]))
    refine g_astore X2 B at_13 (pc' := 15) rfl rfl (Ls' := #[.val (.int i0), .val (.int i1), .val (.int i2), .val (.int i3), .val (.long j4), .second, .val (.long j6), .second, .val (.ref ob1), .unset, .unset, .unset, .unset, .unset, .unset, .unset]) rfl ?_
    refine g_iloadN X2 B at_15 (pc' := 16) rfl (v := i0) rfl ?_
    refine g_iconst X2 B at_16 (pc' := 17) rfl (v := (2 : Int32)) (by decide) ?_
    refine g_iand X2 B at_17 (pc' := 18) rfl ?_
    refine g_if_eq X2 B at_18 (pcT := 25) (pcF := 21) (by decide) rfl rfl (fun c18_1 => ?_) (fun c18_1 => ?_)
    · refine g_iconst X2 B at_25 (pc' := 26) rfl (v := (0 : Int32)) (by decide) ?_
      refine g_istore X2 B at_26 (pc' := 28) rfl (Ls' := #[.val (.int i0), .val (.int i1), .val (.int i2), .val (.int i3), .val (.long j4), .second, .val (.long j6), .second, .val (.ref ob1), .val (.int (0 : Int32)), .unset, .unset, .unset, .unset, .unset, .unset]) rfl ?_
      refine g_iloadN X2 B at_28 (pc' := 29) rfl (v := i0) rfl ?_
      refine g_iconst X2 B at_29 (pc' := 30) rfl (v := (4 : Int32)) (by decide) ?_
      refine g_iand X2 B at_30 (pc' := 31) rfl ?_
      refine g_if_eq X2 B at_31 (pcT := 38) (pcF := 34) (by decide) rfl rfl (fun c31_2 => ?_) (fun c31_2 => ?_)
      · refine g_iconst X2 B at_38 (pc' := 39) rfl (v := (0 : Int32)) (by decide) ?_
        refine g_istore X2 B at_39 (pc' := 41) rfl (Ls' := #[.val (.int i0), .val (.int i1), .val (.int i2), .val (.int i3), .val (.long j4), .second, .val (.long j6), .second, .val (.ref ob1), .val (.int (0 : Int32)), .val (.int (0 : Int32)), .unset, .unset, .unset, .unset, .unset]) rfl ?_
        refine g_lload X2 B at_41 (pc' := 43) rfl (v := j4) rfl ?_
        refine g_l2i X2 B at_43 (pc' := 44) rfl ?_
        refine g_istore X2 B at_44 (pc' := 46) rfl (Ls' := #[.val (.int i0), .val (.int i1), .val (.int i2), .val (.int i3), .val (.long j4), .second, .val (.long j6), .second, .val (.ref ob1), .val (.int (0 : Int32)), .val (.int (0 : Int32)), .val (.int (j4.toInt32)), .unset, .unset, .unset, .unset]) rfl ?_
        refine g_iload X2 B at_46 (pc' := 48) rfl (v := (0 : Int32)) rfl ?_
        refine g_if_eq X2 B at_48 (pcT := 57) (pcF := 51) (by decide) rfl rfl (fun c48_3 => ?_) (fun c48_3 => ?_)
        · refine g_iload X2 B at_57 (pc' := 59) rfl (v := (0 : Int32)) rfl ?_
          refine g_if_eq X2 B at_59 (pcT := 68) (pcF := 62) (by decide) rfl rfl (fun c59_4 => ?_) (fun c59_4 => ?_)
          · refine g_aload X2 B at_68 (pc' := 70) rfl (v := (.ref ob1)) rfl rfl ?_
            refine g_iloadN X2 B at_70 (pc' := 71) rfl (v := i3) rfl ?_
            refine g_virtual X2 B rfl 0 E_ob1_2 (y := (⟨"com/example/unseen_nodes/unseennodes/NodeSet", "clear", "(I)V"⟩ : MethodName)) (argsL := [(.int i3)]) (rest := []) (a := ob1) (B.w 16 rfl) (B.w 17 rfl) (B.w 19 rfl) (B.w 18 rfl) (B.w 2 rfl) (B.w 20 rfl) (by decide) (cl_any l Z a0 B.2.2.1 [] T2.heap ob1 i3 fa ([] : List Int32) (by simp) n0 Zs_2 E_ob1_2 G_ob1 ga noa Sq2) (by decide) (by decide) (by decide) (by decide) rfl (lenOf own_pd2 rfl) rfl (Nat.le_of_eq rfl) at_71 (pc' := 74) rfl (fun T3 v3 L3 X3 Q3 => ?_)
            obtain ⟨rfl, Nq3, Kq3, Sq3⟩ := Q3
            have N3 := Fr.app N2 Nq3
            have E_ob1_3 := E_ob1_2.keep Kq3
            have Zs_3 := Nat.le_trans Zs_2 Kq3.1
            have O_3 := own_old_keep O_2 Kq3 (by intro x hx; simp only [List.mem_cons, List.not_mem_nil, or_false] at hx; rcases hx with rfl | rfl <;> first | exact Nat.le_trans hn0 G_ob1 | exact Nat.le_trans hn0 ga)
            show Go p e below s _ _ _ (T3.setTop (mkF m 74 #[.val (.int i0), .val (.int i1), .val (.int i2), .val (.int i3), .val (.long j4), .second, .val (.long j6), .second, .val (.ref ob1), .val (.int (0 : Int32)), .val (.int (0 : Int32)), .val (.int (j4.toInt32)), .unset, .unset, .unset, .unset] []))
            refine g_aload X3 B at_74 (pc' := 76) rfl (v := (.ref ob1)) rfl rfl ?_
            refine g_iload X3 B at_76 (pc' := 78) rfl (v := (j4.toInt32)) rfl ?_
            refine g_virtual X3 B rfl 0 E_ob1_3 (y := (⟨"com/example/unseen_nodes/unseennodes/NodeSet", "clear", "(I)V"⟩ : MethodName)) (argsL := [(.int (j4.toInt32))]) (rest := []) (a := ob1) (B.w 16 rfl) (B.w 17 rfl) (B.w 19 rfl) (B.w 18 rfl) (B.w 2 rfl) (B.w 20 rfl) (by decide) (cl_any l Z a0 B.2.2.1 [] T3.heap ob1 (j4.toInt32) fa (own_del ([] : List Int32) i3) (own_dell i3 (by simp)) n0 Zs_3 E_ob1_3 G_ob1 ga noa Sq3) (by decide) (by decide) (by decide) (by decide) rfl (lenOf own_pd2 rfl) rfl (Nat.le_of_eq rfl) at_78 (pc' := 81) rfl (fun T4 v4 L4 X4 Q4 => ?_)
            obtain ⟨rfl, Nq4, Kq4, Sq4⟩ := Q4
            have N4 := Fr.app N3 Nq4
            have E_ob1_4 := E_ob1_3.keep Kq4
            have Zs_4 := Nat.le_trans Zs_3 Kq4.1
            have O_4 := own_old_keep O_3 Kq4 (by intro x hx; simp only [List.mem_cons, List.not_mem_nil, or_false] at hx; rcases hx with rfl | rfl <;> first | exact Nat.le_trans hn0 G_ob1 | exact Nat.le_trans hn0 ga)
            show Go p e below s _ _ _ (T4.setTop (mkF m 81 #[.val (.int i0), .val (.int i1), .val (.int i2), .val (.int i3), .val (.long j4), .second, .val (.long j6), .second, .val (.ref ob1), .val (.int (0 : Int32)), .val (.int (0 : Int32)), .val (.int (j4.toInt32)), .unset, .unset, .unset, .unset] []))
            refine g_iload X4 B at_81 (pc' := 83) rfl (v := (0 : Int32)) rfl ?_
            refine g_if_eq X4 B at_83 (pcT := 101) (pcF := 86) (by decide) rfl rfl (fun c83_5 => ?_) (fun c83_5 => ?_)
            · refine g_iconst X4 B at_101 (pc' := 102) rfl (v := (0 : Int32)) (by decide) ?_
              refine g_istore X4 B at_102 (pc' := 104) rfl (Ls' := #[.val (.int i0), .val (.int i1), .val (.int i2), .val (.int i3), .val (.long j4), .second, .val (.long j6), .second, .val (.ref ob1), .val (.int (0 : Int32)), .val (.int (0 : Int32)), .val (.int (j4.toInt32)), .val (.int (0 : Int32)), .unset, .unset, .unset]) rfl ?_
              refine g_iload X4 B at_104 (pc' := 106) rfl (v := (0 : Int32)) rfl ?_
              refine g_if_eq X4 B at_106 (pcT := 124) (pcF := 109) (by decide) rfl rfl (fun c106_6 => ?_) (fun c106_6 => ?_)
              · refine g_iconst X4 B at_124 (pc' := 125) rfl (v := (0 : Int32)) (by decide) ?_
                refine g_istore X4 B at_125 (pc' := 127) rfl (Ls' := #[.val (.int i0), .val (.int i1), .val (.int i2), .val (.int i3), .val (.long j4), .second, .val (.long j6), .second, .val (.ref ob1), .val (.int (0 : Int32)), .val (.int (0 : Int32)), .val (.int (j4.toInt32)), .val (.int (0 : Int32)), .val (.int (0 : Int32)), .unset, .unset]) rfl ?_
                refine g_aload X4 B at_127 (pc' := 129) rfl (v := (.ref ob1)) rfl rfl ?_
                refine g_virtual X4 B rfl 0 E_ob1_4 (y := (⟨"com/example/unseen_nodes/unseennodes/NodeSet", "isEmpty", "()Z"⟩ : MethodName)) (argsL := []) (rest := []) (a := ob1) (B.w 33 rfl) (B.w 34 rfl) (B.w 36 rfl) (B.w 35 rfl) (B.w 2 rfl) (B.w 37 rfl) (by decide) (il_met l Z a0 B.2.2.1 [] T4.heap ob1 fa (own_n (own_del (own_del ([] : List Int32) i3) (j4.toInt32))) (own_Sl Sq4) (own_Sc Sq4)) (by decide) (by decide) (by decide) (by decide) rfl (lenOf own_pd6 rfl) rfl (Nat.le_of_eq rfl) at_129 (pc' := 132) rfl (fun T5 v5 L5 X5 Q5 => ?_)
                obtain ⟨rfl, hh5, rfl⟩ := Q5
                rw [List.append_nil] at X5
                show Go p e below s _ _ _ (T5.setTop (mkF m 132 #[.val (.int i0), .val (.int i1), .val (.int i2), .val (.int i3), .val (.long j4), .second, .val (.long j6), .second, .val (.ref ob1), .val (.int (0 : Int32)), .val (.int (0 : Int32)), .val (.int (j4.toInt32)), .val (.int (0 : Int32)), .val (.int (0 : Int32)), .unset, .unset] [(.int (if own_n (own_del (own_del ([] : List Int32) i3) (j4.toInt32)) = 0 then 1 else 0))]))
                refine g_iload X5 B at_132 (pc' := 134) rfl (v := (0 : Int32)) rfl ?_
                refine g_if_ne X5 B at_134 (pcT := 146) (pcF := 137) (by decide) rfl rfl (fun c134_7 => ?_) (fun c134_7 => ?_)
                · refine g_iload X5 B at_137 (pc' := 139) rfl (v := (0 : Int32)) rfl ?_
                  refine g_if_ne X5 B at_139 (pcT := 146) (pcF := 142) (by decide) rfl rfl (fun c139_8 => ?_) (fun c139_8 => ?_)
                  · refine g_iconst X5 B at_142 (pc' := 143) rfl (v := (1 : Int32)) (by decide) ?_
                    refine g_goto X5 B at_143 (pc' := 147) (by decide) rfl ?_
                    refine g_icmp_ne X5 B at_147 (pcT := 154) (pcF := 150) (by decide) rfl rfl (fun c147_9 => ?_) (fun c147_9 => ?_)
                    · refine g_iconst X5 B at_150 (pc' := 151) rfl (v := (1 : Int32)) (by decide) ?_
                      refine g_goto X5 B at_151 (pc' := 155) (by decide) rfl ?_
                      exact g_retN X5 B (t := .boolean) rfl (by simp) at_155 (by decide) (by decide) ⟨congrArg (fun z => some (Value.int z)) (by decide : nar .boolean (1 : Int32) = 1), N4⟩
                    · exact absurd (if_pos (show own_n (own_del (own_del ([] : List Int32) i3) (j4.toInt32)) = 0 from rfl)) c147_9
                  · exact absurd (by decide) c139_8
                · exact absurd (by decide) c134_7
              · exact absurd (by decide) c106_6
            · exact absurd (by decide) c83_5
          · exact absurd (by decide) c59_4
        · exact absurd (by decide) c48_3
      · refine g_iconst X2 B at_34 (pc' := 35) rfl (v := (1 : Int32)) (by decide) ?_
        refine g_goto X2 B at_35 (pc' := 39) (by decide) rfl ?_
        refine g_istore X2 B at_39 (pc' := 41) rfl (Ls' := #[.val (.int i0), .val (.int i1), .val (.int i2), .val (.int i3), .val (.long j4), .second, .val (.long j6), .second, .val (.ref ob1), .val (.int (0 : Int32)), .val (.int (1 : Int32)), .unset, .unset, .unset, .unset, .unset]) rfl ?_
        refine g_lload X2 B at_41 (pc' := 43) rfl (v := j4) rfl ?_
        refine g_l2i X2 B at_43 (pc' := 44) rfl ?_
        refine g_istore X2 B at_44 (pc' := 46) rfl (Ls' := #[.val (.int i0), .val (.int i1), .val (.int i2), .val (.int i3), .val (.long j4), .second, .val (.long j6), .second, .val (.ref ob1), .val (.int (0 : Int32)), .val (.int (1 : Int32)), .val (.int (j4.toInt32)), .unset, .unset, .unset, .unset]) rfl ?_
        refine g_iload X2 B at_46 (pc' := 48) rfl (v := (0 : Int32)) rfl ?_
        refine g_if_eq X2 B at_48 (pcT := 57) (pcF := 51) (by decide) rfl rfl (fun c48_3 => ?_) (fun c48_3 => ?_)
        · refine g_iload X2 B at_57 (pc' := 59) rfl (v := (1 : Int32)) rfl ?_
          refine g_if_eq X2 B at_59 (pcT := 68) (pcF := 62) (by decide) rfl rfl (fun c59_4 => ?_) (fun c59_4 => ?_)
          · exact absurd c59_4 (by decide)
          · refine g_aload X2 B at_62 (pc' := 64) rfl (v := (.ref ob1)) rfl rfl ?_
            refine g_iloadN X2 B at_64 (pc' := 65) rfl (v := i2) rfl ?_
            refine g_virtual X2 B rfl 0 E_ob1_2 (y := (⟨"com/example/unseen_nodes/unseennodes/NodeSet", "set", "(I)V"⟩ : MethodName)) (argsL := [(.int i2)]) (rest := []) (a := ob1) (B.w 62 rfl) (B.w 63 rfl) (B.w 65 rfl) (B.w 64 rfl) (B.w 2 rfl) (B.w 66 rfl) (by decide) (se_any l Z a0 B.2.2.1 [] T2.heap ob1 i2 fa ([] : List Int32) (by simp) n0 Zs_2 E_ob1_2 G_ob1 ga noa Sq2) (by decide) (by decide) (by decide) (by decide) rfl (lenOf own_pd2 rfl) rfl (Nat.le_of_eq rfl) at_65 (pc' := 68) rfl (fun T6 v6 L6 X6 Q6 => ?_)
            obtain ⟨rfl, Nq6, Kq6, Sq6⟩ := Q6
            have N6 := Fr.app N2 Nq6
            have E_ob1_6 := E_ob1_2.keep Kq6
            have Zs_6 := Nat.le_trans Zs_2 Kq6.1
            have O_6 := own_old_keep O_2 Kq6 (by intro x hx; simp only [List.mem_cons, List.not_mem_nil, or_false] at hx; rcases hx with rfl | rfl <;> first | exact Nat.le_trans hn0 G_ob1 | exact Nat.le_trans hn0 ga)
            show Go p e below s _ _ _ (T6.setTop (mkF m 68 #[.val (.int i0), .val (.int i1), .val (.int i2), .val (.int i3), .val (.long j4), .second, .val (.long j6), .second, .val (.ref ob1), .val (.int (0 : Int32)), .val (.int (1 : Int32)), .val (.int (j4.toInt32)), .unset, .unset, .unset, .unset] []))
            refine g_aload X6 B at_68 (pc' := 70) rfl (v := (.ref ob1)) rfl rfl ?_
            refine g_iloadN X6 B at_70 (pc' := 71) rfl (v := i3) rfl ?_
            refine g_virtual X6 B rfl 0 E_ob1_6 (y := (⟨"com/example/unseen_nodes/unseennodes/NodeSet", "clear", "(I)V"⟩ : MethodName)) (argsL := [(.int i3)]) (rest := []) (a := ob1) (B.w 16 rfl) (B.w 17 rfl) (B.w 19 rfl) (B.w 18 rfl) (B.w 2 rfl) (B.w 20 rfl) (by decide) (cl_any l Z a0 B.2.2.1 [] T6.heap ob1 i3 fa (own_ins ([] : List Int32) i2) (by decide : 1 ≤ 2) n0 Zs_6 E_ob1_6 G_ob1 ga noa Sq6) (by decide) (by decide) (by decide) (by decide) rfl (lenOf own_pd2 rfl) rfl (Nat.le_of_eq rfl) at_71 (pc' := 74) rfl (fun T7 v7 L7 X7 Q7 => ?_)
            obtain ⟨rfl, Nq7, Kq7, Sq7⟩ := Q7
            have N7 := Fr.app N6 Nq7
            have E_ob1_7 := E_ob1_6.keep Kq7
            have Zs_7 := Nat.le_trans Zs_6 Kq7.1
            have O_7 := own_old_keep O_6 Kq7 (by intro x hx; simp only [List.mem_cons, List.not_mem_nil, or_false] at hx; rcases hx with rfl | rfl <;> first | exact Nat.le_trans hn0 G_ob1 | exact Nat.le_trans hn0 ga)
            show Go p e below s _ _ _ (T7.setTop (mkF m 74 #[.val (.int i0), .val (.int i1), .val (.int i2), .val (.int i3), .val (.long j4), .second, .val (.long j6), .second, .val (.ref ob1), .val (.int (0 : Int32)), .val (.int (1 : Int32)), .val (.int (j4.toInt32)), .unset, .unset, .unset, .unset] []))
            refine g_aload X7 B at_74 (pc' := 76) rfl (v := (.ref ob1)) rfl rfl ?_
            refine g_iload X7 B at_76 (pc' := 78) rfl (v := (j4.toInt32)) rfl ?_
            refine g_virtual X7 B rfl 0 E_ob1_7 (y := (⟨"com/example/unseen_nodes/unseennodes/NodeSet", "clear", "(I)V"⟩ : MethodName)) (argsL := [(.int (j4.toInt32))]) (rest := []) (a := ob1) (B.w 16 rfl) (B.w 17 rfl) (B.w 19 rfl) (B.w 18 rfl) (B.w 2 rfl) (B.w 20 rfl) (by decide) (cl_any l Z a0 B.2.2.1 [] T7.heap ob1 (j4.toInt32) fa (own_del (own_ins ([] : List Int32) i2) i3) (own_dell i3 (by decide : 1 ≤ 2)) n0 Zs_7 E_ob1_7 G_ob1 ga noa Sq7) (by decide) (by decide) (by decide) (by decide) rfl (lenOf own_pd2 rfl) rfl (Nat.le_of_eq rfl) at_78 (pc' := 81) rfl (fun T8 v8 L8 X8 Q8 => ?_)
            obtain ⟨rfl, Nq8, Kq8, Sq8⟩ := Q8
            have N8 := Fr.app N7 Nq8
            have E_ob1_8 := E_ob1_7.keep Kq8
            have Zs_8 := Nat.le_trans Zs_7 Kq8.1
            have O_8 := own_old_keep O_7 Kq8 (by intro x hx; simp only [List.mem_cons, List.not_mem_nil, or_false] at hx; rcases hx with rfl | rfl <;> first | exact Nat.le_trans hn0 G_ob1 | exact Nat.le_trans hn0 ga)
            show Go p e below s _ _ _ (T8.setTop (mkF m 81 #[.val (.int i0), .val (.int i1), .val (.int i2), .val (.int i3), .val (.long j4), .second, .val (.long j6), .second, .val (.ref ob1), .val (.int (0 : Int32)), .val (.int (1 : Int32)), .val (.int (j4.toInt32)), .unset, .unset, .unset, .unset] []))
            refine g_iload X8 B at_81 (pc' := 83) rfl (v := (0 : Int32)) rfl ?_
            refine g_if_eq X8 B at_83 (pcT := 101) (pcF := 86) (by decide) rfl rfl (fun c83_5 => ?_) (fun c83_5 => ?_)
            · refine g_iconst X8 B at_101 (pc' := 102) rfl (v := (0 : Int32)) (by decide) ?_
              refine g_istore X8 B at_102 (pc' := 104) rfl (Ls' := #[.val (.int i0), .val (.int i1), .val (.int i2), .val (.int i3), .val (.long j4), .second, .val (.long j6), .second, .val (.ref ob1), .val (.int (0 : Int32)), .val (.int (1 : Int32)), .val (.int (j4.toInt32)), .val (.int (0 : Int32)), .unset, .unset, .unset]) rfl ?_
              refine g_iload X8 B at_104 (pc' := 106) rfl (v := (1 : Int32)) rfl ?_
              refine g_if_eq X8 B at_106 (pcT := 124) (pcF := 109) (by decide) rfl rfl (fun c106_6 => ?_) (fun c106_6 => ?_)
              · exact absurd c106_6 (by decide)
              · refine g_iloadN X8 B at_109 (pc' := 110) rfl (v := i2) rfl ?_
                refine g_iloadN X8 B at_110 (pc' := 111) rfl (v := i3) rfl ?_
                refine g_icmp_eq X8 B at_111 (pcT := 124) (pcF := 114) (by decide) rfl rfl (fun c111_7 => ?_) (fun c111_7 => ?_)
                · refine g_iconst X8 B at_124 (pc' := 125) rfl (v := (0 : Int32)) (by decide) ?_
                  refine g_istore X8 B at_125 (pc' := 127) rfl (Ls' := #[.val (.int i0), .val (.int i1), .val (.int i2), .val (.int i3), .val (.long j4), .second, .val (.long j6), .second, .val (.ref ob1), .val (.int (0 : Int32)), .val (.int (1 : Int32)), .val (.int (j4.toInt32)), .val (.int (0 : Int32)), .val (.int (0 : Int32)), .unset, .unset]) rfl ?_
                  refine g_aload X8 B at_127 (pc' := 129) rfl (v := (.ref ob1)) rfl rfl ?_
                  refine g_virtual X8 B rfl 0 E_ob1_8 (y := (⟨"com/example/unseen_nodes/unseennodes/NodeSet", "isEmpty", "()Z"⟩ : MethodName)) (argsL := []) (rest := []) (a := ob1) (B.w 33 rfl) (B.w 34 rfl) (B.w 36 rfl) (B.w 35 rfl) (B.w 2 rfl) (B.w 37 rfl) (by decide) (il_met l Z a0 B.2.2.1 [] T8.heap ob1 fa (own_n (own_del (own_del (own_ins ([] : List Int32) i2) i3) (j4.toInt32))) (own_Sl Sq8) (own_Sc Sq8)) (by decide) (by decide) (by decide) (by decide) rfl (lenOf own_pd6 rfl) rfl (Nat.le_of_eq rfl) at_129 (pc' := 132) rfl (fun T9 v9 L9 X9 Q9 => ?_)
                  obtain ⟨rfl, hh9, rfl⟩ := Q9
                  rw [List.append_nil] at X9
                  show Go p e below s _ _ _ (T9.setTop (mkF m 132 #[.val (.int i0), .val (.int i1), .val (.int i2), .val (.int i3), .val (.long j4), .second, .val (.long j6), .second, .val (.ref ob1), .val (.int (0 : Int32)), .val (.int (1 : Int32)), .val (.int (j4.toInt32)), .val (.int (0 : Int32)), .val (.int (0 : Int32)), .unset, .unset] [(.int (if own_n (own_del (own_del (own_ins ([] : List Int32) i2) i3) (j4.toInt32)) = 0 then 1 else 0))]))
                  refine g_iload X9 B at_132 (pc' := 134) rfl (v := (0 : Int32)) rfl ?_
                  refine g_if_ne X9 B at_134 (pcT := 146) (pcF := 137) (by decide) rfl rfl (fun c134_8 => ?_) (fun c134_8 => ?_)
                  · refine g_iload X9 B at_137 (pc' := 139) rfl (v := (0 : Int32)) rfl ?_
                    refine g_if_ne X9 B at_139 (pcT := 146) (pcF := 142) (by decide) rfl rfl (fun c139_9 => ?_) (fun c139_9 => ?_)
                    · refine g_iconst X9 B at_142 (pc' := 143) rfl (v := (1 : Int32)) (by decide) ?_
                      refine g_goto X9 B at_143 (pc' := 147) (by decide) rfl ?_
                      refine g_icmp_ne X9 B at_147 (pcT := 154) (pcF := 150) (by decide) rfl rfl (fun c147_10 => ?_) (fun c147_10 => ?_)
                      · refine g_iconst X9 B at_150 (pc' := 151) rfl (v := (1 : Int32)) (by decide) ?_
                        refine g_goto X9 B at_151 (pc' := 155) (by decide) rfl ?_
                        exact g_retN X9 B (t := .boolean) rfl (by simp) at_155 (by decide) (by decide) ⟨congrArg (fun z => some (Value.int z)) (by decide : nar .boolean (1 : Int32) = 1), N8⟩
                      · exact absurd (if_pos (show own_n (own_del (own_del (own_ins ([] : List Int32) i2) i3) (j4.toInt32)) = 0 from (own_d1 i2 i3 (j4.toInt32)).mpr (Or.inl c111_7))) c147_10
                    · exact absurd (by decide) c139_9
                  · exact absurd (by decide) c134_8
                · refine g_iloadN X8 B at_114 (pc' := 115) rfl (v := i2) rfl ?_
                  refine g_iload X8 B at_115 (pc' := 117) rfl (v := (j4.toInt32)) rfl ?_
                  refine g_icmp_eq X8 B at_117 (pcT := 124) (pcF := 120) (by decide) rfl rfl (fun c117_8 => ?_) (fun c117_8 => ?_)
                  · refine g_iconst X8 B at_124 (pc' := 125) rfl (v := (0 : Int32)) (by decide) ?_
                    refine g_istore X8 B at_125 (pc' := 127) rfl (Ls' := #[.val (.int i0), .val (.int i1), .val (.int i2), .val (.int i3), .val (.long j4), .second, .val (.long j6), .second, .val (.ref ob1), .val (.int (0 : Int32)), .val (.int (1 : Int32)), .val (.int (j4.toInt32)), .val (.int (0 : Int32)), .val (.int (0 : Int32)), .unset, .unset]) rfl ?_
                    refine g_aload X8 B at_127 (pc' := 129) rfl (v := (.ref ob1)) rfl rfl ?_
                    refine g_virtual X8 B rfl 0 E_ob1_8 (y := (⟨"com/example/unseen_nodes/unseennodes/NodeSet", "isEmpty", "()Z"⟩ : MethodName)) (argsL := []) (rest := []) (a := ob1) (B.w 33 rfl) (B.w 34 rfl) (B.w 36 rfl) (B.w 35 rfl) (B.w 2 rfl) (B.w 37 rfl) (by decide) (il_met l Z a0 B.2.2.1 [] T8.heap ob1 fa (own_n (own_del (own_del (own_ins ([] : List Int32) i2) i3) (j4.toInt32))) (own_Sl Sq8) (own_Sc Sq8)) (by decide) (by decide) (by decide) (by decide) rfl (lenOf own_pd6 rfl) rfl (Nat.le_of_eq rfl) at_129 (pc' := 132) rfl (fun T10 v10 L10 X10 Q10 => ?_)
                    obtain ⟨rfl, hh10, rfl⟩ := Q10
                    rw [List.append_nil] at X10
                    show Go p e below s _ _ _ (T10.setTop (mkF m 132 #[.val (.int i0), .val (.int i1), .val (.int i2), .val (.int i3), .val (.long j4), .second, .val (.long j6), .second, .val (.ref ob1), .val (.int (0 : Int32)), .val (.int (1 : Int32)), .val (.int (j4.toInt32)), .val (.int (0 : Int32)), .val (.int (0 : Int32)), .unset, .unset] [(.int (if own_n (own_del (own_del (own_ins ([] : List Int32) i2) i3) (j4.toInt32)) = 0 then 1 else 0))]))
                    refine g_iload X10 B at_132 (pc' := 134) rfl (v := (0 : Int32)) rfl ?_
                    refine g_if_ne X10 B at_134 (pcT := 146) (pcF := 137) (by decide) rfl rfl (fun c134_9 => ?_) (fun c134_9 => ?_)
                    · refine g_iload X10 B at_137 (pc' := 139) rfl (v := (0 : Int32)) rfl ?_
                      refine g_if_ne X10 B at_139 (pcT := 146) (pcF := 142) (by decide) rfl rfl (fun c139_10 => ?_) (fun c139_10 => ?_)
                      · refine g_iconst X10 B at_142 (pc' := 143) rfl (v := (1 : Int32)) (by decide) ?_
                        refine g_goto X10 B at_143 (pc' := 147) (by decide) rfl ?_
                        refine g_icmp_ne X10 B at_147 (pcT := 154) (pcF := 150) (by decide) rfl rfl (fun c147_11 => ?_) (fun c147_11 => ?_)
                        · refine g_iconst X10 B at_150 (pc' := 151) rfl (v := (1 : Int32)) (by decide) ?_
                          refine g_goto X10 B at_151 (pc' := 155) (by decide) rfl ?_
                          exact g_retN X10 B (t := .boolean) rfl (by simp) at_155 (by decide) (by decide) ⟨congrArg (fun z => some (Value.int z)) (by decide : nar .boolean (1 : Int32) = 1), N8⟩
                        · exact absurd (if_pos (show own_n (own_del (own_del (own_ins ([] : List Int32) i2) i3) (j4.toInt32)) = 0 from (own_d1 i2 i3 (j4.toInt32)).mpr (Or.inr c117_8))) c147_11
                      · exact absurd (by decide) c139_10
                    · exact absurd (by decide) c134_9
                  · refine g_iconst X8 B at_120 (pc' := 121) rfl (v := (1 : Int32)) (by decide) ?_
                    refine g_goto X8 B at_121 (pc' := 125) (by decide) rfl ?_
                    refine g_istore X8 B at_125 (pc' := 127) rfl (Ls' := #[.val (.int i0), .val (.int i1), .val (.int i2), .val (.int i3), .val (.long j4), .second, .val (.long j6), .second, .val (.ref ob1), .val (.int (0 : Int32)), .val (.int (1 : Int32)), .val (.int (j4.toInt32)), .val (.int (0 : Int32)), .val (.int (1 : Int32)), .unset, .unset]) rfl ?_
                    refine g_aload X8 B at_127 (pc' := 129) rfl (v := (.ref ob1)) rfl rfl ?_
                    refine g_virtual X8 B rfl 0 E_ob1_8 (y := (⟨"com/example/unseen_nodes/unseennodes/NodeSet", "isEmpty", "()Z"⟩ : MethodName)) (argsL := []) (rest := []) (a := ob1) (B.w 33 rfl) (B.w 34 rfl) (B.w 36 rfl) (B.w 35 rfl) (B.w 2 rfl) (B.w 37 rfl) (by decide) (il_met l Z a0 B.2.2.1 [] T8.heap ob1 fa (own_n (own_del (own_del (own_ins ([] : List Int32) i2) i3) (j4.toInt32))) (own_Sl Sq8) (own_Sc Sq8)) (by decide) (by decide) (by decide) (by decide) rfl (lenOf own_pd6 rfl) rfl (Nat.le_of_eq rfl) at_129 (pc' := 132) rfl (fun T11 v11 L11 X11 Q11 => ?_)
                    obtain ⟨rfl, hh11, rfl⟩ := Q11
                    rw [List.append_nil] at X11
                    show Go p e below s _ _ _ (T11.setTop (mkF m 132 #[.val (.int i0), .val (.int i1), .val (.int i2), .val (.int i3), .val (.long j4), .second, .val (.long j6), .second, .val (.ref ob1), .val (.int (0 : Int32)), .val (.int (1 : Int32)), .val (.int (j4.toInt32)), .val (.int (0 : Int32)), .val (.int (1 : Int32)), .unset, .unset] [(.int (if own_n (own_del (own_del (own_ins ([] : List Int32) i2) i3) (j4.toInt32)) = 0 then 1 else 0))]))
                    refine g_iload X11 B at_132 (pc' := 134) rfl (v := (0 : Int32)) rfl ?_
                    refine g_if_ne X11 B at_134 (pcT := 146) (pcF := 137) (by decide) rfl rfl (fun c134_9 => ?_) (fun c134_9 => ?_)
                    · refine g_iload X11 B at_137 (pc' := 139) rfl (v := (1 : Int32)) rfl ?_
                      refine g_if_ne X11 B at_139 (pcT := 146) (pcF := 142) (by decide) rfl rfl (fun c139_10 => ?_) (fun c139_10 => ?_)
                      · exact absurd c139_10 (by decide)
                      · refine g_iconst X11 B at_146 (pc' := 147) rfl (v := (0 : Int32)) (by decide) ?_
                        refine g_icmp_ne X11 B at_147 (pcT := 154) (pcF := 150) (by decide) rfl rfl (fun c147_11 => ?_) (fun c147_11 => ?_)
                        · refine g_iconst X11 B at_150 (pc' := 151) rfl (v := (1 : Int32)) (by decide) ?_
                          refine g_goto X11 B at_151 (pc' := 155) (by decide) rfl ?_
                          exact g_retN X11 B (t := .boolean) rfl (by simp) at_155 (by decide) (by decide) ⟨congrArg (fun z => some (Value.int z)) (by decide : nar .boolean (1 : Int32) = 1), N8⟩
                        · exact absurd (if_neg (show ¬ own_n (own_del (own_del (own_ins ([] : List Int32) i2) i3) (j4.toInt32)) = 0 from fun q => Or.elim (((own_d1 i2 i3 (j4.toInt32)).mp q)) c111_7 c117_8)) c147_11
                    · exact absurd (by decide) c134_9
            · exact absurd (by decide) c83_5
        · exact absurd (by decide) c48_3
    · refine g_iconst X2 B at_21 (pc' := 22) rfl (v := (1 : Int32)) (by decide) ?_
      refine g_goto X2 B at_22 (pc' := 26) (by decide) rfl ?_
      refine g_istore X2 B at_26 (pc' := 28) rfl (Ls' := #[.val (.int i0), .val (.int i1), .val (.int i2), .val (.int i3), .val (.long j4), .second, .val (.long j6), .second, .val (.ref ob1), .val (.int (1 : Int32)), .unset, .unset, .unset, .unset, .unset, .unset]) rfl ?_
      refine g_iloadN X2 B at_28 (pc' := 29) rfl (v := i0) rfl ?_
      refine g_iconst X2 B at_29 (pc' := 30) rfl (v := (4 : Int32)) (by decide) ?_
      refine g_iand X2 B at_30 (pc' := 31) rfl ?_
      refine g_if_eq X2 B at_31 (pcT := 38) (pcF := 34) (by decide) rfl rfl (fun c31_2 => ?_) (fun c31_2 => ?_)
      · refine g_iconst X2 B at_38 (pc' := 39) rfl (v := (0 : Int32)) (by decide) ?_
        refine g_istore X2 B at_39 (pc' := 41) rfl (Ls' := #[.val (.int i0), .val (.int i1), .val (.int i2), .val (.int i3), .val (.long j4), .second, .val (.long j6), .second, .val (.ref ob1), .val (.int (1 : Int32)), .val (.int (0 : Int32)), .unset, .unset, .unset, .unset, .unset]) rfl ?_
        refine g_lload X2 B at_41 (pc' := 43) rfl (v := j4) rfl ?_
        refine g_l2i X2 B at_43 (pc' := 44) rfl ?_
        refine g_istore X2 B at_44 (pc' := 46) rfl (Ls' := #[.val (.int i0), .val (.int i1), .val (.int i2), .val (.int i3), .val (.long j4), .second, .val (.long j6), .second, .val (.ref ob1), .val (.int (1 : Int32)), .val (.int (0 : Int32)), .val (.int (j4.toInt32)), .unset, .unset, .unset, .unset]) rfl ?_
        refine g_iload X2 B at_46 (pc' := 48) rfl (v := (1 : Int32)) rfl ?_
        refine g_if_eq X2 B at_48 (pcT := 57) (pcF := 51) (by decide) rfl rfl (fun c48_3 => ?_) (fun c48_3 => ?_)
        · exact absurd c48_3 (by decide)
        · refine g_aload X2 B at_51 (pc' := 53) rfl (v := (.ref ob1)) rfl rfl ?_
          refine g_iloadN X2 B at_53 (pc' := 54) rfl (v := i1) rfl ?_
          refine g_virtual X2 B rfl 0 E_ob1_2 (y := (⟨"com/example/unseen_nodes/unseennodes/NodeSet", "set", "(I)V"⟩ : MethodName)) (argsL := [(.int i1)]) (rest := []) (a := ob1) (B.w 62 rfl) (B.w 63 rfl) (B.w 65 rfl) (B.w 64 rfl) (B.w 2 rfl) (B.w 66 rfl) (by decide) (se_any l Z a0 B.2.2.1 [] T2.heap ob1 i1 fa ([] : List Int32) (by simp) n0 Zs_2 E_ob1_2 G_ob1 ga noa Sq2) (by decide) (by decide) (by decide) (by decide) rfl (lenOf own_pd2 rfl) rfl (Nat.le_of_eq rfl) at_54 (pc' := 57) rfl (fun T12 v12 L12 X12 Q12 => ?_)
          obtain ⟨rfl, Nq12, Kq12, Sq12⟩ := Q12
          have N12 := Fr.app N2 Nq12
          have E_ob1_12 := E_ob1_2.keep Kq12
          have Zs_12 := Nat.le_trans Zs_2 Kq12.1
          have O_12 := own_old_keep O_2 Kq12 (by intro x hx; simp only [List.mem_cons, List.not_mem_nil, or_false] at hx; rcases hx with rfl | rfl <;> first | exact Nat.le_trans hn0 G_ob1 | exact Nat.le_trans hn0 ga)
          show Go p e below s _ _ _ (T12.setTop (mkF m 57 #[.val (.int i0), .val (.int i1), .val (.int i2), .val (.int i3), .val (.long j4), .second, .val (.long j6), .second, .val (.ref ob1), .val (.int (1 : Int32)), .val (.int (0 : Int32)), .val (.int (j4.toInt32)), .unset, .unset, .unset, .unset] []))
          refine g_iload X12 B at_57 (pc' := 59) rfl (v := (0 : Int32)) rfl ?_
          refine g_if_eq X12 B at_59 (pcT := 68) (pcF := 62) (by decide) rfl rfl (fun c59_4 => ?_) (fun c59_4 => ?_)
          · refine g_aload X12 B at_68 (pc' := 70) rfl (v := (.ref ob1)) rfl rfl ?_
            refine g_iloadN X12 B at_70 (pc' := 71) rfl (v := i3) rfl ?_
            refine g_virtual X12 B rfl 0 E_ob1_12 (y := (⟨"com/example/unseen_nodes/unseennodes/NodeSet", "clear", "(I)V"⟩ : MethodName)) (argsL := [(.int i3)]) (rest := []) (a := ob1) (B.w 16 rfl) (B.w 17 rfl) (B.w 19 rfl) (B.w 18 rfl) (B.w 2 rfl) (B.w 20 rfl) (by decide) (cl_any l Z a0 B.2.2.1 [] T12.heap ob1 i3 fa (own_ins ([] : List Int32) i1) (by decide : 1 ≤ 2) n0 Zs_12 E_ob1_12 G_ob1 ga noa Sq12) (by decide) (by decide) (by decide) (by decide) rfl (lenOf own_pd2 rfl) rfl (Nat.le_of_eq rfl) at_71 (pc' := 74) rfl (fun T13 v13 L13 X13 Q13 => ?_)
            obtain ⟨rfl, Nq13, Kq13, Sq13⟩ := Q13
            have N13 := Fr.app N12 Nq13
            have E_ob1_13 := E_ob1_12.keep Kq13
            have Zs_13 := Nat.le_trans Zs_12 Kq13.1
            have O_13 := own_old_keep O_12 Kq13 (by intro x hx; simp only [List.mem_cons, List.not_mem_nil, or_false] at hx; rcases hx with rfl | rfl <;> first | exact Nat.le_trans hn0 G_ob1 | exact Nat.le_trans hn0 ga)
            show Go p e below s _ _ _ (T13.setTop (mkF m 74 #[.val (.int i0), .val (.int i1), .val (.int i2), .val (.int i3), .val (.long j4), .second, .val (.long j6), .second, .val (.ref ob1), .val (.int (1 : Int32)), .val (.int (0 : Int32)), .val (.int (j4.toInt32)), .unset, .unset, .unset, .unset] []))
            refine g_aload X13 B at_74 (pc' := 76) rfl (v := (.ref ob1)) rfl rfl ?_
            refine g_iload X13 B at_76 (pc' := 78) rfl (v := (j4.toInt32)) rfl ?_
            refine g_virtual X13 B rfl 0 E_ob1_13 (y := (⟨"com/example/unseen_nodes/unseennodes/NodeSet", "clear", "(I)V"⟩ : MethodName)) (argsL := [(.int (j4.toInt32))]) (rest := []) (a := ob1) (B.w 16 rfl) (B.w 17 rfl) (B.w 19 rfl) (B.w 18 rfl) (B.w 2 rfl) (B.w 20 rfl) (by decide) (cl_any l Z a0 B.2.2.1 [] T13.heap ob1 (j4.toInt32) fa (own_del (own_ins ([] : List Int32) i1) i3) (own_dell i3 (by decide : 1 ≤ 2)) n0 Zs_13 E_ob1_13 G_ob1 ga noa Sq13) (by decide) (by decide) (by decide) (by decide) rfl (lenOf own_pd2 rfl) rfl (Nat.le_of_eq rfl) at_78 (pc' := 81) rfl (fun T14 v14 L14 X14 Q14 => ?_)
            obtain ⟨rfl, Nq14, Kq14, Sq14⟩ := Q14
            have N14 := Fr.app N13 Nq14
            have E_ob1_14 := E_ob1_13.keep Kq14
            have Zs_14 := Nat.le_trans Zs_13 Kq14.1
            have O_14 := own_old_keep O_13 Kq14 (by intro x hx; simp only [List.mem_cons, List.not_mem_nil, or_false] at hx; rcases hx with rfl | rfl <;> first | exact Nat.le_trans hn0 G_ob1 | exact Nat.le_trans hn0 ga)
            show Go p e below s _ _ _ (T14.setTop (mkF m 81 #[.val (.int i0), .val (.int i1), .val (.int i2), .val (.int i3), .val (.long j4), .second, .val (.long j6), .second, .val (.ref ob1), .val (.int (1 : Int32)), .val (.int (0 : Int32)), .val (.int (j4.toInt32)), .unset, .unset, .unset, .unset] []))
            refine g_iload X14 B at_81 (pc' := 83) rfl (v := (1 : Int32)) rfl ?_
            refine g_if_eq X14 B at_83 (pcT := 101) (pcF := 86) (by decide) rfl rfl (fun c83_5 => ?_) (fun c83_5 => ?_)
            · exact absurd c83_5 (by decide)
            · refine g_iloadN X14 B at_86 (pc' := 87) rfl (v := i1) rfl ?_
              refine g_iloadN X14 B at_87 (pc' := 88) rfl (v := i3) rfl ?_
              refine g_icmp_eq X14 B at_88 (pcT := 101) (pcF := 91) (by decide) rfl rfl (fun c88_6 => ?_) (fun c88_6 => ?_)
              · refine g_iconst X14 B at_101 (pc' := 102) rfl (v := (0 : Int32)) (by decide) ?_
                refine g_istore X14 B at_102 (pc' := 104) rfl (Ls' := #[.val (.int i0), .val (.int i1), .val (.int i2), .val (.int i3), .val (.long j4), .second, .val (.long j6), .second, .val (.ref ob1), .val (.int (1 : Int32)), .val (.int (0 : Int32)), .val (.int (j4.toInt32)), .val (.int (0 : Int32)), .unset, .unset, .unset]) rfl ?_
                refine g_iload X14 B at_104 (pc' := 106) rfl (v := (0 : Int32)) rfl ?_
                refine g_if_eq X14 B at_106 (pcT := 124) (pcF := 109) (by decide) rfl rfl (fun c106_7 => ?_) (fun c106_7 => ?_)
                · refine g_iconst X14 B at_124 (pc' := 125) rfl (v := (0 : Int32)) (by decide) ?_
                  refine g_istore X14 B at_125 (pc' := 127) rfl (Ls' := #[.val (.int i0), .val (.int i1), .val (.int i2), .val (.int i3), .val (.long j4), .second, .val (.long j6), .second, .val (.ref ob1), .val (.int (1 : Int32)), .val (.int (0 : Int32)), .val (.int (j4.toInt32)), .val (.int (0 : Int32)), .val (.int (0 : Int32)), .unset, .unset]) rfl ?_
                  refine g_aload X14 B at_127 (pc' := 129) rfl (v := (.ref ob1)) rfl rfl ?_
                  refine g_virtual X14 B rfl 0 E_ob1_14 (y := (⟨"com/example/unseen_nodes/unseennodes/NodeSet", "isEmpty", "()Z"⟩ : MethodName)) (argsL := []) (rest := []) (a := ob1) (B.w 33 rfl) (B.w 34 rfl) (B.w 36 rfl) (B.w 35 rfl) (B.w 2 rfl) (B.w 37 rfl) (by decide) (il_met l Z a0 B.2.2.1 [] T14.heap ob1 fa (own_n (own_del (own_del (own_ins ([] : List Int32) i1) i3) (j4.toInt32))) (own_Sl Sq14) (own_Sc Sq14)) (by decide) (by decide) (by decide) (by decide) rfl (lenOf own_pd6 rfl) rfl (Nat.le_of_eq rfl) at_129 (pc' := 132) rfl (fun T15 v15 L15 X15 Q15 => ?_)
                  obtain ⟨rfl, hh15, rfl⟩ := Q15
                  rw [List.append_nil] at X15
                  show Go p e below s _ _ _ (T15.setTop (mkF m 132 #[.val (.int i0), .val (.int i1), .val (.int i2), .val (.int i3), .val (.long j4), .second, .val (.long j6), .second, .val (.ref ob1), .val (.int (1 : Int32)), .val (.int (0 : Int32)), .val (.int (j4.toInt32)), .val (.int (0 : Int32)), .val (.int (0 : Int32)), .unset, .unset] [(.int (if own_n (own_del (own_del (own_ins ([] : List Int32) i1) i3) (j4.toInt32)) = 0 then 1 else 0))]))
                  refine g_iload X15 B at_132 (pc' := 134) rfl (v := (0 : Int32)) rfl ?_
                  refine g_if_ne X15 B at_134 (pcT := 146) (pcF := 137) (by decide) rfl rfl (fun c134_8 => ?_) (fun c134_8 => ?_)
                  · refine g_iload X15 B at_137 (pc' := 139) rfl (v := (0 : Int32)) rfl ?_
                    refine g_if_ne X15 B at_139 (pcT := 146) (pcF := 142) (by decide) rfl rfl (fun c139_9 => ?_) (fun c139_9 => ?_)
                    · refine g_iconst X15 B at_142 (pc' := 143) rfl (v := (1 : Int32)) (by decide) ?_
                      refine g_goto X15 B at_143 (pc' := 147) (by decide) rfl ?_
                      refine g_icmp_ne X15 B at_147 (pcT := 154) (pcF := 150) (by decide) rfl rfl (fun c147_10 => ?_) (fun c147_10 => ?_)
                      · refine g_iconst X15 B at_150 (pc' := 151) rfl (v := (1 : Int32)) (by decide) ?_
                        refine g_goto X15 B at_151 (pc' := 155) (by decide) rfl ?_
                        exact g_retN X15 B (t := .boolean) rfl (by simp) at_155 (by decide) (by decide) ⟨congrArg (fun z => some (Value.int z)) (by decide : nar .boolean (1 : Int32) = 1), N14⟩
                      · exact absurd (if_pos (show own_n (own_del (own_del (own_ins ([] : List Int32) i1) i3) (j4.toInt32)) = 0 from (own_d1 i1 i3 (j4.toInt32)).mpr (Or.inl c88_6))) c147_10
                    · exact absurd (by decide) c139_9
                  · exact absurd (by decide) c134_8
                · exact absurd (by decide) c106_7
              · refine g_iloadN X14 B at_91 (pc' := 92) rfl (v := i1) rfl ?_
                refine g_iload X14 B at_92 (pc' := 94) rfl (v := (j4.toInt32)) rfl ?_
                refine g_icmp_eq X14 B at_94 (pcT := 101) (pcF := 97) (by decide) rfl rfl (fun c94_7 => ?_) (fun c94_7 => ?_)
                · refine g_iconst X14 B at_101 (pc' := 102) rfl (v := (0 : Int32)) (by decide) ?_
                  refine g_istore X14 B at_102 (pc' := 104) rfl (Ls' := #[.val (.int i0), .val (.int i1), .val (.int i2), .val (.int i3), .val (.long j4), .second, .val (.long j6), .second, .val (.ref ob1), .val (.int (1 : Int32)), .val (.int (0 : Int32)), .val (.int (j4.toInt32)), .val (.int (0 : Int32)), .unset, .unset, .unset]) rfl ?_
                  refine g_iload X14 B at_104 (pc' := 106) rfl (v := (0 : Int32)) rfl ?_
                  refine g_if_eq X14 B at_106 (pcT := 124) (pcF := 109) (by decide) rfl rfl (fun c106_8 => ?_) (fun c106_8 => ?_)
                  · refine g_iconst X14 B at_124 (pc' := 125) rfl (v := (0 : Int32)) (by decide) ?_
                    refine g_istore X14 B at_125 (pc' := 127) rfl (Ls' := #[.val (.int i0), .val (.int i1), .val (.int i2), .val (.int i3), .val (.long j4), .second, .val (.long j6), .second, .val (.ref ob1), .val (.int (1 : Int32)), .val (.int (0 : Int32)), .val (.int (j4.toInt32)), .val (.int (0 : Int32)), .val (.int (0 : Int32)), .unset, .unset]) rfl ?_
                    refine g_aload X14 B at_127 (pc' := 129) rfl (v := (.ref ob1)) rfl rfl ?_
                    refine g_virtual X14 B rfl 0 E_ob1_14 (y := (⟨"com/example/unseen_nodes/unseennodes/NodeSet", "isEmpty", "()Z"⟩ : MethodName)) (argsL := []) (rest := []) (a := ob1) (B.w 33 rfl) (B.w 34 rfl) (B.w 36 rfl) (B.w 35 rfl) (B.w 2 rfl) (B.w 37 rfl) (by decide) (il_met l Z a0 B.2.2.1 [] T14.heap ob1 fa (own_n (own_del (own_del (own_ins ([] : List Int32) i1) i3) (j4.toInt32))) (own_Sl Sq14) (own_Sc Sq14)) (by decide) (by decide) (by decide) (by decide) rfl (lenOf own_pd6 rfl) rfl (Nat.le_of_eq rfl) at_129 (pc' := 132) rfl (fun T16 v16 L16 X16 Q16 => ?_)
                    obtain ⟨rfl, hh16, rfl⟩ := Q16
                    rw [List.append_nil] at X16
                    show Go p e below s _ _ _ (T16.setTop (mkF m 132 #[.val (.int i0), .val (.int i1), .val (.int i2), .val (.int i3), .val (.long j4), .second, .val (.long j6), .second, .val (.ref ob1), .val (.int (1 : Int32)), .val (.int (0 : Int32)), .val (.int (j4.toInt32)), .val (.int (0 : Int32)), .val (.int (0 : Int32)), .unset, .unset] [(.int (if own_n (own_del (own_del (own_ins ([] : List Int32) i1) i3) (j4.toInt32)) = 0 then 1 else 0))]))
                    refine g_iload X16 B at_132 (pc' := 134) rfl (v := (0 : Int32)) rfl ?_
                    refine g_if_ne X16 B at_134 (pcT := 146) (pcF := 137) (by decide) rfl rfl (fun c134_9 => ?_) (fun c134_9 => ?_)
                    · refine g_iload X16 B at_137 (pc' := 139) rfl (v := (0 : Int32)) rfl ?_
                      refine g_if_ne X16 B at_139 (pcT := 146) (pcF := 142) (by decide) rfl rfl (fun c139_10 => ?_) (fun c139_10 => ?_)
                      · refine g_iconst X16 B at_142 (pc' := 143) rfl (v := (1 : Int32)) (by decide) ?_
                        refine g_goto X16 B at_143 (pc' := 147) (by decide) rfl ?_
                        refine g_icmp_ne X16 B at_147 (pcT := 154) (pcF := 150) (by decide) rfl rfl (fun c147_11 => ?_) (fun c147_11 => ?_)
                        · refine g_iconst X16 B at_150 (pc' := 151) rfl (v := (1 : Int32)) (by decide) ?_
                          refine g_goto X16 B at_151 (pc' := 155) (by decide) rfl ?_
                          exact g_retN X16 B (t := .boolean) rfl (by simp) at_155 (by decide) (by decide) ⟨congrArg (fun z => some (Value.int z)) (by decide : nar .boolean (1 : Int32) = 1), N14⟩
                        · exact absurd (if_pos (show own_n (own_del (own_del (own_ins ([] : List Int32) i1) i3) (j4.toInt32)) = 0 from (own_d1 i1 i3 (j4.toInt32)).mpr (Or.inr c94_7))) c147_11
                      · exact absurd (by decide) c139_10
                    · exact absurd (by decide) c134_9
                  · exact absurd (by decide) c106_8
                · refine g_iconst X14 B at_97 (pc' := 98) rfl (v := (1 : Int32)) (by decide) ?_
                  refine g_goto X14 B at_98 (pc' := 102) (by decide) rfl ?_
                  refine g_istore X14 B at_102 (pc' := 104) rfl (Ls' := #[.val (.int i0), .val (.int i1), .val (.int i2), .val (.int i3), .val (.long j4), .second, .val (.long j6), .second, .val (.ref ob1), .val (.int (1 : Int32)), .val (.int (0 : Int32)), .val (.int (j4.toInt32)), .val (.int (1 : Int32)), .unset, .unset, .unset]) rfl ?_
                  refine g_iload X14 B at_104 (pc' := 106) rfl (v := (0 : Int32)) rfl ?_
                  refine g_if_eq X14 B at_106 (pcT := 124) (pcF := 109) (by decide) rfl rfl (fun c106_8 => ?_) (fun c106_8 => ?_)
                  · refine g_iconst X14 B at_124 (pc' := 125) rfl (v := (0 : Int32)) (by decide) ?_
                    refine g_istore X14 B at_125 (pc' := 127) rfl (Ls' := #[.val (.int i0), .val (.int i1), .val (.int i2), .val (.int i3), .val (.long j4), .second, .val (.long j6), .second, .val (.ref ob1), .val (.int (1 : Int32)), .val (.int (0 : Int32)), .val (.int (j4.toInt32)), .val (.int (1 : Int32)), .val (.int (0 : Int32)), .unset, .unset]) rfl ?_
                    refine g_aload X14 B at_127 (pc' := 129) rfl (v := (.ref ob1)) rfl rfl ?_
                    refine g_virtual X14 B rfl 0 E_ob1_14 (y := (⟨"com/example/unseen_nodes/unseennodes/NodeSet", "isEmpty", "()Z"⟩ : MethodName)) (argsL := []) (rest := []) (a := ob1) (B.w 33 rfl) (B.w 34 rfl) (B.w 36 rfl) (B.w 35 rfl) (B.w 2 rfl) (B.w 37 rfl) (by decide) (il_met l Z a0 B.2.2.1 [] T14.heap ob1 fa (own_n (own_del (own_del (own_ins ([] : List Int32) i1) i3) (j4.toInt32))) (own_Sl Sq14) (own_Sc Sq14)) (by decide) (by decide) (by decide) (by decide) rfl (lenOf own_pd6 rfl) rfl (Nat.le_of_eq rfl) at_129 (pc' := 132) rfl (fun T17 v17 L17 X17 Q17 => ?_)
                    obtain ⟨rfl, hh17, rfl⟩ := Q17
                    rw [List.append_nil] at X17
                    show Go p e below s _ _ _ (T17.setTop (mkF m 132 #[.val (.int i0), .val (.int i1), .val (.int i2), .val (.int i3), .val (.long j4), .second, .val (.long j6), .second, .val (.ref ob1), .val (.int (1 : Int32)), .val (.int (0 : Int32)), .val (.int (j4.toInt32)), .val (.int (1 : Int32)), .val (.int (0 : Int32)), .unset, .unset] [(.int (if own_n (own_del (own_del (own_ins ([] : List Int32) i1) i3) (j4.toInt32)) = 0 then 1 else 0))]))
                    refine g_iload X17 B at_132 (pc' := 134) rfl (v := (1 : Int32)) rfl ?_
                    refine g_if_ne X17 B at_134 (pcT := 146) (pcF := 137) (by decide) rfl rfl (fun c134_9 => ?_) (fun c134_9 => ?_)
                    · exact absurd c134_9 (by decide)
                    · refine g_iconst X17 B at_146 (pc' := 147) rfl (v := (0 : Int32)) (by decide) ?_
                      refine g_icmp_ne X17 B at_147 (pcT := 154) (pcF := 150) (by decide) rfl rfl (fun c147_10 => ?_) (fun c147_10 => ?_)
                      · refine g_iconst X17 B at_150 (pc' := 151) rfl (v := (1 : Int32)) (by decide) ?_
                        refine g_goto X17 B at_151 (pc' := 155) (by decide) rfl ?_
                        exact g_retN X17 B (t := .boolean) rfl (by simp) at_155 (by decide) (by decide) ⟨congrArg (fun z => some (Value.int z)) (by decide : nar .boolean (1 : Int32) = 1), N14⟩
                      · exact absurd (if_neg (show ¬ own_n (own_del (own_del (own_ins ([] : List Int32) i1) i3) (j4.toInt32)) = 0 from fun q => Or.elim (((own_d1 i1 i3 (j4.toInt32)).mp q)) c88_6 c94_7)) c147_10
                  · exact absurd (by decide) c106_8
          · exact absurd (by decide) c59_4
      · refine g_iconst X2 B at_34 (pc' := 35) rfl (v := (1 : Int32)) (by decide) ?_
        refine g_goto X2 B at_35 (pc' := 39) (by decide) rfl ?_
        refine g_istore X2 B at_39 (pc' := 41) rfl (Ls' := #[.val (.int i0), .val (.int i1), .val (.int i2), .val (.int i3), .val (.long j4), .second, .val (.long j6), .second, .val (.ref ob1), .val (.int (1 : Int32)), .val (.int (1 : Int32)), .unset, .unset, .unset, .unset, .unset]) rfl ?_
        refine g_lload X2 B at_41 (pc' := 43) rfl (v := j4) rfl ?_
        refine g_l2i X2 B at_43 (pc' := 44) rfl ?_
        refine g_istore X2 B at_44 (pc' := 46) rfl (Ls' := #[.val (.int i0), .val (.int i1), .val (.int i2), .val (.int i3), .val (.long j4), .second, .val (.long j6), .second, .val (.ref ob1), .val (.int (1 : Int32)), .val (.int (1 : Int32)), .val (.int (j4.toInt32)), .unset, .unset, .unset, .unset]) rfl ?_
        refine g_iload X2 B at_46 (pc' := 48) rfl (v := (1 : Int32)) rfl ?_
        refine g_if_eq X2 B at_48 (pcT := 57) (pcF := 51) (by decide) rfl rfl (fun c48_3 => ?_) (fun c48_3 => ?_)
        · exact absurd c48_3 (by decide)
        · refine g_aload X2 B at_51 (pc' := 53) rfl (v := (.ref ob1)) rfl rfl ?_
          refine g_iloadN X2 B at_53 (pc' := 54) rfl (v := i1) rfl ?_
          refine g_virtual X2 B rfl 0 E_ob1_2 (y := (⟨"com/example/unseen_nodes/unseennodes/NodeSet", "set", "(I)V"⟩ : MethodName)) (argsL := [(.int i1)]) (rest := []) (a := ob1) (B.w 62 rfl) (B.w 63 rfl) (B.w 65 rfl) (B.w 64 rfl) (B.w 2 rfl) (B.w 66 rfl) (by decide) (se_any l Z a0 B.2.2.1 [] T2.heap ob1 i1 fa ([] : List Int32) (by simp) n0 Zs_2 E_ob1_2 G_ob1 ga noa Sq2) (by decide) (by decide) (by decide) (by decide) rfl (lenOf own_pd2 rfl) rfl (Nat.le_of_eq rfl) at_54 (pc' := 57) rfl (fun T18 v18 L18 X18 Q18 => ?_)
          obtain ⟨rfl, Nq18, Kq18, Sq18⟩ := Q18
          have N18 := Fr.app N2 Nq18
          have E_ob1_18 := E_ob1_2.keep Kq18
          have Zs_18 := Nat.le_trans Zs_2 Kq18.1
          have O_18 := own_old_keep O_2 Kq18 (by intro x hx; simp only [List.mem_cons, List.not_mem_nil, or_false] at hx; rcases hx with rfl | rfl <;> first | exact Nat.le_trans hn0 G_ob1 | exact Nat.le_trans hn0 ga)
          show Go p e below s _ _ _ (T18.setTop (mkF m 57 #[.val (.int i0), .val (.int i1), .val (.int i2), .val (.int i3), .val (.long j4), .second, .val (.long j6), .second, .val (.ref ob1), .val (.int (1 : Int32)), .val (.int (1 : Int32)), .val (.int (j4.toInt32)), .unset, .unset, .unset, .unset] []))
          refine g_iload X18 B at_57 (pc' := 59) rfl (v := (1 : Int32)) rfl ?_
          refine g_if_eq X18 B at_59 (pcT := 68) (pcF := 62) (by decide) rfl rfl (fun c59_4 => ?_) (fun c59_4 => ?_)
          · exact absurd c59_4 (by decide)
          · refine g_aload X18 B at_62 (pc' := 64) rfl (v := (.ref ob1)) rfl rfl ?_
            refine g_iloadN X18 B at_64 (pc' := 65) rfl (v := i2) rfl ?_
            refine g_virtual X18 B rfl 0 E_ob1_18 (y := (⟨"com/example/unseen_nodes/unseennodes/NodeSet", "set", "(I)V"⟩ : MethodName)) (argsL := [(.int i2)]) (rest := []) (a := ob1) (B.w 62 rfl) (B.w 63 rfl) (B.w 65 rfl) (B.w 64 rfl) (B.w 2 rfl) (B.w 66 rfl) (by decide) (se_any l Z a0 B.2.2.1 [] T18.heap ob1 i2 fa (own_ins ([] : List Int32) i1) (Nat.le_refl 1) n0 Zs_18 E_ob1_18 G_ob1 ga noa Sq18) (by decide) (by decide) (by decide) (by decide) rfl (lenOf own_pd2 rfl) rfl (Nat.le_of_eq rfl) at_65 (pc' := 68) rfl (fun T19 v19 L19 X19 Q19 => ?_)
            obtain ⟨rfl, Nq19, Kq19, Sq19⟩ := Q19
            have N19 := Fr.app N18 Nq19
            have E_ob1_19 := E_ob1_18.keep Kq19
            have Zs_19 := Nat.le_trans Zs_18 Kq19.1
            have O_19 := own_old_keep O_18 Kq19 (by intro x hx; simp only [List.mem_cons, List.not_mem_nil, or_false] at hx; rcases hx with rfl | rfl <;> first | exact Nat.le_trans hn0 G_ob1 | exact Nat.le_trans hn0 ga)
            show Go p e below s _ _ _ (T19.setTop (mkF m 68 #[.val (.int i0), .val (.int i1), .val (.int i2), .val (.int i3), .val (.long j4), .second, .val (.long j6), .second, .val (.ref ob1), .val (.int (1 : Int32)), .val (.int (1 : Int32)), .val (.int (j4.toInt32)), .unset, .unset, .unset, .unset] []))
            refine g_aload X19 B at_68 (pc' := 70) rfl (v := (.ref ob1)) rfl rfl ?_
            refine g_iloadN X19 B at_70 (pc' := 71) rfl (v := i3) rfl ?_
            refine g_virtual X19 B rfl 0 E_ob1_19 (y := (⟨"com/example/unseen_nodes/unseennodes/NodeSet", "clear", "(I)V"⟩ : MethodName)) (argsL := [(.int i3)]) (rest := []) (a := ob1) (B.w 16 rfl) (B.w 17 rfl) (B.w 19 rfl) (B.w 18 rfl) (B.w 2 rfl) (B.w 20 rfl) (by decide) (cl_any l Z a0 B.2.2.1 [] T19.heap ob1 i3 fa (own_ins (own_ins ([] : List Int32) i1) i2) (own_insl i2 (Nat.le_refl 1)) n0 Zs_19 E_ob1_19 G_ob1 ga noa Sq19) (by decide) (by decide) (by decide) (by decide) rfl (lenOf own_pd2 rfl) rfl (Nat.le_of_eq rfl) at_71 (pc' := 74) rfl (fun T20 v20 L20 X20 Q20 => ?_)
            obtain ⟨rfl, Nq20, Kq20, Sq20⟩ := Q20
            have N20 := Fr.app N19 Nq20
            have E_ob1_20 := E_ob1_19.keep Kq20
            have Zs_20 := Nat.le_trans Zs_19 Kq20.1
            have O_20 := own_old_keep O_19 Kq20 (by intro x hx; simp only [List.mem_cons, List.not_mem_nil, or_false] at hx; rcases hx with rfl | rfl <;> first | exact Nat.le_trans hn0 G_ob1 | exact Nat.le_trans hn0 ga)
            show Go p e below s _ _ _ (T20.setTop (mkF m 74 #[.val (.int i0), .val (.int i1), .val (.int i2), .val (.int i3), .val (.long j4), .second, .val (.long j6), .second, .val (.ref ob1), .val (.int (1 : Int32)), .val (.int (1 : Int32)), .val (.int (j4.toInt32)), .unset, .unset, .unset, .unset] []))
            refine g_aload X20 B at_74 (pc' := 76) rfl (v := (.ref ob1)) rfl rfl ?_
            refine g_iload X20 B at_76 (pc' := 78) rfl (v := (j4.toInt32)) rfl ?_
            refine g_virtual X20 B rfl 0 E_ob1_20 (y := (⟨"com/example/unseen_nodes/unseennodes/NodeSet", "clear", "(I)V"⟩ : MethodName)) (argsL := [(.int (j4.toInt32))]) (rest := []) (a := ob1) (B.w 16 rfl) (B.w 17 rfl) (B.w 19 rfl) (B.w 18 rfl) (B.w 2 rfl) (B.w 20 rfl) (by decide) (cl_any l Z a0 B.2.2.1 [] T20.heap ob1 (j4.toInt32) fa (own_del (own_ins (own_ins ([] : List Int32) i1) i2) i3) (own_dell i3 (own_insl i2 (Nat.le_refl 1))) n0 Zs_20 E_ob1_20 G_ob1 ga noa Sq20) (by decide) (by decide) (by decide) (by decide) rfl (lenOf own_pd2 rfl) rfl (Nat.le_of_eq rfl) at_78 (pc' := 81) rfl (fun T21 v21 L21 X21 Q21 => ?_)
            obtain ⟨rfl, Nq21, Kq21, Sq21⟩ := Q21
            have N21 := Fr.app N20 Nq21
            have E_ob1_21 := E_ob1_20.keep Kq21
            have Zs_21 := Nat.le_trans Zs_20 Kq21.1
            have O_21 := own_old_keep O_20 Kq21 (by intro x hx; simp only [List.mem_cons, List.not_mem_nil, or_false] at hx; rcases hx with rfl | rfl <;> first | exact Nat.le_trans hn0 G_ob1 | exact Nat.le_trans hn0 ga)
            show Go p e below s _ _ _ (T21.setTop (mkF m 81 #[.val (.int i0), .val (.int i1), .val (.int i2), .val (.int i3), .val (.long j4), .second, .val (.long j6), .second, .val (.ref ob1), .val (.int (1 : Int32)), .val (.int (1 : Int32)), .val (.int (j4.toInt32)), .unset, .unset, .unset, .unset] []))
            refine g_iload X21 B at_81 (pc' := 83) rfl (v := (1 : Int32)) rfl ?_
            refine g_if_eq X21 B at_83 (pcT := 101) (pcF := 86) (by decide) rfl rfl (fun c83_5 => ?_) (fun c83_5 => ?_)
            · exact absurd c83_5 (by decide)
            · refine g_iloadN X21 B at_86 (pc' := 87) rfl (v := i1) rfl ?_
              refine g_iloadN X21 B at_87 (pc' := 88) rfl (v := i3) rfl ?_
              refine g_icmp_eq X21 B at_88 (pcT := 101) (pcF := 91) (by decide) rfl rfl (fun c88_6 => ?_) (fun c88_6 => ?_)
              · refine g_iconst X21 B at_101 (pc' := 102) rfl (v := (0 : Int32)) (by decide) ?_
                refine g_istore X21 B at_102 (pc' := 104) rfl (Ls' := #[.val (.int i0), .val (.int i1), .val (.int i2), .val (.int i3), .val (.long j4), .second, .val (.long j6), .second, .val (.ref ob1), .val (.int (1 : Int32)), .val (.int (1 : Int32)), .val (.int (j4.toInt32)), .val (.int (0 : Int32)), .unset, .unset, .unset]) rfl ?_
                refine g_iload X21 B at_104 (pc' := 106) rfl (v := (1 : Int32)) rfl ?_
                refine g_if_eq X21 B at_106 (pcT := 124) (pcF := 109) (by decide) rfl rfl (fun c106_7 => ?_) (fun c106_7 => ?_)
                · exact absurd c106_7 (by decide)
                · refine g_iloadN X21 B at_109 (pc' := 110) rfl (v := i2) rfl ?_
                  refine g_iloadN X21 B at_110 (pc' := 111) rfl (v := i3) rfl ?_
                  refine g_icmp_eq X21 B at_111 (pcT := 124) (pcF := 114) (by decide) rfl rfl (fun c111_8 => ?_) (fun c111_8 => ?_)
                  · refine g_iconst X21 B at_124 (pc' := 125) rfl (v := (0 : Int32)) (by decide) ?_
                    refine g_istore X21 B at_125 (pc' := 127) rfl (Ls' := #[.val (.int i0), .val (.int i1), .val (.int i2), .val (.int i3), .val (.long j4), .second, .val (.long j6), .second, .val (.ref ob1), .val (.int (1 : Int32)), .val (.int (1 : Int32)), .val (.int (j4.toInt32)), .val (.int (0 : Int32)), .val (.int (0 : Int32)), .unset, .unset]) rfl ?_
                    refine g_aload X21 B at_127 (pc' := 129) rfl (v := (.ref ob1)) rfl rfl ?_
                    refine g_virtual X21 B rfl 0 E_ob1_21 (y := (⟨"com/example/unseen_nodes/unseennodes/NodeSet", "isEmpty", "()Z"⟩ : MethodName)) (argsL := []) (rest := []) (a := ob1) (B.w 33 rfl) (B.w 34 rfl) (B.w 36 rfl) (B.w 35 rfl) (B.w 2 rfl) (B.w 37 rfl) (by decide) (il_met l Z a0 B.2.2.1 [] T21.heap ob1 fa (own_n (own_del (own_del (own_ins (own_ins ([] : List Int32) i1) i2) i3) (j4.toInt32))) (own_Sl Sq21) (own_Sc Sq21)) (by decide) (by decide) (by decide) (by decide) rfl (lenOf own_pd6 rfl) rfl (Nat.le_of_eq rfl) at_129 (pc' := 132) rfl (fun T22 v22 L22 X22 Q22 => ?_)
                    obtain ⟨rfl, hh22, rfl⟩ := Q22
                    rw [List.append_nil] at X22
                    show Go p e below s _ _ _ (T22.setTop (mkF m 132 #[.val (.int i0), .val (.int i1), .val (.int i2), .val (.int i3), .val (.long j4), .second, .val (.long j6), .second, .val (.ref ob1), .val (.int (1 : Int32)), .val (.int (1 : Int32)), .val (.int (j4.toInt32)), .val (.int (0 : Int32)), .val (.int (0 : Int32)), .unset, .unset] [(.int (if own_n (own_del (own_del (own_ins (own_ins ([] : List Int32) i1) i2) i3) (j4.toInt32)) = 0 then 1 else 0))]))
                    refine g_iload X22 B at_132 (pc' := 134) rfl (v := (0 : Int32)) rfl ?_
                    refine g_if_ne X22 B at_134 (pcT := 146) (pcF := 137) (by decide) rfl rfl (fun c134_9 => ?_) (fun c134_9 => ?_)
                    · refine g_iload X22 B at_137 (pc' := 139) rfl (v := (0 : Int32)) rfl ?_
                      refine g_if_ne X22 B at_139 (pcT := 146) (pcF := 142) (by decide) rfl rfl (fun c139_10 => ?_) (fun c139_10 => ?_)
                      · refine g_iconst X22 B at_142 (pc' := 143) rfl (v := (1 : Int32)) (by decide) ?_
                        refine g_goto X22 B at_143 (pc' := 147) (by decide) rfl ?_
                        refine g_icmp_ne X22 B at_147 (pcT := 154) (pcF := 150) (by decide) rfl rfl (fun c147_11 => ?_) (fun c147_11 => ?_)
                        · refine g_iconst X22 B at_150 (pc' := 151) rfl (v := (1 : Int32)) (by decide) ?_
                          refine g_goto X22 B at_151 (pc' := 155) (by decide) rfl ?_
                          exact g_retN X22 B (t := .boolean) rfl (by simp) at_155 (by decide) (by decide) ⟨congrArg (fun z => some (Value.int z)) (by decide : nar .boolean (1 : Int32) = 1), N21⟩
                        · exact absurd (if_pos (show own_n (own_del (own_del (own_ins (own_ins ([] : List Int32) i1) i2) i3) (j4.toInt32)) = 0 from (own_d12 i1 i2 i3 (j4.toInt32)).mpr ⟨Or.inl c88_6, Or.inl c111_8⟩)) c147_11
                      · exact absurd (by decide) c139_10
                    · exact absurd (by decide) c134_9
                  · refine g_iloadN X21 B at_114 (pc' := 115) rfl (v := i2) rfl ?_
                    refine g_iload X21 B at_115 (pc' := 117) rfl (v := (j4.toInt32)) rfl ?_
                    refine g_icmp_eq X21 B at_117 (pcT := 124) (pcF := 120) (by decide) rfl rfl (fun c117_9 => ?_) (fun c117_9 => ?_)
                    · refine g_iconst X21 B at_124 (pc' := 125) rfl (v := (0 : Int32)) (by decide) ?_
                      refine g_istore X21 B at_125 (pc' := 127) rfl (Ls' := #[.val (.int i0), .val (.int i1), .val (.int i2), .val (.int i3), .val (.long j4), .second, .val (.long j6), .second, .val (.ref ob1), .val (.int (1 : Int32)), .val (.int (1 : Int32)), .val (.int (j4.toInt32)), .val (.int (0 : Int32)), .val (.int (0 : Int32)), .unset, .unset]) rfl ?_
                      refine g_aload X21 B at_127 (pc' := 129) rfl (v := (.ref ob1)) rfl rfl ?_
                      refine g_virtual X21 B rfl 0 E_ob1_21 (y := (⟨"com/example/unseen_nodes/unseennodes/NodeSet", "isEmpty", "()Z"⟩ : MethodName)) (argsL := []) (rest := []) (a := ob1) (B.w 33 rfl) (B.w 34 rfl) (B.w 36 rfl) (B.w 35 rfl) (B.w 2 rfl) (B.w 37 rfl) (by decide) (il_met l Z a0 B.2.2.1 [] T21.heap ob1 fa (own_n (own_del (own_del (own_ins (own_ins ([] : List Int32) i1) i2) i3) (j4.toInt32))) (own_Sl Sq21) (own_Sc Sq21)) (by decide) (by decide) (by decide) (by decide) rfl (lenOf own_pd6 rfl) rfl (Nat.le_of_eq rfl) at_129 (pc' := 132) rfl (fun T23 v23 L23 X23 Q23 => ?_)
                      obtain ⟨rfl, hh23, rfl⟩ := Q23
                      rw [List.append_nil] at X23
                      show Go p e below s _ _ _ (T23.setTop (mkF m 132 #[.val (.int i0), .val (.int i1), .val (.int i2), .val (.int i3), .val (.long j4), .second, .val (.long j6), .second, .val (.ref ob1), .val (.int (1 : Int32)), .val (.int (1 : Int32)), .val (.int (j4.toInt32)), .val (.int (0 : Int32)), .val (.int (0 : Int32)), .unset, .unset] [(.int (if own_n (own_del (own_del (own_ins (own_ins ([] : List Int32) i1) i2) i3) (j4.toInt32)) = 0 then 1 else 0))]))
                      refine g_iload X23 B at_132 (pc' := 134) rfl (v := (0 : Int32)) rfl ?_
                      refine g_if_ne X23 B at_134 (pcT := 146) (pcF := 137) (by decide) rfl rfl (fun c134_10 => ?_) (fun c134_10 => ?_)
                      · refine g_iload X23 B at_137 (pc' := 139) rfl (v := (0 : Int32)) rfl ?_
                        refine g_if_ne X23 B at_139 (pcT := 146) (pcF := 142) (by decide) rfl rfl (fun c139_11 => ?_) (fun c139_11 => ?_)
                        · refine g_iconst X23 B at_142 (pc' := 143) rfl (v := (1 : Int32)) (by decide) ?_
                          refine g_goto X23 B at_143 (pc' := 147) (by decide) rfl ?_
                          refine g_icmp_ne X23 B at_147 (pcT := 154) (pcF := 150) (by decide) rfl rfl (fun c147_12 => ?_) (fun c147_12 => ?_)
                          · refine g_iconst X23 B at_150 (pc' := 151) rfl (v := (1 : Int32)) (by decide) ?_
                            refine g_goto X23 B at_151 (pc' := 155) (by decide) rfl ?_
                            exact g_retN X23 B (t := .boolean) rfl (by simp) at_155 (by decide) (by decide) ⟨congrArg (fun z => some (Value.int z)) (by decide : nar .boolean (1 : Int32) = 1), N21⟩
                          · exact absurd (if_pos (show own_n (own_del (own_del (own_ins (own_ins ([] : List Int32) i1) i2) i3) (j4.toInt32)) = 0 from (own_d12 i1 i2 i3 (j4.toInt32)).mpr ⟨Or.inl c88_6, Or.inr c117_9⟩)) c147_12
                        · exact absurd (by decide) c139_11
                      · exact absurd (by decide) c134_10
                    · refine g_iconst X21 B at_120 (pc' := 121) rfl (v := (1 : Int32)) (by decide) ?_
                      refine g_goto X21 B at_121 (pc' := 125) (by decide) rfl ?_
                      refine g_istore X21 B at_125 (pc' := 127) rfl (Ls' := #[.val (.int i0), .val (.int i1), .val (.int i2), .val (.int i3), .val (.long j4), .second, .val (.long j6), .second, .val (.ref ob1), .val (.int (1 : Int32)), .val (.int (1 : Int32)), .val (.int (j4.toInt32)), .val (.int (0 : Int32)), .val (.int (1 : Int32)), .unset, .unset]) rfl ?_
                      refine g_aload X21 B at_127 (pc' := 129) rfl (v := (.ref ob1)) rfl rfl ?_
                      refine g_virtual X21 B rfl 0 E_ob1_21 (y := (⟨"com/example/unseen_nodes/unseennodes/NodeSet", "isEmpty", "()Z"⟩ : MethodName)) (argsL := []) (rest := []) (a := ob1) (B.w 33 rfl) (B.w 34 rfl) (B.w 36 rfl) (B.w 35 rfl) (B.w 2 rfl) (B.w 37 rfl) (by decide) (il_met l Z a0 B.2.2.1 [] T21.heap ob1 fa (own_n (own_del (own_del (own_ins (own_ins ([] : List Int32) i1) i2) i3) (j4.toInt32))) (own_Sl Sq21) (own_Sc Sq21)) (by decide) (by decide) (by decide) (by decide) rfl (lenOf own_pd6 rfl) rfl (Nat.le_of_eq rfl) at_129 (pc' := 132) rfl (fun T24 v24 L24 X24 Q24 => ?_)
                      obtain ⟨rfl, hh24, rfl⟩ := Q24
                      rw [List.append_nil] at X24
                      show Go p e below s _ _ _ (T24.setTop (mkF m 132 #[.val (.int i0), .val (.int i1), .val (.int i2), .val (.int i3), .val (.long j4), .second, .val (.long j6), .second, .val (.ref ob1), .val (.int (1 : Int32)), .val (.int (1 : Int32)), .val (.int (j4.toInt32)), .val (.int (0 : Int32)), .val (.int (1 : Int32)), .unset, .unset] [(.int (if own_n (own_del (own_del (own_ins (own_ins ([] : List Int32) i1) i2) i3) (j4.toInt32)) = 0 then 1 else 0))]))
                      refine g_iload X24 B at_132 (pc' := 134) rfl (v := (0 : Int32)) rfl ?_
                      refine g_if_ne X24 B at_134 (pcT := 146) (pcF := 137) (by decide) rfl rfl (fun c134_10 => ?_) (fun c134_10 => ?_)
                      · refine g_iload X24 B at_137 (pc' := 139) rfl (v := (1 : Int32)) rfl ?_
                        refine g_if_ne X24 B at_139 (pcT := 146) (pcF := 142) (by decide) rfl rfl (fun c139_11 => ?_) (fun c139_11 => ?_)
                        · exact absurd c139_11 (by decide)
                        · refine g_iconst X24 B at_146 (pc' := 147) rfl (v := (0 : Int32)) (by decide) ?_
                          refine g_icmp_ne X24 B at_147 (pcT := 154) (pcF := 150) (by decide) rfl rfl (fun c147_12 => ?_) (fun c147_12 => ?_)
                          · refine g_iconst X24 B at_150 (pc' := 151) rfl (v := (1 : Int32)) (by decide) ?_
                            refine g_goto X24 B at_151 (pc' := 155) (by decide) rfl ?_
                            exact g_retN X24 B (t := .boolean) rfl (by simp) at_155 (by decide) (by decide) ⟨congrArg (fun z => some (Value.int z)) (by decide : nar .boolean (1 : Int32) = 1), N21⟩
                          · exact absurd (if_neg (show ¬ own_n (own_del (own_del (own_ins (own_ins ([] : List Int32) i1) i2) i3) (j4.toInt32)) = 0 from fun q => Or.elim (((own_d12 i1 i2 i3 (j4.toInt32)).mp q).2) c111_8 c117_9)) c147_12
                      · exact absurd (by decide) c134_10
              · refine g_iloadN X21 B at_91 (pc' := 92) rfl (v := i1) rfl ?_
                refine g_iload X21 B at_92 (pc' := 94) rfl (v := (j4.toInt32)) rfl ?_
                refine g_icmp_eq X21 B at_94 (pcT := 101) (pcF := 97) (by decide) rfl rfl (fun c94_7 => ?_) (fun c94_7 => ?_)
                · refine g_iconst X21 B at_101 (pc' := 102) rfl (v := (0 : Int32)) (by decide) ?_
                  refine g_istore X21 B at_102 (pc' := 104) rfl (Ls' := #[.val (.int i0), .val (.int i1), .val (.int i2), .val (.int i3), .val (.long j4), .second, .val (.long j6), .second, .val (.ref ob1), .val (.int (1 : Int32)), .val (.int (1 : Int32)), .val (.int (j4.toInt32)), .val (.int (0 : Int32)), .unset, .unset, .unset]) rfl ?_
                  refine g_iload X21 B at_104 (pc' := 106) rfl (v := (1 : Int32)) rfl ?_
                  refine g_if_eq X21 B at_106 (pcT := 124) (pcF := 109) (by decide) rfl rfl (fun c106_8 => ?_) (fun c106_8 => ?_)
                  · exact absurd c106_8 (by decide)
                  · refine g_iloadN X21 B at_109 (pc' := 110) rfl (v := i2) rfl ?_
                    refine g_iloadN X21 B at_110 (pc' := 111) rfl (v := i3) rfl ?_
                    refine g_icmp_eq X21 B at_111 (pcT := 124) (pcF := 114) (by decide) rfl rfl (fun c111_9 => ?_) (fun c111_9 => ?_)
                    · refine g_iconst X21 B at_124 (pc' := 125) rfl (v := (0 : Int32)) (by decide) ?_
                      refine g_istore X21 B at_125 (pc' := 127) rfl (Ls' := #[.val (.int i0), .val (.int i1), .val (.int i2), .val (.int i3), .val (.long j4), .second, .val (.long j6), .second, .val (.ref ob1), .val (.int (1 : Int32)), .val (.int (1 : Int32)), .val (.int (j4.toInt32)), .val (.int (0 : Int32)), .val (.int (0 : Int32)), .unset, .unset]) rfl ?_
                      refine g_aload X21 B at_127 (pc' := 129) rfl (v := (.ref ob1)) rfl rfl ?_
                      refine g_virtual X21 B rfl 0 E_ob1_21 (y := (⟨"com/example/unseen_nodes/unseennodes/NodeSet", "isEmpty", "()Z"⟩ : MethodName)) (argsL := []) (rest := []) (a := ob1) (B.w 33 rfl) (B.w 34 rfl) (B.w 36 rfl) (B.w 35 rfl) (B.w 2 rfl) (B.w 37 rfl) (by decide) (il_met l Z a0 B.2.2.1 [] T21.heap ob1 fa (own_n (own_del (own_del (own_ins (own_ins ([] : List Int32) i1) i2) i3) (j4.toInt32))) (own_Sl Sq21) (own_Sc Sq21)) (by decide) (by decide) (by decide) (by decide) rfl (lenOf own_pd6 rfl) rfl (Nat.le_of_eq rfl) at_129 (pc' := 132) rfl (fun T25 v25 L25 X25 Q25 => ?_)
                      obtain ⟨rfl, hh25, rfl⟩ := Q25
                      rw [List.append_nil] at X25
                      show Go p e below s _ _ _ (T25.setTop (mkF m 132 #[.val (.int i0), .val (.int i1), .val (.int i2), .val (.int i3), .val (.long j4), .second, .val (.long j6), .second, .val (.ref ob1), .val (.int (1 : Int32)), .val (.int (1 : Int32)), .val (.int (j4.toInt32)), .val (.int (0 : Int32)), .val (.int (0 : Int32)), .unset, .unset] [(.int (if own_n (own_del (own_del (own_ins (own_ins ([] : List Int32) i1) i2) i3) (j4.toInt32)) = 0 then 1 else 0))]))
                      refine g_iload X25 B at_132 (pc' := 134) rfl (v := (0 : Int32)) rfl ?_
                      refine g_if_ne X25 B at_134 (pcT := 146) (pcF := 137) (by decide) rfl rfl (fun c134_10 => ?_) (fun c134_10 => ?_)
                      · refine g_iload X25 B at_137 (pc' := 139) rfl (v := (0 : Int32)) rfl ?_
                        refine g_if_ne X25 B at_139 (pcT := 146) (pcF := 142) (by decide) rfl rfl (fun c139_11 => ?_) (fun c139_11 => ?_)
                        · refine g_iconst X25 B at_142 (pc' := 143) rfl (v := (1 : Int32)) (by decide) ?_
                          refine g_goto X25 B at_143 (pc' := 147) (by decide) rfl ?_
                          refine g_icmp_ne X25 B at_147 (pcT := 154) (pcF := 150) (by decide) rfl rfl (fun c147_12 => ?_) (fun c147_12 => ?_)
                          · refine g_iconst X25 B at_150 (pc' := 151) rfl (v := (1 : Int32)) (by decide) ?_
                            refine g_goto X25 B at_151 (pc' := 155) (by decide) rfl ?_
                            exact g_retN X25 B (t := .boolean) rfl (by simp) at_155 (by decide) (by decide) ⟨congrArg (fun z => some (Value.int z)) (by decide : nar .boolean (1 : Int32) = 1), N21⟩
                          · exact absurd (if_pos (show own_n (own_del (own_del (own_ins (own_ins ([] : List Int32) i1) i2) i3) (j4.toInt32)) = 0 from (own_d12 i1 i2 i3 (j4.toInt32)).mpr ⟨Or.inr c94_7, Or.inl c111_9⟩)) c147_12
                        · exact absurd (by decide) c139_11
                      · exact absurd (by decide) c134_10
                    · refine g_iloadN X21 B at_114 (pc' := 115) rfl (v := i2) rfl ?_
                      refine g_iload X21 B at_115 (pc' := 117) rfl (v := (j4.toInt32)) rfl ?_
                      refine g_icmp_eq X21 B at_117 (pcT := 124) (pcF := 120) (by decide) rfl rfl (fun c117_10 => ?_) (fun c117_10 => ?_)
                      · refine g_iconst X21 B at_124 (pc' := 125) rfl (v := (0 : Int32)) (by decide) ?_
                        refine g_istore X21 B at_125 (pc' := 127) rfl (Ls' := #[.val (.int i0), .val (.int i1), .val (.int i2), .val (.int i3), .val (.long j4), .second, .val (.long j6), .second, .val (.ref ob1), .val (.int (1 : Int32)), .val (.int (1 : Int32)), .val (.int (j4.toInt32)), .val (.int (0 : Int32)), .val (.int (0 : Int32)), .unset, .unset]) rfl ?_
                        refine g_aload X21 B at_127 (pc' := 129) rfl (v := (.ref ob1)) rfl rfl ?_
                        refine g_virtual X21 B rfl 0 E_ob1_21 (y := (⟨"com/example/unseen_nodes/unseennodes/NodeSet", "isEmpty", "()Z"⟩ : MethodName)) (argsL := []) (rest := []) (a := ob1) (B.w 33 rfl) (B.w 34 rfl) (B.w 36 rfl) (B.w 35 rfl) (B.w 2 rfl) (B.w 37 rfl) (by decide) (il_met l Z a0 B.2.2.1 [] T21.heap ob1 fa (own_n (own_del (own_del (own_ins (own_ins ([] : List Int32) i1) i2) i3) (j4.toInt32))) (own_Sl Sq21) (own_Sc Sq21)) (by decide) (by decide) (by decide) (by decide) rfl (lenOf own_pd6 rfl) rfl (Nat.le_of_eq rfl) at_129 (pc' := 132) rfl (fun T26 v26 L26 X26 Q26 => ?_)
                        obtain ⟨rfl, hh26, rfl⟩ := Q26
                        rw [List.append_nil] at X26
                        show Go p e below s _ _ _ (T26.setTop (mkF m 132 #[.val (.int i0), .val (.int i1), .val (.int i2), .val (.int i3), .val (.long j4), .second, .val (.long j6), .second, .val (.ref ob1), .val (.int (1 : Int32)), .val (.int (1 : Int32)), .val (.int (j4.toInt32)), .val (.int (0 : Int32)), .val (.int (0 : Int32)), .unset, .unset] [(.int (if own_n (own_del (own_del (own_ins (own_ins ([] : List Int32) i1) i2) i3) (j4.toInt32)) = 0 then 1 else 0))]))
                        refine g_iload X26 B at_132 (pc' := 134) rfl (v := (0 : Int32)) rfl ?_
                        refine g_if_ne X26 B at_134 (pcT := 146) (pcF := 137) (by decide) rfl rfl (fun c134_11 => ?_) (fun c134_11 => ?_)
                        · refine g_iload X26 B at_137 (pc' := 139) rfl (v := (0 : Int32)) rfl ?_
                          refine g_if_ne X26 B at_139 (pcT := 146) (pcF := 142) (by decide) rfl rfl (fun c139_12 => ?_) (fun c139_12 => ?_)
                          · refine g_iconst X26 B at_142 (pc' := 143) rfl (v := (1 : Int32)) (by decide) ?_
                            refine g_goto X26 B at_143 (pc' := 147) (by decide) rfl ?_
                            refine g_icmp_ne X26 B at_147 (pcT := 154) (pcF := 150) (by decide) rfl rfl (fun c147_13 => ?_) (fun c147_13 => ?_)
                            · refine g_iconst X26 B at_150 (pc' := 151) rfl (v := (1 : Int32)) (by decide) ?_
                              refine g_goto X26 B at_151 (pc' := 155) (by decide) rfl ?_
                              exact g_retN X26 B (t := .boolean) rfl (by simp) at_155 (by decide) (by decide) ⟨congrArg (fun z => some (Value.int z)) (by decide : nar .boolean (1 : Int32) = 1), N21⟩
                            · exact absurd (if_pos (show own_n (own_del (own_del (own_ins (own_ins ([] : List Int32) i1) i2) i3) (j4.toInt32)) = 0 from (own_d12 i1 i2 i3 (j4.toInt32)).mpr ⟨Or.inr c94_7, Or.inr c117_10⟩)) c147_13
                          · exact absurd (by decide) c139_12
                        · exact absurd (by decide) c134_11
                      · refine g_iconst X21 B at_120 (pc' := 121) rfl (v := (1 : Int32)) (by decide) ?_
                        refine g_goto X21 B at_121 (pc' := 125) (by decide) rfl ?_
                        refine g_istore X21 B at_125 (pc' := 127) rfl (Ls' := #[.val (.int i0), .val (.int i1), .val (.int i2), .val (.int i3), .val (.long j4), .second, .val (.long j6), .second, .val (.ref ob1), .val (.int (1 : Int32)), .val (.int (1 : Int32)), .val (.int (j4.toInt32)), .val (.int (0 : Int32)), .val (.int (1 : Int32)), .unset, .unset]) rfl ?_
                        refine g_aload X21 B at_127 (pc' := 129) rfl (v := (.ref ob1)) rfl rfl ?_
                        refine g_virtual X21 B rfl 0 E_ob1_21 (y := (⟨"com/example/unseen_nodes/unseennodes/NodeSet", "isEmpty", "()Z"⟩ : MethodName)) (argsL := []) (rest := []) (a := ob1) (B.w 33 rfl) (B.w 34 rfl) (B.w 36 rfl) (B.w 35 rfl) (B.w 2 rfl) (B.w 37 rfl) (by decide) (il_met l Z a0 B.2.2.1 [] T21.heap ob1 fa (own_n (own_del (own_del (own_ins (own_ins ([] : List Int32) i1) i2) i3) (j4.toInt32))) (own_Sl Sq21) (own_Sc Sq21)) (by decide) (by decide) (by decide) (by decide) rfl (lenOf own_pd6 rfl) rfl (Nat.le_of_eq rfl) at_129 (pc' := 132) rfl (fun T27 v27 L27 X27 Q27 => ?_)
                        obtain ⟨rfl, hh27, rfl⟩ := Q27
                        rw [List.append_nil] at X27
                        show Go p e below s _ _ _ (T27.setTop (mkF m 132 #[.val (.int i0), .val (.int i1), .val (.int i2), .val (.int i3), .val (.long j4), .second, .val (.long j6), .second, .val (.ref ob1), .val (.int (1 : Int32)), .val (.int (1 : Int32)), .val (.int (j4.toInt32)), .val (.int (0 : Int32)), .val (.int (1 : Int32)), .unset, .unset] [(.int (if own_n (own_del (own_del (own_ins (own_ins ([] : List Int32) i1) i2) i3) (j4.toInt32)) = 0 then 1 else 0))]))
                        refine g_iload X27 B at_132 (pc' := 134) rfl (v := (0 : Int32)) rfl ?_
                        refine g_if_ne X27 B at_134 (pcT := 146) (pcF := 137) (by decide) rfl rfl (fun c134_11 => ?_) (fun c134_11 => ?_)
                        · refine g_iload X27 B at_137 (pc' := 139) rfl (v := (1 : Int32)) rfl ?_
                          refine g_if_ne X27 B at_139 (pcT := 146) (pcF := 142) (by decide) rfl rfl (fun c139_12 => ?_) (fun c139_12 => ?_)
                          · exact absurd c139_12 (by decide)
                          · refine g_iconst X27 B at_146 (pc' := 147) rfl (v := (0 : Int32)) (by decide) ?_
                            refine g_icmp_ne X27 B at_147 (pcT := 154) (pcF := 150) (by decide) rfl rfl (fun c147_13 => ?_) (fun c147_13 => ?_)
                            · refine g_iconst X27 B at_150 (pc' := 151) rfl (v := (1 : Int32)) (by decide) ?_
                              refine g_goto X27 B at_151 (pc' := 155) (by decide) rfl ?_
                              exact g_retN X27 B (t := .boolean) rfl (by simp) at_155 (by decide) (by decide) ⟨congrArg (fun z => some (Value.int z)) (by decide : nar .boolean (1 : Int32) = 1), N21⟩
                            · exact absurd (if_neg (show ¬ own_n (own_del (own_del (own_ins (own_ins ([] : List Int32) i1) i2) i3) (j4.toInt32)) = 0 from fun q => Or.elim (((own_d12 i1 i2 i3 (j4.toInt32)).mp q).2) c111_9 c117_10)) c147_13
                        · exact absurd (by decide) c134_11
                · refine g_iconst X21 B at_97 (pc' := 98) rfl (v := (1 : Int32)) (by decide) ?_
                  refine g_goto X21 B at_98 (pc' := 102) (by decide) rfl ?_
                  refine g_istore X21 B at_102 (pc' := 104) rfl (Ls' := #[.val (.int i0), .val (.int i1), .val (.int i2), .val (.int i3), .val (.long j4), .second, .val (.long j6), .second, .val (.ref ob1), .val (.int (1 : Int32)), .val (.int (1 : Int32)), .val (.int (j4.toInt32)), .val (.int (1 : Int32)), .unset, .unset, .unset]) rfl ?_
                  refine g_iload X21 B at_104 (pc' := 106) rfl (v := (1 : Int32)) rfl ?_
                  refine g_if_eq X21 B at_106 (pcT := 124) (pcF := 109) (by decide) rfl rfl (fun c106_8 => ?_) (fun c106_8 => ?_)
                  · exact absurd c106_8 (by decide)
                  · refine g_iloadN X21 B at_109 (pc' := 110) rfl (v := i2) rfl ?_
                    refine g_iloadN X21 B at_110 (pc' := 111) rfl (v := i3) rfl ?_
                    refine g_icmp_eq X21 B at_111 (pcT := 124) (pcF := 114) (by decide) rfl rfl (fun c111_9 => ?_) (fun c111_9 => ?_)
                    · refine g_iconst X21 B at_124 (pc' := 125) rfl (v := (0 : Int32)) (by decide) ?_
                      refine g_istore X21 B at_125 (pc' := 127) rfl (Ls' := #[.val (.int i0), .val (.int i1), .val (.int i2), .val (.int i3), .val (.long j4), .second, .val (.long j6), .second, .val (.ref ob1), .val (.int (1 : Int32)), .val (.int (1 : Int32)), .val (.int (j4.toInt32)), .val (.int (1 : Int32)), .val (.int (0 : Int32)), .unset, .unset]) rfl ?_
                      refine g_aload X21 B at_127 (pc' := 129) rfl (v := (.ref ob1)) rfl rfl ?_
                      refine g_virtual X21 B rfl 0 E_ob1_21 (y := (⟨"com/example/unseen_nodes/unseennodes/NodeSet", "isEmpty", "()Z"⟩ : MethodName)) (argsL := []) (rest := []) (a := ob1) (B.w 33 rfl) (B.w 34 rfl) (B.w 36 rfl) (B.w 35 rfl) (B.w 2 rfl) (B.w 37 rfl) (by decide) (il_met l Z a0 B.2.2.1 [] T21.heap ob1 fa (own_n (own_del (own_del (own_ins (own_ins ([] : List Int32) i1) i2) i3) (j4.toInt32))) (own_Sl Sq21) (own_Sc Sq21)) (by decide) (by decide) (by decide) (by decide) rfl (lenOf own_pd6 rfl) rfl (Nat.le_of_eq rfl) at_129 (pc' := 132) rfl (fun T28 v28 L28 X28 Q28 => ?_)
                      obtain ⟨rfl, hh28, rfl⟩ := Q28
                      rw [List.append_nil] at X28
                      show Go p e below s _ _ _ (T28.setTop (mkF m 132 #[.val (.int i0), .val (.int i1), .val (.int i2), .val (.int i3), .val (.long j4), .second, .val (.long j6), .second, .val (.ref ob1), .val (.int (1 : Int32)), .val (.int (1 : Int32)), .val (.int (j4.toInt32)), .val (.int (1 : Int32)), .val (.int (0 : Int32)), .unset, .unset] [(.int (if own_n (own_del (own_del (own_ins (own_ins ([] : List Int32) i1) i2) i3) (j4.toInt32)) = 0 then 1 else 0))]))
                      refine g_iload X28 B at_132 (pc' := 134) rfl (v := (1 : Int32)) rfl ?_
                      refine g_if_ne X28 B at_134 (pcT := 146) (pcF := 137) (by decide) rfl rfl (fun c134_10 => ?_) (fun c134_10 => ?_)
                      · exact absurd c134_10 (by decide)
                      · refine g_iconst X28 B at_146 (pc' := 147) rfl (v := (0 : Int32)) (by decide) ?_
                        refine g_icmp_ne X28 B at_147 (pcT := 154) (pcF := 150) (by decide) rfl rfl (fun c147_11 => ?_) (fun c147_11 => ?_)
                        · refine g_iconst X28 B at_150 (pc' := 151) rfl (v := (1 : Int32)) (by decide) ?_
                          refine g_goto X28 B at_151 (pc' := 155) (by decide) rfl ?_
                          exact g_retN X28 B (t := .boolean) rfl (by simp) at_155 (by decide) (by decide) ⟨congrArg (fun z => some (Value.int z)) (by decide : nar .boolean (1 : Int32) = 1), N21⟩
                        · exact absurd (if_neg (show ¬ own_n (own_del (own_del (own_ins (own_ins ([] : List Int32) i1) i2) i3) (j4.toInt32)) = 0 from fun q => Or.elim (((own_d12 i1 i2 i3 (j4.toInt32)).mp q).1) c88_6 c94_7)) c147_11
                    · refine g_iloadN X21 B at_114 (pc' := 115) rfl (v := i2) rfl ?_
                      refine g_iload X21 B at_115 (pc' := 117) rfl (v := (j4.toInt32)) rfl ?_
                      refine g_icmp_eq X21 B at_117 (pcT := 124) (pcF := 120) (by decide) rfl rfl (fun c117_10 => ?_) (fun c117_10 => ?_)
                      · refine g_iconst X21 B at_124 (pc' := 125) rfl (v := (0 : Int32)) (by decide) ?_
                        refine g_istore X21 B at_125 (pc' := 127) rfl (Ls' := #[.val (.int i0), .val (.int i1), .val (.int i2), .val (.int i3), .val (.long j4), .second, .val (.long j6), .second, .val (.ref ob1), .val (.int (1 : Int32)), .val (.int (1 : Int32)), .val (.int (j4.toInt32)), .val (.int (1 : Int32)), .val (.int (0 : Int32)), .unset, .unset]) rfl ?_
                        refine g_aload X21 B at_127 (pc' := 129) rfl (v := (.ref ob1)) rfl rfl ?_
                        refine g_virtual X21 B rfl 0 E_ob1_21 (y := (⟨"com/example/unseen_nodes/unseennodes/NodeSet", "isEmpty", "()Z"⟩ : MethodName)) (argsL := []) (rest := []) (a := ob1) (B.w 33 rfl) (B.w 34 rfl) (B.w 36 rfl) (B.w 35 rfl) (B.w 2 rfl) (B.w 37 rfl) (by decide) (il_met l Z a0 B.2.2.1 [] T21.heap ob1 fa (own_n (own_del (own_del (own_ins (own_ins ([] : List Int32) i1) i2) i3) (j4.toInt32))) (own_Sl Sq21) (own_Sc Sq21)) (by decide) (by decide) (by decide) (by decide) rfl (lenOf own_pd6 rfl) rfl (Nat.le_of_eq rfl) at_129 (pc' := 132) rfl (fun T29 v29 L29 X29 Q29 => ?_)
                        obtain ⟨rfl, hh29, rfl⟩ := Q29
                        rw [List.append_nil] at X29
                        show Go p e below s _ _ _ (T29.setTop (mkF m 132 #[.val (.int i0), .val (.int i1), .val (.int i2), .val (.int i3), .val (.long j4), .second, .val (.long j6), .second, .val (.ref ob1), .val (.int (1 : Int32)), .val (.int (1 : Int32)), .val (.int (j4.toInt32)), .val (.int (1 : Int32)), .val (.int (0 : Int32)), .unset, .unset] [(.int (if own_n (own_del (own_del (own_ins (own_ins ([] : List Int32) i1) i2) i3) (j4.toInt32)) = 0 then 1 else 0))]))
                        refine g_iload X29 B at_132 (pc' := 134) rfl (v := (1 : Int32)) rfl ?_
                        refine g_if_ne X29 B at_134 (pcT := 146) (pcF := 137) (by decide) rfl rfl (fun c134_11 => ?_) (fun c134_11 => ?_)
                        · exact absurd c134_11 (by decide)
                        · refine g_iconst X29 B at_146 (pc' := 147) rfl (v := (0 : Int32)) (by decide) ?_
                          refine g_icmp_ne X29 B at_147 (pcT := 154) (pcF := 150) (by decide) rfl rfl (fun c147_12 => ?_) (fun c147_12 => ?_)
                          · refine g_iconst X29 B at_150 (pc' := 151) rfl (v := (1 : Int32)) (by decide) ?_
                            refine g_goto X29 B at_151 (pc' := 155) (by decide) rfl ?_
                            exact g_retN X29 B (t := .boolean) rfl (by simp) at_155 (by decide) (by decide) ⟨congrArg (fun z => some (Value.int z)) (by decide : nar .boolean (1 : Int32) = 1), N21⟩
                          · exact absurd (if_neg (show ¬ own_n (own_del (own_del (own_ins (own_ins ([] : List Int32) i1) i2) i3) (j4.toInt32)) = 0 from fun q => Or.elim (((own_d12 i1 i2 i3 (j4.toInt32)).mp q).1) c88_6 c94_7)) c147_12
                      · refine g_iconst X21 B at_120 (pc' := 121) rfl (v := (1 : Int32)) (by decide) ?_
                        refine g_goto X21 B at_121 (pc' := 125) (by decide) rfl ?_
                        refine g_istore X21 B at_125 (pc' := 127) rfl (Ls' := #[.val (.int i0), .val (.int i1), .val (.int i2), .val (.int i3), .val (.long j4), .second, .val (.long j6), .second, .val (.ref ob1), .val (.int (1 : Int32)), .val (.int (1 : Int32)), .val (.int (j4.toInt32)), .val (.int (1 : Int32)), .val (.int (1 : Int32)), .unset, .unset]) rfl ?_
                        refine g_aload X21 B at_127 (pc' := 129) rfl (v := (.ref ob1)) rfl rfl ?_
                        refine g_virtual X21 B rfl 0 E_ob1_21 (y := (⟨"com/example/unseen_nodes/unseennodes/NodeSet", "isEmpty", "()Z"⟩ : MethodName)) (argsL := []) (rest := []) (a := ob1) (B.w 33 rfl) (B.w 34 rfl) (B.w 36 rfl) (B.w 35 rfl) (B.w 2 rfl) (B.w 37 rfl) (by decide) (il_met l Z a0 B.2.2.1 [] T21.heap ob1 fa (own_n (own_del (own_del (own_ins (own_ins ([] : List Int32) i1) i2) i3) (j4.toInt32))) (own_Sl Sq21) (own_Sc Sq21)) (by decide) (by decide) (by decide) (by decide) rfl (lenOf own_pd6 rfl) rfl (Nat.le_of_eq rfl) at_129 (pc' := 132) rfl (fun T30 v30 L30 X30 Q30 => ?_)
                        obtain ⟨rfl, hh30, rfl⟩ := Q30
                        rw [List.append_nil] at X30
                        show Go p e below s _ _ _ (T30.setTop (mkF m 132 #[.val (.int i0), .val (.int i1), .val (.int i2), .val (.int i3), .val (.long j4), .second, .val (.long j6), .second, .val (.ref ob1), .val (.int (1 : Int32)), .val (.int (1 : Int32)), .val (.int (j4.toInt32)), .val (.int (1 : Int32)), .val (.int (1 : Int32)), .unset, .unset] [(.int (if own_n (own_del (own_del (own_ins (own_ins ([] : List Int32) i1) i2) i3) (j4.toInt32)) = 0 then 1 else 0))]))
                        refine g_iload X30 B at_132 (pc' := 134) rfl (v := (1 : Int32)) rfl ?_
                        refine g_if_ne X30 B at_134 (pcT := 146) (pcF := 137) (by decide) rfl rfl (fun c134_11 => ?_) (fun c134_11 => ?_)
                        · exact absurd c134_11 (by decide)
                        · refine g_iconst X30 B at_146 (pc' := 147) rfl (v := (0 : Int32)) (by decide) ?_
                          refine g_icmp_ne X30 B at_147 (pcT := 154) (pcF := 150) (by decide) rfl rfl (fun c147_12 => ?_) (fun c147_12 => ?_)
                          · refine g_iconst X30 B at_150 (pc' := 151) rfl (v := (1 : Int32)) (by decide) ?_
                            refine g_goto X30 B at_151 (pc' := 155) (by decide) rfl ?_
                            exact g_retN X30 B (t := .boolean) rfl (by simp) at_155 (by decide) (by decide) ⟨congrArg (fun z => some (Value.int z)) (by decide : nar .boolean (1 : Int32) = 1), N21⟩
                          · exact absurd (if_neg (show ¬ own_n (own_del (own_del (own_ins (own_ins ([] : List Int32) i1) i2) i3) (j4.toInt32)) = 0 from fun q => Or.elim (((own_d12 i1 i2 i3 (j4.toInt32)).mp q).1) c88_6 c94_7)) c147_12
  · refine g_iconst X B at_156 (pc' := 157) rfl (v := (2 : Int32)) (by decide) ?_
    refine g_newA X B (aty := .long) 2 2 (B.w 38 rfl) eT (by decide) (by decide) (by decide) at_157 (pc' := 159) rfl (by decide) (by decide) (fun T31 h31 ob31 q31 X31 e31 E31 A31 => ?_)
    have G_ob31 : n0 ≤ ob31 := by rw [q31]; exact Zs
    have Zs_31 := Nat.le_trans Zs E31.1
    have O_31 := own_old_ext hO E31
    have A_ob31 : Ax Z h31 ob31 .long 2 (fun _ => (.long (0 : Int64))) := A31
    refine g_dup X31 B at_159 (pc' := 160) rfl rfl ?_
    refine g_iconst X31 B at_160 (pc' := 161) rfl (v := (0 : Int32)) (by decide) ?_
    refine g_lload X31 B at_161 (pc' := 163) rfl (v := j4) rfl ?_
    refine g_lastore X31 B 0 e31 A_ob31 (by decide) (by decide) at_163 (pc' := 164) rfl (fun T32 h32 X32 e32 W32 => ?_)
    have N32 := Fr.snoc X32 N G_ob31
    have A_ob31_32 := A_ob31.set W32
    have Zs_32 := Nat.le_trans Zs_31 (Keep.of_wr W32).1
    have O_32 := own_old_wr O_31 W32 (Nat.le_trans hn0 G_ob31)
    refine g_dup X32 B at_164 (pc' := 165) rfl rfl ?_
    refine g_iconst X32 B at_165 (pc' := 166) rfl (v := (1 : Int32)) (by decide) ?_
    refine g_lload X32 B at_166 (pc' := 168) rfl (v := j6) rfl ?_
    refine g_lastore X32 B 1 e32 A_ob31_32 (by decide) (by decide) at_168 (pc' := 169) rfl (fun T33 h33 X33 e33 W33 => ?_)
    have N33 := Fr.snoc X33 N32 G_ob31
    have A_ob31_33 := A_ob31_32.set W33
    have Zs_33 := Nat.le_trans Zs_32 (Keep.of_wr W33).1
    have O_33 := own_old_wr O_32 W33 (Nat.le_trans hn0 G_ob31)
    refine g_callS X33 B e33 0 (y := (⟨"com/example/unseen_nodes/unseennodes/NodeSet", "ofBits", "([J)Lcom/example/unseen_nodes/unseennodes/NodeSet;"⟩ : MethodName)) (argsL := [(.ref ob31)]) (rest := []) (B.w 39 rfl) (B.w 40 rfl) (B.w 2 rfl) (B.w 41 rfl) (by decide) (ob_met l Z a0 B.2.2.1 [] h33 ob31 aW j4 j6 n0 Zs_33 G_ob31 (S0.ext O_33) (A_ob31_33.eqw (fun j hj => by have q : j = 0 ∨ j = 1 := (by omega); rcases q with rfl | rfl <;> first | rfl | simp [own_g]))) (by decide) (by decide) (by decide) (by decide) rfl (lenOf own_pd7 rfl) rfl (Nat.le_of_eq rfl) at_169 (pc' := 172) rfl (fun T34 v34 L34 X34 Q34 => ?_)
    obtain ⟨o8, f, cn, rfl, Nq34, Kq34, hE, g0, noa, hW, hnf⟩ := Q34
    have N34 := Fr.app N33 Nq34
    have A_ob31_34 := A_ob31_33.keep Kq34 (by simp)
    have Zs_34 := Nat.le_trans Zs_33 Kq34.1
    have O_34 := own_old_keep O_33 Kq34 (by intro x hx; cases hx)
    show Go p e below s _ _ _ (T34.setTop (mkF m 172 #[.val (.int i0), .val (.int i1), .val (.int i2), .val (.int i3), .val (.long j4), .second, .val (.long j6), .second, .unset, .unset, .unset, .unset, .unset, .unset, .unset, .unset] [(.ref o8)]))
    refine g_astore X34 B at_172 (pc' := 174) rfl rfl (Ls' := #[.val (.int i0), .val (.int i1), .val (.int i2), .val (.int i3), .val (.long j4), .second, .val (.long j6), .second, .val (.ref o8), .unset, .unset, .unset, .unset, .unset, .unset, .unset]) rfl ?_
    refine g_iloadN X34 B at_174 (pc' := 175) rfl (v := i0) rfl ?_
    refine g_bipush X34 B at_175 (pc' := 177) rfl (v := (8 : Int32)) (by decide) ?_
    refine g_iand X34 B at_177 (pc' := 178) rfl ?_
    refine g_if_eq X34 B at_178 (pcT := 188) (pcF := 181) (by decide) rfl rfl (fun c178_1 => ?_) (fun c178_1 => ?_)
    · refine g_iloadN X34 B at_188 (pc' := 189) rfl (v := i1) rfl ?_
      refine g_istore X34 B at_189 (pc' := 191) rfl (Ls' := #[.val (.int i0), .val (.int i1), .val (.int i2), .val (.int i3), .val (.long j4), .second, .val (.long j6), .second, .val (.ref o8), .val (.int i1), .unset, .unset, .unset, .unset, .unset, .unset]) rfl ?_
      refine g_iloadN X34 B at_191 (pc' := 192) rfl (v := i0) rfl ?_
      refine g_bipush X34 B at_192 (pc' := 194) rfl (v := (16 : Int32)) (by decide) ?_
      refine g_iand X34 B at_194 (pc' := 195) rfl ?_
      refine g_if_eq X34 B at_195 (pcT := 205) (pcF := 198) (by decide) rfl rfl (fun c195_2 => ?_) (fun c195_2 => ?_)
      · refine g_iloadN X34 B at_205 (pc' := 206) rfl (v := i2) rfl ?_
        refine g_istore X34 B at_206 (pc' := 208) rfl (Ls' := #[.val (.int i0), .val (.int i1), .val (.int i2), .val (.int i3), .val (.long j4), .second, .val (.long j6), .second, .val (.ref o8), .val (.int i1), .val (.int i2), .unset, .unset, .unset, .unset, .unset]) rfl ?_
        refine g_iloadN X34 B at_208 (pc' := 209) rfl (v := i0) rfl ?_
        refine g_bipush X34 B at_209 (pc' := 211) rfl (v := (32 : Int32)) (by decide) ?_
        refine g_iand X34 B at_211 (pc' := 212) rfl ?_
        refine g_if_eq X34 B at_212 (pcT := 219) (pcF := 215) (by decide) rfl rfl (fun c212_3 => ?_) (fun c212_3 => ?_)
        · refine g_iconst X34 B at_219 (pc' := 220) rfl (v := (0 : Int32)) (by decide) ?_
          refine g_istore X34 B at_220 (pc' := 222) rfl (Ls' := #[.val (.int i0), .val (.int i1), .val (.int i2), .val (.int i3), .val (.long j4), .second, .val (.long j6), .second, .val (.ref o8), .val (.int i1), .val (.int i2), .val (.int (0 : Int32)), .unset, .unset, .unset, .unset]) rfl ?_
          exact law_w0 X34 B rfl n0 Zs_34 N34 (i0) (i1) (i2) (i3) (j4) (j6) (o8) (i1) (i2) ((0 : Int32)) ob31 f cn rfl hE g0 G_ob31 noa hW hnf
        · refine g_iconst X34 B at_215 (pc' := 216) rfl (v := (1 : Int32)) (by decide) ?_
          refine g_goto X34 B at_216 (pc' := 220) (by decide) rfl ?_
          refine g_istore X34 B at_220 (pc' := 222) rfl (Ls' := #[.val (.int i0), .val (.int i1), .val (.int i2), .val (.int i3), .val (.long j4), .second, .val (.long j6), .second, .val (.ref o8), .val (.int i1), .val (.int i2), .val (.int (1 : Int32)), .unset, .unset, .unset, .unset]) rfl ?_
          exact law_w1 X34 B rfl n0 Zs_34 N34 (i0) (i1) (i2) (i3) (j4) (j6) (o8) (i1) (i2) ((1 : Int32)) ob31 f cn rfl hE g0 G_ob31 noa hW hnf
      · refine g_iloadN X34 B at_198 (pc' := 199) rfl (v := i2) rfl ?_
        refine g_bipush X34 B at_199 (pc' := 201) rfl (v := (127 : Int32)) (by decide) ?_
        refine g_iand X34 B at_201 (pc' := 202) rfl ?_
        refine g_goto X34 B at_202 (pc' := 206) (by decide) rfl ?_
        refine g_istore X34 B at_206 (pc' := 208) rfl (Ls' := #[.val (.int i0), .val (.int i1), .val (.int i2), .val (.int i3), .val (.long j4), .second, .val (.long j6), .second, .val (.ref o8), .val (.int i1), .val (.int (i2 &&& (127 : Int32))), .unset, .unset, .unset, .unset, .unset]) rfl ?_
        refine g_iloadN X34 B at_208 (pc' := 209) rfl (v := i0) rfl ?_
        refine g_bipush X34 B at_209 (pc' := 211) rfl (v := (32 : Int32)) (by decide) ?_
        refine g_iand X34 B at_211 (pc' := 212) rfl ?_
        refine g_if_eq X34 B at_212 (pcT := 219) (pcF := 215) (by decide) rfl rfl (fun c212_3 => ?_) (fun c212_3 => ?_)
        · refine g_iconst X34 B at_219 (pc' := 220) rfl (v := (0 : Int32)) (by decide) ?_
          refine g_istore X34 B at_220 (pc' := 222) rfl (Ls' := #[.val (.int i0), .val (.int i1), .val (.int i2), .val (.int i3), .val (.long j4), .second, .val (.long j6), .second, .val (.ref o8), .val (.int i1), .val (.int (i2 &&& (127 : Int32))), .val (.int (0 : Int32)), .unset, .unset, .unset, .unset]) rfl ?_
          exact law_w0 X34 B rfl n0 Zs_34 N34 (i0) (i1) (i2) (i3) (j4) (j6) (o8) (i1) ((i2 &&& (127 : Int32))) ((0 : Int32)) ob31 f cn rfl hE g0 G_ob31 noa hW hnf
        · refine g_iconst X34 B at_215 (pc' := 216) rfl (v := (1 : Int32)) (by decide) ?_
          refine g_goto X34 B at_216 (pc' := 220) (by decide) rfl ?_
          refine g_istore X34 B at_220 (pc' := 222) rfl (Ls' := #[.val (.int i0), .val (.int i1), .val (.int i2), .val (.int i3), .val (.long j4), .second, .val (.long j6), .second, .val (.ref o8), .val (.int i1), .val (.int (i2 &&& (127 : Int32))), .val (.int (1 : Int32)), .unset, .unset, .unset, .unset]) rfl ?_
          exact law_w1 X34 B rfl n0 Zs_34 N34 (i0) (i1) (i2) (i3) (j4) (j6) (o8) (i1) ((i2 &&& (127 : Int32))) ((1 : Int32)) ob31 f cn rfl hE g0 G_ob31 noa hW hnf
    · refine g_iloadN X34 B at_181 (pc' := 182) rfl (v := i1) rfl ?_
      refine g_bipush X34 B at_182 (pc' := 184) rfl (v := (127 : Int32)) (by decide) ?_
      refine g_iand X34 B at_184 (pc' := 185) rfl ?_
      refine g_goto X34 B at_185 (pc' := 189) (by decide) rfl ?_
      refine g_istore X34 B at_189 (pc' := 191) rfl (Ls' := #[.val (.int i0), .val (.int i1), .val (.int i2), .val (.int i3), .val (.long j4), .second, .val (.long j6), .second, .val (.ref o8), .val (.int (i1 &&& (127 : Int32))), .unset, .unset, .unset, .unset, .unset, .unset]) rfl ?_
      refine g_iloadN X34 B at_191 (pc' := 192) rfl (v := i0) rfl ?_
      refine g_bipush X34 B at_192 (pc' := 194) rfl (v := (16 : Int32)) (by decide) ?_
      refine g_iand X34 B at_194 (pc' := 195) rfl ?_
      refine g_if_eq X34 B at_195 (pcT := 205) (pcF := 198) (by decide) rfl rfl (fun c195_2 => ?_) (fun c195_2 => ?_)
      · refine g_iloadN X34 B at_205 (pc' := 206) rfl (v := i2) rfl ?_
        refine g_istore X34 B at_206 (pc' := 208) rfl (Ls' := #[.val (.int i0), .val (.int i1), .val (.int i2), .val (.int i3), .val (.long j4), .second, .val (.long j6), .second, .val (.ref o8), .val (.int (i1 &&& (127 : Int32))), .val (.int i2), .unset, .unset, .unset, .unset, .unset]) rfl ?_
        refine g_iloadN X34 B at_208 (pc' := 209) rfl (v := i0) rfl ?_
        refine g_bipush X34 B at_209 (pc' := 211) rfl (v := (32 : Int32)) (by decide) ?_
        refine g_iand X34 B at_211 (pc' := 212) rfl ?_
        refine g_if_eq X34 B at_212 (pcT := 219) (pcF := 215) (by decide) rfl rfl (fun c212_3 => ?_) (fun c212_3 => ?_)
        · refine g_iconst X34 B at_219 (pc' := 220) rfl (v := (0 : Int32)) (by decide) ?_
          refine g_istore X34 B at_220 (pc' := 222) rfl (Ls' := #[.val (.int i0), .val (.int i1), .val (.int i2), .val (.int i3), .val (.long j4), .second, .val (.long j6), .second, .val (.ref o8), .val (.int (i1 &&& (127 : Int32))), .val (.int i2), .val (.int (0 : Int32)), .unset, .unset, .unset, .unset]) rfl ?_
          exact law_w0 X34 B rfl n0 Zs_34 N34 (i0) (i1) (i2) (i3) (j4) (j6) (o8) ((i1 &&& (127 : Int32))) (i2) ((0 : Int32)) ob31 f cn rfl hE g0 G_ob31 noa hW hnf
        · refine g_iconst X34 B at_215 (pc' := 216) rfl (v := (1 : Int32)) (by decide) ?_
          refine g_goto X34 B at_216 (pc' := 220) (by decide) rfl ?_
          refine g_istore X34 B at_220 (pc' := 222) rfl (Ls' := #[.val (.int i0), .val (.int i1), .val (.int i2), .val (.int i3), .val (.long j4), .second, .val (.long j6), .second, .val (.ref o8), .val (.int (i1 &&& (127 : Int32))), .val (.int i2), .val (.int (1 : Int32)), .unset, .unset, .unset, .unset]) rfl ?_
          exact law_w1 X34 B rfl n0 Zs_34 N34 (i0) (i1) (i2) (i3) (j4) (j6) (o8) ((i1 &&& (127 : Int32))) (i2) ((1 : Int32)) ob31 f cn rfl hE g0 G_ob31 noa hW hnf
      · refine g_iloadN X34 B at_198 (pc' := 199) rfl (v := i2) rfl ?_
        refine g_bipush X34 B at_199 (pc' := 201) rfl (v := (127 : Int32)) (by decide) ?_
        refine g_iand X34 B at_201 (pc' := 202) rfl ?_
        refine g_goto X34 B at_202 (pc' := 206) (by decide) rfl ?_
        refine g_istore X34 B at_206 (pc' := 208) rfl (Ls' := #[.val (.int i0), .val (.int i1), .val (.int i2), .val (.int i3), .val (.long j4), .second, .val (.long j6), .second, .val (.ref o8), .val (.int (i1 &&& (127 : Int32))), .val (.int (i2 &&& (127 : Int32))), .unset, .unset, .unset, .unset, .unset]) rfl ?_
        refine g_iloadN X34 B at_208 (pc' := 209) rfl (v := i0) rfl ?_
        refine g_bipush X34 B at_209 (pc' := 211) rfl (v := (32 : Int32)) (by decide) ?_
        refine g_iand X34 B at_211 (pc' := 212) rfl ?_
        refine g_if_eq X34 B at_212 (pcT := 219) (pcF := 215) (by decide) rfl rfl (fun c212_3 => ?_) (fun c212_3 => ?_)
        · refine g_iconst X34 B at_219 (pc' := 220) rfl (v := (0 : Int32)) (by decide) ?_
          refine g_istore X34 B at_220 (pc' := 222) rfl (Ls' := #[.val (.int i0), .val (.int i1), .val (.int i2), .val (.int i3), .val (.long j4), .second, .val (.long j6), .second, .val (.ref o8), .val (.int (i1 &&& (127 : Int32))), .val (.int (i2 &&& (127 : Int32))), .val (.int (0 : Int32)), .unset, .unset, .unset, .unset]) rfl ?_
          exact law_w0 X34 B rfl n0 Zs_34 N34 (i0) (i1) (i2) (i3) (j4) (j6) (o8) ((i1 &&& (127 : Int32))) ((i2 &&& (127 : Int32))) ((0 : Int32)) ob31 f cn rfl hE g0 G_ob31 noa hW hnf
        · refine g_iconst X34 B at_215 (pc' := 216) rfl (v := (1 : Int32)) (by decide) ?_
          refine g_goto X34 B at_216 (pc' := 220) (by decide) rfl ?_
          refine g_istore X34 B at_220 (pc' := 222) rfl (Ls' := #[.val (.int i0), .val (.int i1), .val (.int i2), .val (.int i3), .val (.long j4), .second, .val (.long j6), .second, .val (.ref o8), .val (.int (i1 &&& (127 : Int32))), .val (.int (i2 &&& (127 : Int32))), .val (.int (1 : Int32)), .unset, .unset, .unset, .unset]) rfl ?_
          exact law_w1 X34 B rfl n0 Zs_34 N34 (i0) (i1) (i2) (i3) (j4) (j6) (o8) ((i1 &&& (127 : Int32))) ((i2 &&& (127 : Int32))) ((1 : Int32)) ob31 f cn rfl hE g0 G_ob31 noa hW hnf
theorem own_pn_law : plainFor (⟨"com/example/unseen_nodes/unseennodes/NodeSetIsEmptyPinLaw", "law", "(IIIIJJ)Z"⟩ : MethodName) = true := plainFor_of_name (by first | (simp [plainName, overriddenIn]; done) | decide +kernel)
theorem own_ef_law (m : MethodId) (i0 : Int32) (i1 : Int32) (i2 : Int32) (i3 : Int32) (j4 : Int64) (j6 : Int64) : entryFrame m #[(.int i0), (.int i1), (.int i2), (.int i3), (.long j4), (.long j6)] 16 = (mkF m 0 #[.val (.int i0), .val (.int i1), .val (.int i2), .val (.int i3), .val (.long j4), .second, .val (.long j6), .second, .unset, .unset, .unset, .unset, .unset, .unset, .unset, .unset] []) := by first | (simp [entryFrame, mkF, argsToLocals, Value.category]; done) | rfl
theorem own_rm (l : Launch) (Z : State) (a0 : Array Value) (hw : ∀ d ∈ tables_1, d.before a0 Z = true) (ws : List Jvm.Cond) (h : Heap) (n0 : Nat) (Zs : n0 ≤ h.size) (i0 : Int32) (i1 : Int32) (i2 : Int32) (i3 : Int32) (j4 : Int64) (j6 : Int64) (aW : Addr) (hn0 : Z.heap.size ≤ n0) (hO : Ext Z.heap h) (S0 : Sta Z Z.heap "com/example/unseen_nodes/unseennodes/NodeSet" "NO_WORDS" "[J" (.ref aW)) :
    Met l Z x code maxLocals ret ws room_1 #[(.int i0), (.int i1), (.int i2), (.int i3), (.long j4), (.long j6)] h (fun v _ L => v = some (.int 1) ∧ Fr n0 L) :=
  met_of own_pn_law hw fun p e s m below meth c T X B eT => Go.top (own_ef_law m i0 i1 i2 i3 j4 j6) (law_go X B eT n0 Zs i0 i1 i2 i3 j4 j6 aW hn0 hO S0)
set_option maxRecDepth 65536 in
set_option maxHeartbeats 40000000 in
theorem comes_1 {Post : Tables → Env → Array Value → State → Outcome → State → Prop} (hpost : ∀ tb e args s v u, (limb_1_1.after args s (.returned v) u = true ∧ limb_1_2.after args s (.returned v) u = true ∧ True) → FrameEnd s (.returned v) u (Jvm.fieldLocs frame_1_writes args s ++ Jvm.arrayLocs frame_1_arrays args s ++ Jvm.staticLocs frame_1_statics s) 16 128 → Post tb e args s (.returned v) u) :
    ArmFor flags0 classFile x code maxLocals ret World_1 tables_1 room_1 Calls_1 rest_1 Pre_1 Post := by
  intro l hfl _ _ p e ha hc hk s m args below hf hA hF happ hP
  obtain ⟨hcalls, hrest, hpre⟩ := hP
  obtain ⟨-, -, -, hnamed, -, -, -, hat⟩ := (Spec.applies_iff hf).mp happ
  obtain ⟨hg, hn⟩ := and_e (Cond.before_iff.mp (show (Jvm.Cond.and given_1 narrow_1).before args s = true from hpre))
  obtain ⟨h1, g1⟩ := and_e hg
  obtain ⟨k0, g2⟩ := and_e g1
  obtain ⟨k1, g3⟩ := and_e g2
  obtain ⟨k2, g4⟩ := and_e g3
  obtain ⟨k3, g5⟩ := and_e g4
  obtain ⟨k4, g6⟩ := and_e g5
  obtain ⟨w0, w1, w2, w3, w4, w5, rfl⟩ : ∃ w0 w1 w2 w3 w4 w5 : Value, args = #[w0, w1, w2, w3, w4, w5] := by
    have hs : args.size = 6 := by simpa [Cond.value, given_1] using h1
    obtain ⟨L⟩ := args
    match L, hs with
    | [w0, w1, w2, w3, w4, w5], _ => exact ⟨w0, w1, w2, w3, w4, w5, rfl⟩
  have hw := fun d (hd : d ∈ tables_1) => atoms_spec (ws := Jvm.Cond.code x code maxLocals ret :: tables_1) hat d (List.mem_cons_of_mem _ hd)
  obtain ⟨z0, q0⟩ := is_v k0
  obtain rfl : w0 = (.int z0) := Option.some.inj q0
  obtain ⟨z1, q1⟩ := is_v k1
  obtain rfl : w1 = (.int z1) := Option.some.inj q1
  obtain ⟨z2, q2⟩ := is_v k2
  obtain rfl : w2 = (.int z2) := Option.some.inj q2
  obtain ⟨z3, q3⟩ := is_v k3
  obtain rfl : w3 = (.int z3) := Option.some.inj q3
  obtain ⟨z4, q4⟩ := isL_v k4
  obtain rfl : w4 = (.long z4) := Option.some.inj q4
  obtain ⟨z5, q5⟩ := isL_v g6
  obtain rfl : w5 = (.long z5) := Option.some.inj q5
  obtain ⟨n0, m0⟩ := and_e hn
  obtain ⟨aW, eW⟩ := arr_v n0
  have SW : Sta s s.heap "com/example/unseen_nodes/unseennodes/NodeSet" "NO_WORDS" "[J" (.ref aW) := Sta.start eW (Or.inr ⟨(hw _ (List.mem_of_getElem? (i := 2) rfl)), (hw _ (List.mem_of_getElem? (i := 13) rfl))⟩)
  obtain ⟨n, o, h1, h2, h3, _, L, rfl, ⟨rfl, N⟩, hq⟩ := own_rm l s _ hw tables_1 s.heap s.heap.size (Nat.le_refl _) z0 z1 z2 z3 z4 z5 aW (Nat.le_refl _) ⟨Nat.le_refl _, fun _ _ q => q⟩ SW p e ha hc hk s m _ below hf ((Spec.applies_iff_loose hf).mp happ).1 ⟨rfl, State.Warmed39.refl s, rfl⟩ trivial
  refine ⟨n, _, h1, h2, h3, hpost _ _ _ _ _ _ ⟨Cond.after_iff.mpr rfl, Cond.after_iff.mpr (eq_i res_at (Term.int_eval (1)) rfl), trivial⟩ ⟨hq.1, hq.2.1, (hq.2.2.sift fun y hy => Or.inr (N y hy)).mono (by decide) (by decide)⟩⟩
theorem main_1_1 : Claimed_1_1 := comes_1 fun _ _ _ _ _ _ h hF => ⟨h.1, hF⟩
theorem main_1_2 : Claimed_1_2 := comes_1 fun _ _ _ _ _ _ h hF => ⟨h.2.1, hF⟩
end Jvm.Pilot.@@N@@
namespace Jvm.Pilot.@@N@@
open Jvm Jvm.ClassFile Sem Op Lib Jvm.Free Jvm.Stand Jvm.Pilot.@@N@@.Jvm.D
/-! MADE BY PROGRAM (witnessworld.py) out of the Statement's table words and the real class files: 15 classes; the members and pool entries that the words name. The judged class is class 1, her method 2. -/
namespace start1
open Jvm.ClassFile
def u (s : String) : CpInfo := .utf8 (stringToUtf16 s)
/-- a pool by its gaps: so many unusable entries, then the entry; so many at the end -/
def gap : Nat → List CpInfo → List CpInfo
  | 0, r => r
  | n + 1, r => .unusable :: gap n r
def poolList (es : List (Nat × CpInfo)) (last : Nat) : List CpInfo := es.foldr (fun e r => gap e.1 (e.2 :: r)) (gap last [])
def pool (es : List (Nat × CpInfo)) (last : Nat) : Array CpInfo := ⟨poolList es last⟩
def fileOf (pool : Array CpInfo) (this : Nat) (attrs : Array Attribute := #[]) (ms : Array MethodInfo := #[]) (fl : Nat := 33) (sup : Nat := 0) (ifs : Array Nat := #[]) (fds : Array FieldInfo := #[]) : ClassFile where
  minorVersion := 0
  majorVersion := 65
  constantPool := pool
  accessFlags := fl
  thisClass := this
  superClass := sup
  interfaces := ifs
  fields := fds
  methods := ms
  attributes := attrs
def plain (name : String) (sup : Option ClassId) : Class where
  name := name
  kind := .ordinary
  loader := none
  accessFlags := 33
  super := sup
  interfaces := #[]
  cf := none
  fields := #[]
  methods := #[]
  instanceTypes := #[]
  staticTypes := #[]
  resolved := #[]
  callSites := []
  init := .initialized
  statics := none
  mirror := none

def pool0 : Array CpInfo := pool [(5, u "<init>"), (0, u "()V"), (1, .class_ 10), (1, u "java/lang/Object")] 113

def k0c0 : Code := { maxStack := 0, maxLocals := 1, code := object_method_1_code, exceptionTable := #[], attributes := #[] }
def k0m0 : Method := { name := "<init>", desc := "()V", sig := { parameters := [], returnType := none }, accessFlags := 1, code := some k0c0 }
/-- java/lang/Object -/
def k0 : Class := { plain "java/lang/Object" none with
  accessFlags := 33
  interfaces := #[]
  cf := some (fileOf pool0 8 #[] #[{ accessFlags := 1, nameIndex := 5, descriptorIndex := 6, attributes := #[] }] 33 0 #[] #[])
  fields := #[]
  methods := #[k0m0]
  instanceTypes := #[]
  staticTypes := #[]
  resolved := Array.replicate 124 none
  statics := none }

def pool1 : Array CpInfo := pool [(2, .class_ 4), (0, .nameAndType 5 6), (0, u "java/lang/Object"), (0, u "<init>"), (0, u "()V"), (0, .class_ 8), (0, u "com/example/unseen_nodes/unseennodes/NodeSet"), (0, .methodref 7 3), (0, .methodref 7 11), (0, .nameAndType 12 13), (0, u "set"), (0, u "(I)V"), (0, .methodref 7 15), (0, .nameAndType 16 13), (0, u "clear"), (0, .methodref 7 18), (0, .nameAndType 19 20), (0, u "isEmpty"), (0, u "()Z"), (0, .methodref 7 22), (0, .nameAndType 23 24), (0, u "ofBits"), (0, u "([J)Lcom/example/unseen_nodes/unseennodes/NodeSet;"), (0, .methodref 26 27), (0, .class_ 28), (0, .nameAndType 29 30), (0, u "com/example/unseen_nodes/unseennodes/NodeSetIsEmptyPinLaw"), (0, u "bit"), (0, u "(II)J"), (0, .long 18446744073709551615), (4, u "law"), (0, u "(IIIIJJ)Z")] 2

def k1m0 : Method := { name := "<init>", desc := "()V", sig := { parameters := [], returnType := none }, accessFlags := 1, code := none }
def k1c1 : Code := { maxStack := 4, maxLocals := 2, code := method_2_code, exceptionTable := #[], attributes := #[] }
def k1m1 : Method := { name := "bit", desc := "(II)J", sig := { parameters := [.int, .int], returnType := some .long }, accessFlags := 10, code := some k1c1 }
def k1c2 : Code := { maxStack := 6, maxLocals := 16, code := code, exceptionTable := #[], attributes := #[] }
def k1m2 : Method := { name := "law", desc := "(IIIIJJ)Z", sig := { parameters := [.int, .int, .int, .int, .long, .long], returnType := some .boolean }, accessFlags := 9, code := some k1c2 }
/-- com/example/unseen_nodes/unseennodes/NodeSetIsEmptyPinLaw -/
def k1 : Class := { plain "com/example/unseen_nodes/unseennodes/NodeSetIsEmptyPinLaw" (some 0) with
  accessFlags := 49
  interfaces := #[]
  cf := some (fileOf pool1 26 #[] #[{ accessFlags := 1, nameIndex := 5, descriptorIndex := 6, attributes := #[] }, { accessFlags := 10, nameIndex := 29, descriptorIndex := 30, attributes := #[] }, { accessFlags := 9, nameIndex := 36, descriptorIndex := 37, attributes := #[] }] 49 2 #[] #[])
  fields := #[]
  methods := #[k1m0, k1m1, k1m2]
  instanceTypes := #[]
  staticTypes := #[]
  resolved := Array.replicate 40 none
  statics := none }

def pool2 : Array CpInfo := pool [(2, .class_ 4), (1, u "com/example/unseen_nodes/unseennodes/Context"), (2, .class_ 8), (0, u "java/lang/Object")] 11

/-- com/example/unseen_nodes/unseennodes/Context -/
def k2 : Class := { plain "com/example/unseen_nodes/unseennodes/Context" (some 0) with
  accessFlags := 1536
  interfaces := #[]
  cf := some (fileOf pool2 2 #[] #[] 1536 7 #[] #[])
  fields := #[]
  methods := #[]
  instanceTypes := #[]
  staticTypes := #[]
  resolved := Array.replicate 20 none
  statics := none }

def pool3 : Array CpInfo := pool [(12, .class_ 14), (1, u "java/util/function/IntConsumer"), (1, .class_ 17), (0, u "java/lang/Object")] 34

/-- java/util/function/IntConsumer -/
def k3 : Class := { plain "java/util/function/IntConsumer" (some 0) with
  accessFlags := 1537
  interfaces := #[]
  cf := some (fileOf pool3 12 #[] #[] 1537 16 #[] #[])
  fields := #[]
  methods := #[]
  instanceTypes := #[]
  staticTypes := #[]
  resolved := Array.replicate 52 none
  statics := none }

def pool4 : Array CpInfo := pool [(1, .methodref 2 3), (0, .class_ 4), (0, .nameAndType 5 6), (0, u "java/lang/Object"), (0, u "<init>"), (0, u "()V"), (0, .fieldref 8 9), (0, .class_ 10), (0, .nameAndType 11 12), (0, u "com/example/unseen_nodes/unseennodes/NodeSet"), (0, u "listed"), (0, u "[I"), (0, .fieldref 8 14), (0, .nameAndType 15 16), (0, u "NO_WORDS"), (0, u "[J"), (0, .fieldref 8 18), (0, .nameAndType 19 16), (0, u "words"), (0, .fieldref 8 21), (0, .nameAndType 22 23), (0, u "firstWord"), (0, u "I"), (0, .fieldref 8 25), (0, .nameAndType 26 23), (0, u "count"), (0, .methodref 8 28), (0, .nameAndType 29 6), (0, u "trim"), (0, .fieldref 8 31), (0, .nameAndType 32 23), (0, u "listedCount"), (0, .methodref 8 34), (0, .nameAndType 5 35), (0, u "([JI)V"), (7, .class_ 45), (1, u "java/util/Arrays"), (5, .methodref 43 52), (0, .nameAndType 53 54), (0, u "binarySearch"), (0, u "([IIII)I"), (0, .fieldref 8 56), (0, .nameAndType 57 23), (0, u "start"), (0, .methodref 8 59), (0, .nameAndType 60 61), (0, u "list"), (0, u "(I)V"), (4, .methodref 8 67), (0, .nameAndType 68 61), (0, u "set"), (2, u "clear"), (3, .long 18446744073709551615), (5, .methodref 82 83), (0, .class_ 84), (0, .nameAndType 85 86), (0, u "java/lang/System"), (0, u "arraycopy"), (0, u "(Ljava/lang/Object;ILjava/lang/Object;II)V"), (23, u "isEmpty"), (0, u "()Z"), (18, .class_ 131), (0, u "com/example/unseen_nodes/unseennodes/Context"), (0, .class_ 133), (0, u "java/util/function/IntConsumer"), (0, u "MOST_LISTED"), (4, u "ofBits"), (0, u "([J)Lcom/example/unseen_nodes/unseennodes/NodeSet;")] 20

def k4c0 : Code := { maxStack := 2, maxLocals := 1, code := prog_78_method_1_code, exceptionTable := #[], attributes := #[] }
def k4m0 : Method := { name := "<init>", desc := "()V", sig := { parameters := [], returnType := none }, accessFlags := 0, code := some k4c0 }
def k4c1 : Code := { maxStack := 2, maxLocals := 3, code := prog_78_method_2_code, exceptionTable := #[], attributes := #[] }
def k4m1 : Method := { name := "<init>", desc := "([JI)V", sig := { parameters := [(.array .long), .int], returnType := none }, accessFlags := 2, code := some k4c1 }
def k4c2 : Code := { maxStack := 4, maxLocals := 1, code := prog_78_method_4_code, exceptionTable := #[], attributes := #[] }
def k4m2 : Method := { name := "ofBits", desc := "([J)Lcom/example/unseen_nodes/unseennodes/NodeSet;", sig := { parameters := [(.array .long)], returnType := some (.object "com/example/unseen_nodes/unseennodes/NodeSet") }, accessFlags := 8, code := some k4c2 }
def k4c3 : Code := { maxStack := 7, maxLocals := 3, code := prog_78_method_7_code, exceptionTable := #[], attributes := #[] }
def k4m3 : Method := { name := "set", desc := "(I)V", sig := { parameters := [.int], returnType := none }, accessFlags := 0, code := some k4c3 }
def k4c4 : Code := { maxStack := 8, maxLocals := 3, code := prog_78_method_10_code, exceptionTable := #[], attributes := #[] }
def k4m4 : Method := { name := "clear", desc := "(I)V", sig := { parameters := [.int], returnType := none }, accessFlags := 0, code := some k4c4 }
def k4c5 : Code := { maxStack := 1, maxLocals := 1, code := prog_78_method_18_code, exceptionTable := #[], attributes := #[] }
def k4m5 : Method := { name := "isEmpty", desc := "()Z", sig := { parameters := [], returnType := some .boolean }, accessFlags := 0, code := some k4c5 }
def k4c6 : Code := { maxStack := 6, maxLocals := 5, code := prog_78_method_23_code, exceptionTable := #[], attributes := #[] }
def k4m6 : Method := { name := "list", desc := "(I)V", sig := { parameters := [.int], returnType := none }, accessFlags := 2, code := some k4c6 }
def k4c7 : Code := { maxStack := 4, maxLocals := 1, code := prog_78_method_28_code, exceptionTable := #[], attributes := #[] }
def k4m7 : Method := { name := "trim", desc := "()V", sig := { parameters := [], returnType := none }, accessFlags := 2, code := some k4c7 }
/-- com/example/unseen_nodes/unseennodes/NodeSet -/
def k4 : Class := { plain "com/example/unseen_nodes/unseennodes/NodeSet" (some 0) with
  accessFlags := 32
  interfaces := #[2, 3]
  cf := some (fileOf pool4 8 #[] #[{ accessFlags := 0, nameIndex := 5, descriptorIndex := 6, attributes := #[] }, { accessFlags := 2, nameIndex := 5, descriptorIndex := 35, attributes := #[] }, { accessFlags := 8, nameIndex := 139, descriptorIndex := 140, attributes := #[] }, { accessFlags := 0, nameIndex := 68, descriptorIndex := 61, attributes := #[] }, { accessFlags := 0, nameIndex := 71, descriptorIndex := 61, attributes := #[] }, { accessFlags := 0, nameIndex := 110, descriptorIndex := 111, attributes := #[] }, { accessFlags := 2, nameIndex := 60, descriptorIndex := 61, attributes := #[] }, { accessFlags := 2, nameIndex := 29, descriptorIndex := 6, attributes := #[] }] 32 2 #[130, 132] #[{ accessFlags := 26, nameIndex := 134, descriptorIndex := 23, attributes := #[] }, { accessFlags := 26, nameIndex := 15, descriptorIndex := 16, attributes := #[] }, { accessFlags := 2, nameIndex := 11, descriptorIndex := 12, attributes := #[] }, { accessFlags := 2, nameIndex := 32, descriptorIndex := 23, attributes := #[] }, { accessFlags := 2, nameIndex := 19, descriptorIndex := 16, attributes := #[] }, { accessFlags := 2, nameIndex := 57, descriptorIndex := 23, attributes := #[] }, { accessFlags := 2, nameIndex := 26, descriptorIndex := 23, attributes := #[] }, { accessFlags := 2, nameIndex := 22, descriptorIndex := 23, attributes := #[] }])
  fields := #[{ name := "MOST_LISTED", type := .int, accessFlags := 26, slot := 0, constantValue := 0 }, { name := "NO_WORDS", type := (.array .long), accessFlags := 26, slot := 1, constantValue := 0 }, { name := "listed", type := (.array .int), accessFlags := 2, slot := 0, constantValue := 0 }, { name := "listedCount", type := .int, accessFlags := 2, slot := 1, constantValue := 0 }, { name := "words", type := (.array .long), accessFlags := 2, slot := 2, constantValue := 0 }, { name := "start", type := .int, accessFlags := 2, slot := 3, constantValue := 0 }, { name := "count", type := .int, accessFlags := 2, slot := 4, constantValue := 0 }, { name := "firstWord", type := .int, accessFlags := 2, slot := 5, constantValue := 0 }]
  methods := #[k4m0, k4m1, k4m2, k4m3, k4m4, k4m5, k4m6, k4m7]
  instanceTypes := #[(.array .int), .int, (.array .long), .int, .int, .int]
  staticTypes := #[.int, (.array .long)]
  resolved := Array.replicate 161 none
  statics := some 0 }

def pool5 : Array CpInfo := pool [(2, .class_ 4), (1, u "java/lang/Object"), (0, u "<init>"), (0, u "()V"), (6, .methodref 14 15), (0, .class_ 16), (0, .nameAndType 17 18), (0, u "java/util/Arrays"), (0, u "rangeCheck"), (0, u "(III)V"), (55, .class_ 76), (1, u "java/util/Arrays$NaturalOrder"), (36, .class_ 115), (1, u "java/util/Arrays$LegacyMergeSort"), (1, u "Z"), (89, u "binarySearch0"), (1, .methodref 14 210), (0, .nameAndType 207 211), (0, u "([IIII)I"), (163, .class_ 376), (0, u "java/util/Arrays$ArrayList"), (68, u "$assertionsDisabled"), (269, u "MIN_ARRAY_SORT_GRAN"), (0, u "I"), (2, u "INSERTIONSORT_THRESHOLD"), (74, u "binarySearch"), (180, .class_ 976), (0, u "java/util/Arrays$ArrayItr")] 52

def k5m0 : Method := { name := "<init>", desc := "()V", sig := { parameters := [], returnType := none }, accessFlags := 2, code := none }
def k5c1 : Code := { maxStack := 4, maxLocals := 3, code := jdk_65_method_30_code, exceptionTable := #[], attributes := #[] }
def k5m1 : Method := { name := "rangeCheck", desc := "(III)V", sig := { parameters := [.int, .int, .int], returnType := none }, accessFlags := 8, code := some k5c1 }
def k5c2 : Code := { maxStack := 4, maxLocals := 4, code := jdk_65_method_58_code, exceptionTable := #[], attributes := #[] }
def k5m2 : Method := { name := "binarySearch", desc := "([IIII)I", sig := { parameters := [(.array .int), .int, .int, .int], returnType := some .int }, accessFlags := 9, code := some k5c2 }
def k5c3 : Code := { maxStack := 2, maxLocals := 8, code := jdk_65_method_59_code, exceptionTable := #[], attributes := #[] }
def k5m3 : Method := { name := "binarySearch0", desc := "([IIII)I", sig := { parameters := [(.array .int), .int, .int, .int], returnType := some .int }, accessFlags := 10, code := some k5c3 }
/-- java/util/Arrays -/
def k5 : Class := { plain "java/util/Arrays" (some 0) with
  accessFlags := 49
  interfaces := #[]
  cf := some (fileOf pool5 14 #[.nestMembers #[975, 375, 113, 74]] #[{ accessFlags := 2, nameIndex := 5, descriptorIndex := 6, attributes := #[] }, { accessFlags := 8, nameIndex := 17, descriptorIndex := 18, attributes := #[] }, { accessFlags := 9, nameIndex := 794, descriptorIndex := 211, attributes := #[] }, { accessFlags := 10, nameIndex := 207, descriptorIndex := 211, attributes := #[] }] 49 2 #[] #[{ accessFlags := 26, nameIndex := 715, descriptorIndex := 716, attributes := #[] }, { accessFlags := 26, nameIndex := 719, descriptorIndex := 716, attributes := #[] }, { accessFlags := 4120, nameIndex := 445, descriptorIndex := 117, attributes := #[] }])
  fields := #[{ name := "MIN_ARRAY_SORT_GRAN", type := .int, accessFlags := 26, slot := 0, constantValue := 0 }, { name := "INSERTIONSORT_THRESHOLD", type := .int, accessFlags := 26, slot := 1, constantValue := 0 }, { name := "$assertionsDisabled", type := .boolean, accessFlags := 4120, slot := 2, constantValue := 0 }]
  methods := #[k5m0, k5m1, k5m2, k5m3]
  instanceTypes := #[]
  staticTypes := #[.int, .int, .boolean]
  resolved := Array.replicate 1029 none
  statics := none }

def pool6 : Array CpInfo := pool [(2, .class_ 4), (1, u "java/lang/Object"), (0, u "<init>"), (0, u "()V"), (1, .class_ 10), (1, u "java/lang/System"), (0, u "allowSecurityManager"), (0, u "I"), (16, u "cons"), (0, u "Ljava/io/Console;"), (77, .class_ 110), (1, u "java/lang/System$CallersHolder"), (43, u "initialErrStream"), (0, u "Ljava/io/PrintStream;"), (19, u "security"), (0, u "Ljava/lang/SecurityManager;"), (31, .class_ 209), (0, u "java/lang/System$1"), (7, u "props"), (0, u "Ljava/util/Properties;"), (2, u "lineSeparator"), (0, u "Ljava/lang/String;"), (96, .class_ 321), (1, u "java/lang/System$LoggerFinder"), (5, .class_ 328), (0, u "java/lang/System$Logger"), (67, u "err"), (2, u "out"), (91, u "notSupportedJnuEncoding"), (15, u "in"), (17, u "initialIn"), (0, u "Ljava/io/InputStream;"), (35, u "bootLayer"), (0, u "Ljava/lang/ModuleLayer;"), (99, .class_ 664), (0, u "java/lang/System$2"), (9, u "NEVER"), (2, u "MAYBE"), (49, u "arraycopy"), (0, u "(Ljava/lang/Object;ILjava/lang/Object;II)V"), (72, .class_ 802), (0, u "java/lang/System$Logger$Level")] 31

def k6m0 : Method := { name := "<init>", desc := "()V", sig := { parameters := [], returnType := none }, accessFlags := 2, code := none }
def k6m1 : Method := { name := "arraycopy", desc := "(Ljava/lang/Object;ILjava/lang/Object;II)V", sig := { parameters := [(.object "java/lang/Object"), .int, (.object "java/lang/Object"), .int, .int], returnType := none }, accessFlags := 265, code := none }
/-- java/lang/System -/
def k6 : Class := { plain "java/lang/System" (some 0) with
  accessFlags := 49
  interfaces := #[]
  cf := some (fileOf pool6 8 #[.nestMembers #[319, 327, 801, 108, 663, 208]] #[{ accessFlags := 2, nameIndex := 5, descriptorIndex := 6, attributes := #[] }, { accessFlags := 265, nameIndex := 727, descriptorIndex := 728, attributes := #[] }] 49 2 #[] #[{ accessFlags := 25, nameIndex := 507, descriptorIndex := 526, attributes := #[] }, { accessFlags := 25, nameIndex := 399, descriptorIndex := 155, attributes := #[] }, { accessFlags := 25, nameIndex := 396, descriptorIndex := 155, attributes := #[] }, { accessFlags := 10, nameIndex := 525, descriptorIndex := 526, attributes := #[] }, { accessFlags := 26, nameIndex := 674, descriptorIndex := 12, attributes := #[] }, { accessFlags := 26, nameIndex := 677, descriptorIndex := 12, attributes := #[] }, { accessFlags := 10, nameIndex := 11, descriptorIndex := 12, attributes := #[] }, { accessFlags := 74, nameIndex := 175, descriptorIndex := 176, attributes := #[] }, { accessFlags := 10, nameIndex := 491, descriptorIndex := 222, attributes := #[] }, { accessFlags := 74, nameIndex := 29, descriptorIndex := 30, attributes := #[] }, { accessFlags := 74, nameIndex := 154, descriptorIndex := 155, attributes := #[] }, { accessFlags := 10, nameIndex := 217, descriptorIndex := 218, attributes := #[] }, { accessFlags := 10, nameIndex := 221, descriptorIndex := 222, attributes := #[] }, { accessFlags := 8, nameIndex := 562, descriptorIndex := 563, attributes := #[] }])
  fields := #[{ name := "in", type := (.object "java/io/InputStream"), accessFlags := 25, slot := 0, constantValue := 0 }, { name := "out", type := (.object "java/io/PrintStream"), accessFlags := 25, slot := 1, constantValue := 0 }, { name := "err", type := (.object "java/io/PrintStream"), accessFlags := 25, slot := 2, constantValue := 0 }, { name := "initialIn", type := (.object "java/io/InputStream"), accessFlags := 10, slot := 3, constantValue := 0 }, { name := "NEVER", type := .int, accessFlags := 26, slot := 4, constantValue := 0 }, { name := "MAYBE", type := .int, accessFlags := 26, slot := 5, constantValue := 0 }, { name := "allowSecurityManager", type := .int, accessFlags := 10, slot := 6, constantValue := 0 }, { name := "security", type := (.object "java/lang/SecurityManager"), accessFlags := 74, slot := 7, constantValue := 0 }, { name := "notSupportedJnuEncoding", type := (.object "java/lang/String"), accessFlags := 10, slot := 8, constantValue := 0 }, { name := "cons", type := (.object "java/io/Console"), accessFlags := 74, slot := 9, constantValue := 0 }, { name := "initialErrStream", type := (.object "java/io/PrintStream"), accessFlags := 74, slot := 10, constantValue := 0 }, { name := "props", type := (.object "java/util/Properties"), accessFlags := 10, slot := 11, constantValue := 0 }, { name := "lineSeparator", type := (.object "java/lang/String"), accessFlags := 10, slot := 12, constantValue := 0 }, { name := "bootLayer", type := (.object "java/lang/ModuleLayer"), accessFlags := 8, slot := 13, constantValue := 0 }]
  methods := #[k6m0, k6m1]
  instanceTypes := #[]
  staticTypes := #[(.object "java/io/InputStream"), (.object "java/io/PrintStream"), (.object "java/io/PrintStream"), (.object "java/io/InputStream"), .int, .int, .int, (.object "java/lang/SecurityManager"), (.object "java/lang/String"), (.object "java/io/Console"), (.object "java/io/PrintStream"), (.object "java/util/Properties"), (.object "java/lang/String"), (.object "java/lang/ModuleLayer")]
  resolved := Array.replicate 834 none
  statics := none }

def pool7 : Array CpInfo := pool [(1, u "java/lang/Cloneable"), (0, .class_ 1), (0, u "java/lang/Object"), (0, .class_ 3)] 3

/-- java/lang/Cloneable -/
def k7 : Class := { plain "java/lang/Cloneable" (some 0) with
  accessFlags := 1537
  interfaces := #[]
  cf := some (fileOf pool7 2 #[] #[] 1537 4 #[] #[])
  fields := #[]
  methods := #[]
  instanceTypes := #[]
  staticTypes := #[]
  resolved := Array.replicate 8 none
  statics := none }

def pool8 : Array CpInfo := pool [(1, u "java/io/Serializable"), (0, .class_ 1), (0, u "java/lang/Object"), (0, .class_ 3)] 3

/-- java/io/Serializable -/
def k8 : Class := { plain "java/io/Serializable" (some 0) with
  accessFlags := 1537
  interfaces := #[]
  cf := some (fileOf pool8 2 #[] #[] 1537 4 #[] #[])
  fields := #[]
  methods := #[]
  instanceTypes := #[]
  staticTypes := #[]
  resolved := Array.replicate 8 none
  statics := none }

/-- the primitive byte -/
def k9 : Class := { plain "byte" none with kind := .primitive 'B', accessFlags := 0x411 }
/-- [B -/
def k10 : Class := { plain "[B" (some 0) with kind := .array 9 .byte, interfaces := #[7, 8], accessFlags := 1041 }

/-- the primitive int -/
def k11 : Class := { plain "int" none with kind := .primitive 'I', accessFlags := 0x411 }
/-- [I -/
def k12 : Class := { plain "[I" (some 0) with kind := .array 11 .int, interfaces := #[7, 8], accessFlags := 1041 }

/-- the primitive long -/
def k13 : Class := { plain "long" none with kind := .primitive 'J', accessFlags := 0x411 }
/-- [J -/
def k14 : Class := { plain "[J" (some 0) with kind := .array 13 .long, interfaces := #[7, 8], accessFlags := 1041 }

def heap : Heap := #[{ cls := 4, slots := #[.int 0, .ref 1], vm := .statics 4 },
  { cls := 14, slots := #[], vm := .none }]
def classes : Array Class := #[k0, k1, k2, k3, k4, k5, k6, k7, k8, k9, k10, k11, k12, k13, k14]
def interned : List (Array UInt16 × Addr) := []
def slotsUsed : Nat := 2
def theMethod : MethodId := ⟨1, 2⟩
def args0 : Array Value := #[.int 1, .int 3, .int 70, .int 3, .long 5, .long 6]
def aboutOver (below : List Frame) : State where
  vm := { classes := classes, interned := interned.toArray }
  heap := heap
  slotsUsed := slotsUsed
  threads := #[{ frames := .invoking theMethod args0 :: below }]
def below0 : List Frame := [.native { method := ⟨0, 0⟩, args := #[] }]
def about1 : State := aboutOver below0
def p0 : Program := .bare "" "" ""
def e0 : Env := launch0.env 0 0 0
theorem w_frames : about1.frames = Frame.invoking theMethod args0 :: below0 := rfl
set_option maxRecDepth 65536 in
theorem w_args : argsFit about1.vm theMethod args0 = true := by decide +kernel
set_option maxRecDepth 65536 in
theorem w_heap : heapFits about1 = true := by decide +kernel
set_option maxRecDepth 65536 in
theorem w_runnable : about1.curStatus? = some .runnable := by decide +kernel
set_option maxRecDepth 65536 in
theorem w_alone : about1.alone = true := by decide +kernel
set_option maxRecDepth 65536 in
theorem w_named : about1.methodNamed? x = some theMethod := by decide +kernel
set_option maxRecDepth 65536 in
theorem w_hears : about1.hears theMethod below0 = true := by decide +kernel
set_option maxRecDepth 65536 in
theorem w_ripe : about1.ripe theMethod args0 below0 = true := by decide +kernel
theorem w_running : about1.status = .running := rfl
set_option maxRecDepth 65536 in
theorem w_room : about1.hasRoom e0.platform room_1 = true :=
  launch0.hasRoom_least _ room_1 (by decide +kernel) (by decide +kernel) (by decide +kernel) (by decide +kernel) (by decide +kernel) (by decide +kernel)
theorem allAtoms_all (ts : List Jvm.Cond) (a : Array Jvm.Value) (st : Jvm.State) : (allAtoms ts).before a st = ts.all (fun c => c.before a st) := by
  induction ts with
  | nil => rfl
  | cons c t ih =>
    show (Jvm.Cond.and c (allAtoms t)).before a st = _
    rw [Jvm.Cond.before_and, ih, List.all_cons]
def words1 : List Jvm.Cond := Jvm.Cond.code x code maxLocals ret :: tables_1
/-- a 'code' word, met by the world's own term for the bytes: nothing is compared byte by byte -/
theorem code_word {y : MethodName} {bytes : ByteArray} {mx : Nat} {rt : Option FieldType} {a : Array Value} {s : State} {m : MethodId} {meth : Method} {c : Code} (h1 : s.methodNamed? y = some m) (h2 : s.vm.method? m = some meth) (h3 : meth.code = some c) (h4 : c.code = bytes)
    (h5 : (c.maxLocals == mx && c.exceptionTable.isEmpty && decide (c.maxStack ≤ mostOperands) && decide (meth.sig.returnType = rt) && !meth.locks && decide (parseMethodDescriptor y.desc = some meth.sig)) = true) : (Jvm.Cond.code y bytes mx rt).before a s = true := by
  simp only [Bool.and_eq_true, beq_iff_eq, Bool.not_eq_true', decide_eq_true_eq] at h5
  obtain ⟨⟨⟨⟨⟨g1, g2⟩, g3⟩, g4⟩, g5⟩, g6⟩ := h5
  simp [Cond.before, Cond.holds, Cond.value, h1, h2, h3, h4, g1, g2, g3, g4, g5, g6]
def isCode : Jvm.Cond → Bool
  | .code _ _ _ _ => true
  | _ => false
theorem all_split {L : List Jvm.Cond} {P : Jvm.Cond → Bool} (h1 : L.all (fun c => isCode c || P c) = true) (h2 : ∀ c ∈ L.filter isCode, P c = true) : L.all P = true := by
  refine List.all_eq_true.mpr fun c hc => ?_
  have h := List.all_eq_true.mp h1 c hc
  rcases Bool.eq_false_or_eq_true (isCode c) with hi | hi
  · exact h2 c (List.mem_filter.mpr ⟨hc, hi⟩)
  · simpa [hi] using h
set_option maxRecDepth 65536 in
theorem w_c0 : (Jvm.Cond.code x code maxLocals ret).before args0 about1 = true := code_word (m := ⟨1, 2⟩) (meth := k1m2) (c := k1c2) (by decide +kernel) rfl rfl rfl (by decide +kernel)
set_option maxRecDepth 65536 in
theorem w_c1 : (Jvm.Cond.code ({ cls := "com/example/unseen_nodes/unseennodes/NodeSet", name := "<init>", desc := "()V" } : Jvm.MethodName) prog_78_method_1_code (1 : Nat) (Option.none : Option Jvm.ClassFile.FieldType)).before args0 about1 = true := code_word (m := ⟨4, 0⟩) (meth := k4m0) (c := k4c0) (by decide +kernel) rfl rfl rfl (by decide +kernel)
set_option maxRecDepth 65536 in
theorem w_c2 : (Jvm.Cond.code ({ cls := "java/lang/Object", name := "<init>", desc := "()V" } : Jvm.MethodName) object_method_1_code (1 : Nat) (Option.none : Option Jvm.ClassFile.FieldType)).before args0 about1 = true := code_word (m := ⟨0, 0⟩) (meth := k0m0) (c := k0c0) (by decide +kernel) rfl rfl rfl (by decide +kernel)
set_option maxRecDepth 65536 in
theorem w_c3 : (Jvm.Cond.code ({ cls := "com/example/unseen_nodes/unseennodes/NodeSet", name := "clear", desc := "(I)V" } : Jvm.MethodName) prog_78_method_10_code (3 : Nat) (Option.none : Option Jvm.ClassFile.FieldType)).before args0 about1 = true := code_word (m := ⟨4, 4⟩) (meth := k4m4) (c := k4c4) (by decide +kernel) rfl rfl rfl (by decide +kernel)
set_option maxRecDepth 65536 in
theorem w_c4 : (Jvm.Cond.code ({ cls := "java/util/Arrays", name := "binarySearch", desc := "([IIII)I" } : Jvm.MethodName) jdk_65_method_58_code (4 : Nat) (Option.some Jvm.ClassFile.FieldType.int)).before args0 about1 = true := code_word (m := ⟨5, 2⟩) (meth := k5m2) (c := k5c2) (by decide +kernel) rfl rfl rfl (by decide +kernel)
set_option maxRecDepth 65536 in
theorem w_c5 : (Jvm.Cond.code ({ cls := "java/util/Arrays", name := "rangeCheck", desc := "(III)V" } : Jvm.MethodName) jdk_65_method_30_code (3 : Nat) (Option.none : Option Jvm.ClassFile.FieldType)).before args0 about1 = true := code_word (m := ⟨5, 1⟩) (meth := k5m1) (c := k5c1) (by decide +kernel) rfl rfl rfl (by decide +kernel)
set_option maxRecDepth 65536 in
theorem w_c6 : (Jvm.Cond.code ({ cls := "java/util/Arrays", name := "binarySearch0", desc := "([IIII)I" } : Jvm.MethodName) jdk_65_method_59_code (8 : Nat) (Option.some Jvm.ClassFile.FieldType.int)).before args0 about1 = true := code_word (m := ⟨5, 3⟩) (meth := k5m3) (c := k5c3) (by decide +kernel) rfl rfl rfl (by decide +kernel)
set_option maxRecDepth 65536 in
theorem w_c7 : (Jvm.Cond.code ({ cls := "com/example/unseen_nodes/unseennodes/NodeSet", name := "isEmpty", desc := "()Z" } : Jvm.MethodName) prog_78_method_18_code (1 : Nat) (Option.some Jvm.ClassFile.FieldType.boolean)).before args0 about1 = true := code_word (m := ⟨4, 5⟩) (meth := k4m5) (c := k4c5) (by decide +kernel) rfl rfl rfl (by decide +kernel)
set_option maxRecDepth 65536 in
theorem w_c8 : (Jvm.Cond.code ({ cls := "com/example/unseen_nodes/unseennodes/NodeSet", name := "ofBits", desc := "([J)Lcom/example/unseen_nodes/unseennodes/NodeSet;" } : Jvm.MethodName) prog_78_method_4_code (1 : Nat) (Option.some (Jvm.ClassFile.FieldType.object "com/example/unseen_nodes/unseennodes/NodeSet"))).before args0 about1 = true := code_word (m := ⟨4, 2⟩) (meth := k4m2) (c := k4c2) (by decide +kernel) rfl rfl rfl (by decide +kernel)
set_option maxRecDepth 65536 in
theorem w_c9 : (Jvm.Cond.code ({ cls := "com/example/unseen_nodes/unseennodes/NodeSet", name := "<init>", desc := "([JI)V" } : Jvm.MethodName) prog_78_method_2_code (3 : Nat) (Option.none : Option Jvm.ClassFile.FieldType)).before args0 about1 = true := code_word (m := ⟨4, 1⟩) (meth := k4m1) (c := k4c1) (by decide +kernel) rfl rfl rfl (by decide +kernel)
set_option maxRecDepth 65536 in
theorem w_c10 : (Jvm.Cond.code ({ cls := "com/example/unseen_nodes/unseennodes/NodeSet", name := "trim", desc := "()V" } : Jvm.MethodName) prog_78_method_28_code (1 : Nat) (Option.none : Option Jvm.ClassFile.FieldType)).before args0 about1 = true := code_word (m := ⟨4, 7⟩) (meth := k4m7) (c := k4c7) (by decide +kernel) rfl rfl rfl (by decide +kernel)
set_option maxRecDepth 65536 in
theorem w_c11 : (Jvm.Cond.code ({ cls := "com/example/unseen_nodes/unseennodes/NodeSetIsEmptyPinLaw", name := "bit", desc := "(II)J" } : Jvm.MethodName) method_2_code (2 : Nat) (Option.some Jvm.ClassFile.FieldType.long)).before args0 about1 = true := code_word (m := ⟨1, 1⟩) (meth := k1m1) (c := k1c1) (by decide +kernel) rfl rfl rfl (by decide +kernel)
set_option maxRecDepth 65536 in
theorem w_c12 : (Jvm.Cond.code ({ cls := "com/example/unseen_nodes/unseennodes/NodeSet", name := "set", desc := "(I)V" } : Jvm.MethodName) prog_78_method_7_code (3 : Nat) (Option.none : Option Jvm.ClassFile.FieldType)).before args0 about1 = true := code_word (m := ⟨4, 3⟩) (meth := k4m3) (c := k4c3) (by decide +kernel) rfl rfl rfl (by decide +kernel)
set_option maxRecDepth 65536 in
theorem w_c13 : (Jvm.Cond.code ({ cls := "com/example/unseen_nodes/unseennodes/NodeSet", name := "list", desc := "(I)V" } : Jvm.MethodName) prog_78_method_23_code (5 : Nat) (Option.none : Option Jvm.ClassFile.FieldType)).before args0 about1 = true := code_word (m := ⟨4, 6⟩) (meth := k4m6) (c := k4c6) (by decide +kernel) rfl rfl rfl (by decide +kernel)
def codes1 : List Jvm.Cond := [Jvm.Cond.code x code maxLocals ret, Jvm.Cond.code ({ cls := "com/example/unseen_nodes/unseennodes/NodeSet", name := "<init>", desc := "()V" } : Jvm.MethodName) prog_78_method_1_code (1 : Nat) (Option.none : Option Jvm.ClassFile.FieldType), Jvm.Cond.code ({ cls := "java/lang/Object", name := "<init>", desc := "()V" } : Jvm.MethodName) object_method_1_code (1 : Nat) (Option.none : Option Jvm.ClassFile.FieldType), Jvm.Cond.code ({ cls := "com/example/unseen_nodes/unseennodes/NodeSet", name := "clear", desc := "(I)V" } : Jvm.MethodName) prog_78_method_10_code (3 : Nat) (Option.none : Option Jvm.ClassFile.FieldType), Jvm.Cond.code ({ cls := "java/util/Arrays", name := "binarySearch", desc := "([IIII)I" } : Jvm.MethodName) jdk_65_method_58_code (4 : Nat) (Option.some Jvm.ClassFile.FieldType.int), Jvm.Cond.code ({ cls := "java/util/Arrays", name := "rangeCheck", desc := "(III)V" } : Jvm.MethodName) jdk_65_method_30_code (3 : Nat) (Option.none : Option Jvm.ClassFile.FieldType), Jvm.Cond.code ({ cls := "java/util/Arrays", name := "binarySearch0", desc := "([IIII)I" } : Jvm.MethodName) jdk_65_method_59_code (8 : Nat) (Option.some Jvm.ClassFile.FieldType.int), Jvm.Cond.code ({ cls := "com/example/unseen_nodes/unseennodes/NodeSet", name := "isEmpty", desc := "()Z" } : Jvm.MethodName) prog_78_method_18_code (1 : Nat) (Option.some Jvm.ClassFile.FieldType.boolean), Jvm.Cond.code ({ cls := "com/example/unseen_nodes/unseennodes/NodeSet", name := "ofBits", desc := "([J)Lcom/example/unseen_nodes/unseennodes/NodeSet;" } : Jvm.MethodName) prog_78_method_4_code (1 : Nat) (Option.some (Jvm.ClassFile.FieldType.object "com/example/unseen_nodes/unseennodes/NodeSet")), Jvm.Cond.code ({ cls := "com/example/unseen_nodes/unseennodes/NodeSet", name := "<init>", desc := "([JI)V" } : Jvm.MethodName) prog_78_method_2_code (3 : Nat) (Option.none : Option Jvm.ClassFile.FieldType), Jvm.Cond.code ({ cls := "com/example/unseen_nodes/unseennodes/NodeSet", name := "trim", desc := "()V" } : Jvm.MethodName) prog_78_method_28_code (1 : Nat) (Option.none : Option Jvm.ClassFile.FieldType), Jvm.Cond.code ({ cls := "com/example/unseen_nodes/unseennodes/NodeSetIsEmptyPinLaw", name := "bit", desc := "(II)J" } : Jvm.MethodName) method_2_code (2 : Nat) (Option.some Jvm.ClassFile.FieldType.long), Jvm.Cond.code ({ cls := "com/example/unseen_nodes/unseennodes/NodeSet", name := "set", desc := "(I)V" } : Jvm.MethodName) prog_78_method_7_code (3 : Nat) (Option.none : Option Jvm.ClassFile.FieldType), Jvm.Cond.code ({ cls := "com/example/unseen_nodes/unseennodes/NodeSet", name := "list", desc := "(I)V" } : Jvm.MethodName) prog_78_method_23_code (5 : Nat) (Option.none : Option Jvm.ClassFile.FieldType)]
set_option maxRecDepth 65536 in
theorem codes_eq : words1.filter isCode = codes1 := rfl
theorem w_codes : ∀ c ∈ words1.filter isCode, c.before args0 about1 = true := by
  rw [codes_eq]
  intro c hc
  simp only [codes1, List.mem_cons, List.not_mem_nil, or_false] at hc
  rcases hc with rfl | rfl | rfl | rfl | rfl | rfl | rfl | rfl | rfl | rfl | rfl | rfl | rfl | rfl
  · exact w_c0
  · exact w_c1
  · exact w_c2
  · exact w_c3
  · exact w_c4
  · exact w_c5
  · exact w_c6
  · exact w_c7
  · exact w_c8
  · exact w_c9
  · exact w_c10
  · exact w_c11
  · exact w_c12
  · exact w_c13
set_option maxRecDepth 65536 in
theorem w_t1 : (words1.take 24).all (fun c => isCode c || c.before args0 about1) = true := by decide +kernel
set_option maxRecDepth 65536 in
theorem w_t2 : ((words1.drop 24).take 24).all (fun c => isCode c || c.before args0 about1) = true := by decide +kernel
set_option maxRecDepth 65536 in
theorem w_t3 : (((words1.drop 24).drop 24).take 24).all (fun c => isCode c || c.before args0 about1) = true := by decide +kernel
set_option maxRecDepth 65536 in
theorem w_t4 : (((words1.drop 24).drop 24).drop 24).all (fun c => isCode c || c.before args0 about1) = true := by decide +kernel
theorem w_tables : (allAtoms (Jvm.Cond.code x code maxLocals ret :: tables_1)).before args0 about1 = true := by
  rw [allAtoms_all]
  show words1.all (fun c => c.before args0 about1) = true
  refine all_split ?_ w_codes
  rw [← List.take_append_drop 24 words1, List.all_append, w_t1, ← List.take_append_drop 24 (words1.drop 24), List.all_append, w_t2, ← List.take_append_drop 24 ((words1.drop 24).drop 24), List.all_append, w_t3, w_t4]
  rfl
set_option maxRecDepth 65536 in
theorem w_case : (Jvm.Cond.and given_1 narrow_1).before args0 about1 = true := by decide +kernel
theorem w_applies : (headSpec (Jvm.Cond.code x code maxLocals ret :: tables_1) room_1).applies x e0.platform about1 = true :=
  (Spec.applies_iff w_frames).mpr ⟨w_running, w_runnable, w_alone, w_named, w_hears, w_ripe, w_room, w_tables⟩
theorem atStart : AtStart classFile x code maxLocals ret World_1 tables_1 room_1 Calls_1 rest_1 Pre_1 launch0 p0 e0 about1 theMethod args0 below0 :=
  ⟨lists_1, trivial, launch0.admits_env _ _ _, launch0.least_env, fairChoices_fair.cas, fairChoices_fair.clock, w_frames, w_args, w_heap, w_applies, trivial, trivial, w_case⟩
end start1
theorem witness_1 : WitnessClaimed_1 := ⟨start1.p0, start1.e0, start1.about1, start1.theMethod, start1.args0, start1.below0, start1.atStart⟩
end Jvm.Pilot.@@N@@

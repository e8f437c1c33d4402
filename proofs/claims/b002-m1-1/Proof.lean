import JvmDerived
import JvmDerived.Pilot.@@N@@Statement
import JvmDerived.Pilot.@@N@@Code
set_option linter.unusedVariables false
set_option linter.unusedSimpArgs false
namespace Jvm.OwnWp
open Sem ClassFile Op Lib Jvm.Stand Jvm.Free Jvm.LawKit Jvm.RoadKit
/-- what holds of the method that is walked: its bytes, its class, its tables -/
def Cx (Z : State) (own nm : String) (bytes : ByteArray) (ml : Nat) (ret : Option FieldType) (p : Program) (s : State) (m : MethodId) (meth : Method) (c : Code) : Prop :=
  p.tables.exec = Jvm.exec ∧ Z.Warmed39 s.vm ∧ s.vm.findClass own = some m.cls ∧ c.code = bytes ∧ c.maxLocals = ml ∧ meth.sig.returnType = ret ∧ meth.locks = false ∧ meth.name = nm
/-- from the frame g over the heap h the method returns v at a heap of which Q holds; it has written fresh places alone -/
def Go (p : Program) (l : Launch) (e : Env) (R : Room) (s : State) (m : MethodId) (args : Array Value) (below : List Frame) (meth : Method) (c : Code) (n0 : Nat) (h : Heap) (ce sl : Nat) (g : JFrame) (Q : Option Value → Heap → Prop) : Prop :=
  ∀ (T : State) (L : List Loc), Stand p l e R s m args below meth c T L ce sl → Fr n0 L → T.heap = h →
    ∃ (s₂ : State) (v : Option Value) (L' : List Loc), Steps p.tables e below (T.setTop g) s₂ ∧ s₂.status = .running ∧ Ended s₂ below (.returned v) ∧ Fr n0 L' ∧ Q v s₂.heap ∧ FrameEnd s (.returned v) s₂ L' R.cells R.slots
/-- the contract of a method: called with the values as' over the heap h it returns as Q says -/
def Ctr (l : Launch) (Z : State) (y : MethodName) (bytes : ByteArray) (ml : Nat) (ret : Option FieldType) (ws : List Cond) (rm : Room) (n0 : Nat) (as' : Array Value) (h : Heap) (Q : Option Value → Heap → Prop) : Prop :=
  MetFree l y (head1 (Cond.code y bytes ml ret :: ws) rm) (fun a U => a = as' ∧ Z.Warmed39 U.vm ∧ U.heap = h) (fun _ _ _ _ _ => True) (fun _ U o U' => ∃ v L, o = .returned v ∧ (Q v U'.heap ∧ Fr n0 L) ∧ FrameEnd U o U' L rm.cells rm.slots)
section Walk
variable {p : Program} {l : Launch} {e : Env} {R : Room} {s : State} {m : MethodId} {args : Array Value} {below : List Frame} {meth : Method} {c : Code} {Z : State} {a0 : Array Value} {own nm : String} {bytes : ByteArray} {ml : Nat} {ret : Option FieldType} {n0 ce sl pc pc' : Nat} {h : Heap} {Ls Ls' : Array Slot} {S : List Value} {Q : Option Value → Heap → Prop}
theorem one {g g' : JFrame} (st : ∀ (T : State) (L : List Loc), Stand p l e R s m args below meth c T L ce sl → T.heap = h → ∀ t, Steps p.tables e below (T.setTop g') t → Steps p.tables e below (T.setTop g) t) (q : Go p l e R s m args below meth c n0 h ce sl g' Q) : Go p l e R s m args below meth c n0 h ce sl g Q := fun T L X N eT => by
  obtain ⟨s₂, v, L', a1, r⟩ := q T L X N eT
  exact ⟨s₂, v, L', st T L X eT _ a1, r⟩
/-- a step that goes to another state over the same heap -/
theorem oneT {g g' : JFrame} (st : ∀ (T : State) (L : List Loc), Stand p l e R s m args below meth c T L ce sl → T.heap = h → ∃ T', Stand p l e R s m args below meth c T' L ce sl ∧ T'.heap = h ∧ ∀ t, Steps p.tables e below (T'.setTop g') t → Steps p.tables e below (T.setTop g) t) (q : Go p l e R s m args below meth c n0 h ce sl g' Q) : Go p l e R s m args below meth c n0 h ce sl g Q := fun T L X N eT => by
  obtain ⟨T', X', eT', k⟩ := st T L X eT
  obtain ⟨s₂, v, L', a1, r⟩ := q T' L X' N eT'
  exact ⟨s₂, v, L', k _ a1, r⟩
theorem Go.cast {g g' : JFrame} (q : g = g') (k : Go p l e R s m args below meth c n0 h ce sl g' Q) : Go p l e R s m args below meth c n0 h ce sl g Q := q ▸ k
theorem Go.mono {g : JFrame} {Q' : Option Value → Heap → Prop} (k : Go p l e R s m args below meth c n0 h ce sl g Q') (q : ∀ v h, Q' v h → Q v h) : Go p l e R s m args below meth c n0 h ce sl g Q := fun T L X N eT => by
  obtain ⟨s₂, v, L', a1, a2, a3, a4, a5, r⟩ := k T L X N eT
  exact ⟨s₂, v, L', a1, a2, a3, a4, q _ _ a5, r⟩

theorem iloadN (K : Cx Z own nm bytes ml ret p s m meth c) {k : Fin 4} {v : Int32} (hd : decode bytes pc = .ok (.iload_n k, 1)) (hl : Ls[k.val]? = some (.val (.int v))) (hp : pc + 1 = pc') (q : Go p l e R s m args below meth c n0 h ce sl (mkF m pc' Ls (.int v :: S)) Q) : Go p l e R s m args below meth c n0 h ce sl (mkF m pc Ls S) Q := by
  subst hp; exact one (fun T L X _ t => Jvm.Free.XS.iloadN X.here K.1 rfl (hb K.2.2.2.1 hd) hl) q
theorem iload (K : Cx Z own nm bytes ml ret p s m meth c) {k : Nat} {v : Int32} (hd : decode bytes pc = .ok (.iload k, 2)) (hl : Ls[k]? = some (.val (.int v))) (hp : pc + 2 = pc') (q : Go p l e R s m args below meth c n0 h ce sl (mkF m pc' Ls (.int v :: S)) Q) : Go p l e R s m args below meth c n0 h ce sl (mkF m pc Ls S) Q := by
  subst hp; exact one (fun T L X _ t => Jvm.Free.XS.iload X.here K.1 rfl (hb K.2.2.2.1 hd) hl) q
theorem istoreN (K : Cx Z own nm bytes ml ret p s m meth c) {k : Fin 4} {v : Int32} (hd : decode bytes pc = .ok (.istore_n k, 1)) (hl : storeLocals Ls k.val (.int v) = some Ls') (hp : pc + 1 = pc') (q : Go p l e R s m args below meth c n0 h ce sl (mkF m pc' Ls' S) Q) : Go p l e R s m args below meth c n0 h ce sl (mkF m pc Ls (.int v :: S)) Q := by
  subst hp; exact one (fun T L X _ t => Jvm.Free.XS.istoreN X.here K.1 rfl (hb K.2.2.2.1 hd) rfl hl) q
theorem istore (K : Cx Z own nm bytes ml ret p s m meth c) {k : Nat} {v : Int32} (hd : decode bytes pc = .ok (.istore k, 2)) (hl : storeLocals Ls k (.int v) = some Ls') (hp : pc + 2 = pc') (q : Go p l e R s m args below meth c n0 h ce sl (mkF m pc' Ls' S) Q) : Go p l e R s m args below meth c n0 h ce sl (mkF m pc Ls (.int v :: S)) Q := by
  subst hp; exact one (fun T L X _ t => Jvm.Free.XS.istore X.here K.1 rfl (hb K.2.2.2.1 hd) rfl hl) q
theorem lloadN (K : Cx Z own nm bytes ml ret p s m meth c) {k : Fin 4} {v : Int64} (hd : decode bytes pc = .ok (.lload_n k, 1)) (hl : Ls[k.val]? = some (.val (.long v))) (hp : pc + 1 = pc') (q : Go p l e R s m args below meth c n0 h ce sl (mkF m pc' Ls (.long v :: S)) Q) : Go p l e R s m args below meth c n0 h ce sl (mkF m pc Ls S) Q := by
  subst hp; exact one (fun T L X _ t => Jvm.Free.XT.lloadN X.here K.1 rfl (hb K.2.2.2.1 hd) hl) q
theorem lload (K : Cx Z own nm bytes ml ret p s m meth c) {k : Nat} {v : Int64} (hd : decode bytes pc = .ok (.lload k, 2)) (hl : Ls[k]? = some (.val (.long v))) (hp : pc + 2 = pc') (q : Go p l e R s m args below meth c n0 h ce sl (mkF m pc' Ls (.long v :: S)) Q) : Go p l e R s m args below meth c n0 h ce sl (mkF m pc Ls S) Q := by
  subst hp; exact one (fun T L X _ t => Jvm.Free.XT.lload X.here K.1 rfl (hb K.2.2.2.1 hd) hl) q
theorem lstoreN (K : Cx Z own nm bytes ml ret p s m meth c) {k : Fin 4} {v : Int64} (hd : decode bytes pc = .ok (.lstore_n k, 1)) (hl : storeLocals Ls k.val (.long v) = some Ls') (hp : pc + 1 = pc') (q : Go p l e R s m args below meth c n0 h ce sl (mkF m pc' Ls' S) Q) : Go p l e R s m args below meth c n0 h ce sl (mkF m pc Ls (.long v :: S)) Q := by
  subst hp; exact one (fun T L X _ t => Jvm.Free.XT.lstoreN X.here K.1 rfl (hb K.2.2.2.1 hd) rfl hl) q
theorem lstore (K : Cx Z own nm bytes ml ret p s m meth c) {k : Nat} {v : Int64} (hd : decode bytes pc = .ok (.lstore k, 2)) (hl : storeLocals Ls k (.long v) = some Ls') (hp : pc + 2 = pc') (q : Go p l e R s m args below meth c n0 h ce sl (mkF m pc' Ls' S) Q) : Go p l e R s m args below meth c n0 h ce sl (mkF m pc Ls (.long v :: S)) Q := by
  subst hp; exact one (fun T L X _ t => Jvm.Free.XT.lstore X.here K.1 rfl (hb K.2.2.2.1 hd) rfl hl) q
theorem dloadN (K : Cx Z own nm bytes ml ret p s m meth c) {k : Fin 4} {v : UInt64} (hd : decode bytes pc = .ok (.dload_n k, 1)) (hl : Ls[k.val]? = some (.val (.double v))) (hp : pc + 1 = pc') (q : Go p l e R s m args below meth c n0 h ce sl (mkF m pc' Ls (.double v :: S)) Q) : Go p l e R s m args below meth c n0 h ce sl (mkF m pc Ls S) Q := by
  subst hp; exact one (fun T L X _ t => Jvm.Free.XS.dloadN X.here K.1 rfl (hb K.2.2.2.1 hd) hl) q
theorem dload (K : Cx Z own nm bytes ml ret p s m meth c) {k : Nat} {v : UInt64} (hd : decode bytes pc = .ok (.dload k, 2)) (hl : Ls[k]? = some (.val (.double v))) (hp : pc + 2 = pc') (q : Go p l e R s m args below meth c n0 h ce sl (mkF m pc' Ls (.double v :: S)) Q) : Go p l e R s m args below meth c n0 h ce sl (mkF m pc Ls S) Q := by
  subst hp; exact one (fun T L X _ t => Jvm.Free.XS.dload X.here K.1 rfl (hb K.2.2.2.1 hd) hl) q
theorem dstoreN (K : Cx Z own nm bytes ml ret p s m meth c) {k : Fin 4} {v : UInt64} (hd : decode bytes pc = .ok (.dstore_n k, 1)) (hl : storeLocals Ls k.val (.double v) = some Ls') (hp : pc + 1 = pc') (q : Go p l e R s m args below meth c n0 h ce sl (mkF m pc' Ls' S) Q) : Go p l e R s m args below meth c n0 h ce sl (mkF m pc Ls (.double v :: S)) Q := by
  subst hp; exact one (fun T L X _ t => Jvm.Free.XS.dstoreN X.here K.1 rfl (hb K.2.2.2.1 hd) rfl hl) q
theorem dstore (K : Cx Z own nm bytes ml ret p s m meth c) {k : Nat} {v : UInt64} (hd : decode bytes pc = .ok (.dstore k, 2)) (hl : storeLocals Ls k (.double v) = some Ls') (hp : pc + 2 = pc') (q : Go p l e R s m args below meth c n0 h ce sl (mkF m pc' Ls' S) Q) : Go p l e R s m args below meth c n0 h ce sl (mkF m pc Ls (.double v :: S)) Q := by
  subst hp; exact one (fun T L X _ t => Jvm.Free.XS.dstore X.here K.1 rfl (hb K.2.2.2.1 hd) rfl hl) q
theorem aloadN (K : Cx Z own nm bytes ml ret p s m meth c) {k : Fin 4} {v : Value} (hd : decode bytes pc = .ok (.aload_n k, 1)) (hl : Ls[k.val]? = some (.val v)) (hv : v.isRef = true) (hp : pc + 1 = pc') (q : Go p l e R s m args below meth c n0 h ce sl (mkF m pc' Ls (v :: S)) Q) : Go p l e R s m args below meth c n0 h ce sl (mkF m pc Ls S) Q := by
  subst hp; exact one (fun T L X _ t => Jvm.Free.XS.aloadN X.here K.1 rfl (hb K.2.2.2.1 hd) hl hv) q
theorem aload (K : Cx Z own nm bytes ml ret p s m meth c) {k : Nat} {v : Value} (hd : decode bytes pc = .ok (.aload k, 2)) (hl : Ls[k]? = some (.val v)) (hv : v.isRef = true) (hp : pc + 2 = pc') (q : Go p l e R s m args below meth c n0 h ce sl (mkF m pc' Ls (v :: S)) Q) : Go p l e R s m args below meth c n0 h ce sl (mkF m pc Ls S) Q := by
  subst hp; exact one (fun T L X _ t => Jvm.Free.XS.aload X.here K.1 rfl (hb K.2.2.2.1 hd) hl hv) q
theorem astoreN (K : Cx Z own nm bytes ml ret p s m meth c) {k : Fin 4} {v : Value} (hd : decode bytes pc = .ok (.astore_n k, 1)) (hv : v.isRef = true) (hl : storeLocals Ls k.val v = some Ls') (hp : pc + 1 = pc') (q : Go p l e R s m args below meth c n0 h ce sl (mkF m pc' Ls' S) Q) : Go p l e R s m args below meth c n0 h ce sl (mkF m pc Ls (v :: S)) Q := by
  subst hp; exact one (fun T L X _ t => Jvm.Free.XS.astoreN X.here K.1 rfl (hb K.2.2.2.1 hd) rfl hv hl) q
theorem astore (K : Cx Z own nm bytes ml ret p s m meth c) {k : Nat} {v : Value} (hd : decode bytes pc = .ok (.astore k, 2)) (hv : v.isRef = true) (hl : storeLocals Ls k v = some Ls') (hp : pc + 2 = pc') (q : Go p l e R s m args below meth c n0 h ce sl (mkF m pc' Ls' S) Q) : Go p l e R s m args below meth c n0 h ce sl (mkF m pc Ls (v :: S)) Q := by
  subst hp; exact one (fun T L X _ t => Jvm.Free.XS.astore X.here K.1 rfl (hb K.2.2.2.1 hd) rfl hv hl) q
theorem iconst (K : Cx Z own nm bytes ml ret p s m meth c) {i : Int} (v : Int32) (hd : decode bytes pc = .ok (.iconst i, 1)) (hv : Int32.ofInt i = v) (hp : pc + 1 = pc') (q : Go p l e R s m args below meth c n0 h ce sl (mkF m pc' Ls (.int v :: S)) Q) : Go p l e R s m args below meth c n0 h ce sl (mkF m pc Ls S) Q := by
  subst hp; exact one (fun T L X _ t => Jvm.Free.XT.iconstV X.here K.1 rfl v (hb K.2.2.2.1 hd) hv) q
theorem bipush (K : Cx Z own nm bytes ml ret p s m meth c) {i : Int} (v : Int32) (hd : decode bytes pc = .ok (.bipush i, 2)) (hv : (Int8.ofInt i).toInt32 = v) (hp : pc + 2 = pc') (q : Go p l e R s m args below meth c n0 h ce sl (mkF m pc' Ls (.int v :: S)) Q) : Go p l e R s m args below meth c n0 h ce sl (mkF m pc Ls S) Q := by
  subst hp; exact one (fun T L X _ t => Jvm.Free.XT.bipushV X.here K.1 rfl v (hb K.2.2.2.1 hd) hv) q
theorem sipush (K : Cx Z own nm bytes ml ret p s m meth c) {i : Int} (v : Int32) (hd : decode bytes pc = .ok (.sipush i, 3)) (hv : (Int16.ofInt i).toInt32 = v) (hp : pc + 3 = pc') (q : Go p l e R s m args below meth c n0 h ce sl (mkF m pc' Ls (.int v :: S)) Q) : Go p l e R s m args below meth c n0 h ce sl (mkF m pc Ls S) Q := by
  subst hp; exact one (fun T L X _ t => Jvm.Free.XT.sipushV X.here K.1 rfl v (hb K.2.2.2.1 hd) hv) q
theorem lconst (K : Cx Z own nm bytes ml ret p s m meth c) {i : Fin 2} (v : Int64) (hd : decode bytes pc = .ok (.lconst i, 1)) (hv : Int64.ofNat i = v) (hp : pc + 1 = pc') (q : Go p l e R s m args below meth c n0 h ce sl (mkF m pc' Ls (.long v :: S)) Q) : Go p l e R s m args below meth c n0 h ce sl (mkF m pc Ls S) Q := by
  subst hp; exact one (fun T L X _ t => Jvm.Free.XT.lconstV X.here K.1 rfl v (hb K.2.2.2.1 hd) hv) q
theorem istoreS (K : Cx Z own nm bytes ml ret p s m meth c) {k : Nat} {x : Int32} {o : Slot} (hd : decode bytes pc = .ok (.istore k, 2)) (hold : Ls[k]? = some o) (ho : One o) (hl : Ls.setIfInBounds k (.val (.int x)) = Ls') (hp : pc + 2 = pc') (q : Go p l e R s m args below meth c n0 h ce sl (mkF m pc' Ls' S) Q) : Go p l e R s m args below meth c n0 h ce sl (mkF m pc Ls (.int x :: S)) Q := by
  subst hp hl; exact one (fun T L X _ t => Jvm.Free.XS.istoreS X.here K.1 rfl (hb K.2.2.2.1 hd) rfl hold ho) q
theorem dconst0 (K : Cx Z own nm bytes ml ret p s m meth c) {v : UInt64} (hd : decode bytes pc = .ok (.dconst 0, 1)) (hv : FP.dconst0 = v) (hp : pc + 1 = pc') (q : Go p l e R s m args below meth c n0 h ce sl (mkF m pc' Ls (.double v :: S)) Q) : Go p l e R s m args below meth c n0 h ce sl (mkF m pc Ls S) Q := by
  subst hp; exact one (fun T L X _ t => Jvm.Free.XS.dconst0 X.here K.1 rfl (hb K.2.2.2.1 hd) hv) q
theorem dconst1 (K : Cx Z own nm bytes ml ret p s m meth c) {v : UInt64} (hd : decode bytes pc = .ok (.dconst 1, 1)) (hv : FP.dconst1 = v) (hp : pc + 1 = pc') (q : Go p l e R s m args below meth c n0 h ce sl (mkF m pc' Ls (.double v :: S)) Q) : Go p l e R s m args below meth c n0 h ce sl (mkF m pc Ls S) Q := by
  subst hp; exact one (fun T L X _ t => Jvm.Free.XS.dconst1 X.here K.1 rfl (hb K.2.2.2.1 hd) hv) q
theorem anull (K : Cx Z own nm bytes ml ret p s m meth c) (hd : decode bytes pc = .ok (.aconst_null, 1)) (hp : pc + 1 = pc') (q : Go p l e R s m args below meth c n0 h ce sl (mkF m pc' Ls (.null :: S)) Q) : Go p l e R s m args below meth c n0 h ce sl (mkF m pc Ls S) Q := by
  subst hp; exact one (fun T L X _ t => Jvm.Free.XS.aconstNull X.here K.1 rfl (hb K.2.2.2.1 hd) ) q
theorem iinc (K : Cx Z own nm bytes ml ret p s m meth c) {k : Nat} {i : Int} {x : Int32} (v : Int32) (hd : decode bytes pc = .ok (.iinc k i, 3)) (hv : Int32.ofInt i = v) (hl : Ls[k]? = some (.val (.int x))) (hl' : storeLocals Ls k (.int (x + v)) = some Ls') (hp : pc + 3 = pc') (q : Go p l e R s m args below meth c n0 h ce sl (mkF m pc' Ls' S) Q) : Go p l e R s m args below meth c n0 h ce sl (mkF m pc Ls S) Q := by
  subst hp; exact one (fun T L X _ t => Jvm.Free.XT.iincV X.here K.1 rfl v (hb K.2.2.2.1 hd) hv hl hl') q
theorem iadd (K : Cx Z own nm bytes ml ret p s m meth c) {x y : Int32} (hd : decode bytes pc = .ok (.iadd, 1)) (hp : pc + 1 = pc') (q : Go p l e R s m args below meth c n0 h ce sl (mkF m pc' Ls (.int (x + y) :: S)) Q) : Go p l e R s m args below meth c n0 h ce sl (mkF m pc Ls (.int y :: .int x :: S)) Q := by
  subst hp; exact one (fun T L X _ t => Jvm.Free.XS.iadd X.here K.1 rfl (hb K.2.2.2.1 hd) rfl) q
theorem isub (K : Cx Z own nm bytes ml ret p s m meth c) {x y : Int32} (hd : decode bytes pc = .ok (.isub, 1)) (hp : pc + 1 = pc') (q : Go p l e R s m args below meth c n0 h ce sl (mkF m pc' Ls (.int (x - y) :: S)) Q) : Go p l e R s m args below meth c n0 h ce sl (mkF m pc Ls (.int y :: .int x :: S)) Q := by
  subst hp; exact one (fun T L X _ t => Jvm.Free.XS.isub X.here K.1 rfl (hb K.2.2.2.1 hd) rfl) q
theorem imul (K : Cx Z own nm bytes ml ret p s m meth c) {x y : Int32} (hd : decode bytes pc = .ok (.imul, 1)) (hp : pc + 1 = pc') (q : Go p l e R s m args below meth c n0 h ce sl (mkF m pc' Ls (.int (x * y) :: S)) Q) : Go p l e R s m args below meth c n0 h ce sl (mkF m pc Ls (.int y :: .int x :: S)) Q := by
  subst hp; exact one (fun T L X _ t => Jvm.Free.XS.imul X.here K.1 rfl (hb K.2.2.2.1 hd) rfl) q
theorem iand (K : Cx Z own nm bytes ml ret p s m meth c) {x y : Int32} (hd : decode bytes pc = .ok (.iand, 1)) (hp : pc + 1 = pc') (q : Go p l e R s m args below meth c n0 h ce sl (mkF m pc' Ls (.int (x &&& y) :: S)) Q) : Go p l e R s m args below meth c n0 h ce sl (mkF m pc Ls (.int y :: .int x :: S)) Q := by
  subst hp; exact one (fun T L X _ t => Jvm.Free.XS.iand X.here K.1 rfl (hb K.2.2.2.1 hd) rfl) q
theorem ior (K : Cx Z own nm bytes ml ret p s m meth c) {x y : Int32} (hd : decode bytes pc = .ok (.ior, 1)) (hp : pc + 1 = pc') (q : Go p l e R s m args below meth c n0 h ce sl (mkF m pc' Ls (.int (x ||| y) :: S)) Q) : Go p l e R s m args below meth c n0 h ce sl (mkF m pc Ls (.int y :: .int x :: S)) Q := by
  subst hp; exact one (fun T L X _ t => Jvm.Free.XT.ior X.here K.1 rfl (hb K.2.2.2.1 hd) rfl) q
theorem ixor (K : Cx Z own nm bytes ml ret p s m meth c) {x y : Int32} (hd : decode bytes pc = .ok (.ixor, 1)) (hp : pc + 1 = pc') (q : Go p l e R s m args below meth c n0 h ce sl (mkF m pc' Ls (.int (x ^^^ y) :: S)) Q) : Go p l e R s m args below meth c n0 h ce sl (mkF m pc Ls (.int y :: .int x :: S)) Q := by
  subst hp; exact one (fun T L X _ t => Jvm.Free.XT.ixor X.here K.1 rfl (hb K.2.2.2.1 hd) rfl) q
theorem ishl (K : Cx Z own nm bytes ml ret p s m meth c) {x y : Int32} (hd : decode bytes pc = .ok (.ishl, 1)) (hp : pc + 1 = pc') (q : Go p l e R s m args below meth c n0 h ce sl (mkF m pc' Ls (.int (x <<< (y &&& 31)) :: S)) Q) : Go p l e R s m args below meth c n0 h ce sl (mkF m pc Ls (.int y :: .int x :: S)) Q := by
  subst hp; exact one (fun T L X _ t => Jvm.Free.XT.ishl X.here K.1 rfl (hb K.2.2.2.1 hd) rfl) q
theorem ishr (K : Cx Z own nm bytes ml ret p s m meth c) {x y : Int32} (hd : decode bytes pc = .ok (.ishr, 1)) (hp : pc + 1 = pc') (q : Go p l e R s m args below meth c n0 h ce sl (mkF m pc' Ls (.int (x >>> (y &&& 31)) :: S)) Q) : Go p l e R s m args below meth c n0 h ce sl (mkF m pc Ls (.int y :: .int x :: S)) Q := by
  subst hp; exact one (fun T L X _ t => Jvm.Free.XT.ishr X.here K.1 rfl (hb K.2.2.2.1 hd) rfl) q
theorem iushr (K : Cx Z own nm bytes ml ret p s m meth c) {x y : Int32} (hd : decode bytes pc = .ok (.iushr, 1)) (hp : pc + 1 = pc') (q : Go p l e R s m args below meth c n0 h ce sl (mkF m pc' Ls (.int ((x.toUInt32 >>> (y &&& 31).toUInt32).toInt32) :: S)) Q) : Go p l e R s m args below meth c n0 h ce sl (mkF m pc Ls (.int y :: .int x :: S)) Q := by
  subst hp; exact one (fun T L X _ t => Jvm.Free.XT.iushr X.here K.1 rfl (hb K.2.2.2.1 hd) rfl) q
theorem irem_mod (x y : Int32) : x - (x / y) * y = x % y := by
  apply Int32.toInt_inj.mp
  have h1 := Int32.le_toInt (x % y)
  have h2 := Int32.toInt_lt (x % y)
  rw [Int32.toInt_sub, Int32.toInt_mul, Int32.toInt_div, Int.bmod_mul_bmod, Int.sub_bmod_bmod, Int.mul_comm (x.toInt.tdiv y.toInt), ← Int.tmod_def, ← Int32.toInt_mod]
  exact Int.bmod_eq_of_le_mul_two (by omega) (by omega)
theorem irem (K : Cx Z own nm bytes ml ret p s m meth c) {x y : Int32} (hd : decode bytes pc = .ok (.irem, 1)) (hy : y ≠ 0) (hp : pc + 1 = pc') (q : Go p l e R s m args below meth c n0 h ce sl (mkF m pc' Ls (.int (x % y) :: S)) Q) : Go p l e R s m args below meth c n0 h ce sl (mkF m pc Ls (.int y :: .int x :: S)) Q := by
  subst hp; rw [← irem_mod] at q; exact one (fun T L X _ t => Jvm.Free.XS.irem X.here K.1 rfl (hb K.2.2.2.1 hd) rfl hy) q
theorem idiv (K : Cx Z own nm bytes ml ret p s m meth c) {x y : Int32} (hd : decode bytes pc = .ok (.idiv, 1)) (hy : y ≠ 0) (hp : pc + 1 = pc') (q : Go p l e R s m args below meth c n0 h ce sl (mkF m pc' Ls (.int (x / y) :: S)) Q) : Go p l e R s m args below meth c n0 h ce sl (mkF m pc Ls (.int y :: .int x :: S)) Q := by
  subst hp; exact one (fun T L X _ t => Jvm.Free.XS.idiv X.here K.1 rfl (hb K.2.2.2.1 hd) rfl hy) q
theorem ladd (K : Cx Z own nm bytes ml ret p s m meth c) {x y : Int64} (hd : decode bytes pc = .ok (.ladd, 1)) (hp : pc + 1 = pc') (q : Go p l e R s m args below meth c n0 h ce sl (mkF m pc' Ls (.long (x + y) :: S)) Q) : Go p l e R s m args below meth c n0 h ce sl (mkF m pc Ls (.long y :: .long x :: S)) Q := by
  subst hp; exact one (fun T L X _ t => Jvm.Free.XT.ladd X.here K.1 rfl (hb K.2.2.2.1 hd) rfl) q
theorem lsub (K : Cx Z own nm bytes ml ret p s m meth c) {x y : Int64} (hd : decode bytes pc = .ok (.lsub, 1)) (hp : pc + 1 = pc') (q : Go p l e R s m args below meth c n0 h ce sl (mkF m pc' Ls (.long (x - y) :: S)) Q) : Go p l e R s m args below meth c n0 h ce sl (mkF m pc Ls (.long y :: .long x :: S)) Q := by
  subst hp; exact one (fun T L X _ t => Jvm.Free.XT.lsub X.here K.1 rfl (hb K.2.2.2.1 hd) rfl) q
theorem lmul (K : Cx Z own nm bytes ml ret p s m meth c) {x y : Int64} (hd : decode bytes pc = .ok (.lmul, 1)) (hp : pc + 1 = pc') (q : Go p l e R s m args below meth c n0 h ce sl (mkF m pc' Ls (.long (x * y) :: S)) Q) : Go p l e R s m args below meth c n0 h ce sl (mkF m pc Ls (.long y :: .long x :: S)) Q := by
  subst hp; exact one (fun T L X _ t => Jvm.Free.XT.lmul X.here K.1 rfl (hb K.2.2.2.1 hd) rfl) q
theorem land (K : Cx Z own nm bytes ml ret p s m meth c) {x y : Int64} (hd : decode bytes pc = .ok (.land, 1)) (hp : pc + 1 = pc') (q : Go p l e R s m args below meth c n0 h ce sl (mkF m pc' Ls (.long (x &&& y) :: S)) Q) : Go p l e R s m args below meth c n0 h ce sl (mkF m pc Ls (.long y :: .long x :: S)) Q := by
  subst hp; exact one (fun T L X _ t => Jvm.Free.XT.land X.here K.1 rfl (hb K.2.2.2.1 hd) rfl) q
theorem lor (K : Cx Z own nm bytes ml ret p s m meth c) {x y : Int64} (hd : decode bytes pc = .ok (.lor, 1)) (hp : pc + 1 = pc') (q : Go p l e R s m args below meth c n0 h ce sl (mkF m pc' Ls (.long (x ||| y) :: S)) Q) : Go p l e R s m args below meth c n0 h ce sl (mkF m pc Ls (.long y :: .long x :: S)) Q := by
  subst hp; exact one (fun T L X _ t => Jvm.Free.XT.lor X.here K.1 rfl (hb K.2.2.2.1 hd) rfl) q
theorem lxor (K : Cx Z own nm bytes ml ret p s m meth c) {x y : Int64} (hd : decode bytes pc = .ok (.lxor, 1)) (hp : pc + 1 = pc') (q : Go p l e R s m args below meth c n0 h ce sl (mkF m pc' Ls (.long (x ^^^ y) :: S)) Q) : Go p l e R s m args below meth c n0 h ce sl (mkF m pc Ls (.long y :: .long x :: S)) Q := by
  subst hp; exact one (fun T L X _ t => Jvm.Free.XT.lxor X.here K.1 rfl (hb K.2.2.2.1 hd) rfl) q
theorem lshl (K : Cx Z own nm bytes ml ret p s m meth c) {x : Int64} {y : Int32} (hd : decode bytes pc = .ok (.lshl, 1)) (hp : pc + 1 = pc') (q : Go p l e R s m args below meth c n0 h ce sl (mkF m pc' Ls (.long (x <<< (y.toInt64 &&& 63)) :: S)) Q) : Go p l e R s m args below meth c n0 h ce sl (mkF m pc Ls (.int y :: .long x :: S)) Q := by
  subst hp; exact one (fun T L X _ t => Jvm.Free.XT.lshl X.here K.1 rfl (hb K.2.2.2.1 hd) rfl) q
theorem lshr (K : Cx Z own nm bytes ml ret p s m meth c) {x : Int64} {y : Int32} (hd : decode bytes pc = .ok (.lshr, 1)) (hp : pc + 1 = pc') (q : Go p l e R s m args below meth c n0 h ce sl (mkF m pc' Ls (.long (x >>> (y.toInt64 &&& 63)) :: S)) Q) : Go p l e R s m args below meth c n0 h ce sl (mkF m pc Ls (.int y :: .long x :: S)) Q := by
  subst hp; exact one (fun T L X _ t => Jvm.Free.XT.lshr X.here K.1 rfl (hb K.2.2.2.1 hd) rfl) q
theorem lushr (K : Cx Z own nm bytes ml ret p s m meth c) {x : Int64} {y : Int32} (hd : decode bytes pc = .ok (.lushr, 1)) (hp : pc + 1 = pc') (q : Go p l e R s m args below meth c n0 h ce sl (mkF m pc' Ls (.long (XT.ushrL x y) :: S)) Q) : Go p l e R s m args below meth c n0 h ce sl (mkF m pc Ls (.int y :: .long x :: S)) Q := by
  subst hp; exact one (fun T L X _ t => Jvm.Free.XT.lushr X.here K.1 rfl (hb K.2.2.2.1 hd) rfl) q
theorem ldiv (K : Cx Z own nm bytes ml ret p s m meth c) {x y : Int64} (hd : decode bytes pc = .ok (.ldiv, 1)) (hy : y ≠ 0) (hp : pc + 1 = pc') (q : Go p l e R s m args below meth c n0 h ce sl (mkF m pc' Ls (.long (x / y) :: S)) Q) : Go p l e R s m args below meth c n0 h ce sl (mkF m pc Ls (.long y :: .long x :: S)) Q := by
  subst hp; exact one (fun T L X _ t => Jvm.Free.XT.ldiv X.here K.1 rfl (hb K.2.2.2.1 hd) rfl hy) q
theorem lrem (K : Cx Z own nm bytes ml ret p s m meth c) {x y : Int64} (hd : decode bytes pc = .ok (.lrem, 1)) (hy : y ≠ 0) (hp : pc + 1 = pc') (q : Go p l e R s m args below meth c n0 h ce sl (mkF m pc' Ls (.long (x % y) :: S)) Q) : Go p l e R s m args below meth c n0 h ce sl (mkF m pc Ls (.long y :: .long x :: S)) Q := by
  subst hp; rw [← lrem_mod] at q; exact one (fun T L X _ t => Jvm.Free.XT.lrem X.here K.1 rfl (hb K.2.2.2.1 hd) rfl hy) q
theorem lcmp (K : Cx Z own nm bytes ml ret p s m meth c) {x y : Int64} (hd : decode bytes pc = .ok (.lcmp, 1)) (hp : pc + 1 = pc') (q : Go p l e R s m args below meth c n0 h ce sl (mkF m pc' Ls (.int (XT.cmpL x y) :: S)) Q) : Go p l e R s m args below meth c n0 h ce sl (mkF m pc Ls (.long y :: .long x :: S)) Q := by
  subst hp; exact one (fun T L X _ t => Jvm.Free.XT.lcmp X.here K.1 rfl (hb K.2.2.2.1 hd) rfl) q
theorem i2l (K : Cx Z own nm bytes ml ret p s m meth c) {x : Int32} (hd : decode bytes pc = .ok (.i2l, 1)) (hp : pc + 1 = pc') (q : Go p l e R s m args below meth c n0 h ce sl (mkF m pc' Ls (.long x.toInt64 :: S)) Q) : Go p l e R s m args below meth c n0 h ce sl (mkF m pc Ls (.int x :: S)) Q := by
  subst hp; exact one (fun T L X _ t => Jvm.Free.XT.i2l X.here K.1 rfl (hb K.2.2.2.1 hd) rfl) q
theorem l2i (K : Cx Z own nm bytes ml ret p s m meth c) {x : Int64} (hd : decode bytes pc = .ok (.l2i, 1)) (hp : pc + 1 = pc') (q : Go p l e R s m args below meth c n0 h ce sl (mkF m pc' Ls (.int x.toInt32 :: S)) Q) : Go p l e R s m args below meth c n0 h ce sl (mkF m pc Ls (.long x :: S)) Q := by
  subst hp; exact one (fun T L X _ t => Jvm.Free.XT.l2i X.here K.1 rfl (hb K.2.2.2.1 hd) rfl) q
theorem i2c (K : Cx Z own nm bytes ml ret p s m meth c) {x : Int32} (hd : decode bytes pc = .ok (.i2c, 1)) (hp : pc + 1 = pc') (q : Go p l e R s m args below meth c n0 h ce sl (mkF m pc' Ls (.int x.toUInt32.toUInt16.toUInt32.toInt32 :: S)) Q) : Go p l e R s m args below meth c n0 h ce sl (mkF m pc Ls (.int x :: S)) Q := by
  subst hp; exact one (fun T L X _ t => Jvm.Free.XT.i2c X.here K.1 rfl (hb K.2.2.2.1 hd) rfl) q
theorem i2b (K : Cx Z own nm bytes ml ret p s m meth c) {x : Int32} (hd : decode bytes pc = .ok (.i2b, 1)) (hp : pc + 1 = pc') (q : Go p l e R s m args below meth c n0 h ce sl (mkF m pc' Ls (.int x.toInt8.toInt32 :: S)) Q) : Go p l e R s m args below meth c n0 h ce sl (mkF m pc Ls (.int x :: S)) Q := by
  subst hp; exact one (fun T L X _ t => Jvm.Free.XT.i2b X.here K.1 rfl (hb K.2.2.2.1 hd) rfl) q
theorem i2d (K : Cx Z own nm bytes ml ret p s m meth c) {x : Int32} (hd : decode bytes pc = .ok (.i2d, 1)) (hp : pc + 1 = pc') (q : Go p l e R s m args below meth c n0 h ce sl (mkF m pc' Ls (.double (FP.i2d x) :: S)) Q) : Go p l e R s m args below meth c n0 h ce sl (mkF m pc Ls (.int x :: S)) Q := by
  subst hp; exact one (fun T L X _ t => Jvm.Free.XS.i2dS X.here K.1 rfl (hb K.2.2.2.1 hd) rfl rfl) q
theorem l2d (K : Cx Z own nm bytes ml ret p s m meth c) {x : Int64} (hd : decode bytes pc = .ok (.l2d, 1)) (hp : pc + 1 = pc') (q : Go p l e R s m args below meth c n0 h ce sl (mkF m pc' Ls (.double (FP.l2d x) :: S)) Q) : Go p l e R s m args below meth c n0 h ce sl (mkF m pc Ls (.long x :: S)) Q := by
  subst hp; exact one (fun T L X _ t => Jvm.Free.XS.l2dS X.here K.1 rfl (hb K.2.2.2.1 hd) rfl rfl) q
theorem d2l (K : Cx Z own nm bytes ml ret p s m meth c) {x : UInt64} (hd : decode bytes pc = .ok (.d2l, 1)) (hp : pc + 1 = pc') (q : Go p l e R s m args below meth c n0 h ce sl (mkF m pc' Ls (.long (FP.d2l x) :: S)) Q) : Go p l e R s m args below meth c n0 h ce sl (mkF m pc Ls (.double x :: S)) Q := by
  subst hp; exact one (fun T L X _ t => Jvm.Free.XS.d2lS X.here K.1 rfl (hb K.2.2.2.1 hd) rfl rfl) q
theorem d2i (K : Cx Z own nm bytes ml ret p s m meth c) {x : UInt64} (hd : decode bytes pc = .ok (.d2i, 1)) (hp : pc + 1 = pc') (q : Go p l e R s m args below meth c n0 h ce sl (mkF m pc' Ls (.int (FP.d2i x) :: S)) Q) : Go p l e R s m args below meth c n0 h ce sl (mkF m pc Ls (.double x :: S)) Q := by
  subst hp; exact one (fun T L X _ t => Jvm.Free.XS.d2iS X.here K.1 rfl (hb K.2.2.2.1 hd) rfl rfl) q
theorem dadd (K : Cx Z own nm bytes ml ret p s m meth c) {x y : UInt64} (hd : decode bytes pc = .ok (.dadd, 1)) (hn : Jvm.Free.Fl.NoNaN64 (FP.dadd x y)) (hp : pc + 1 = pc') (q : Go p l e R s m args below meth c n0 h ce sl (mkF m pc' Ls (.double (FP.dadd x y) :: S)) Q) : Go p l e R s m args below meth c n0 h ce sl (mkF m pc Ls (.double y :: .double x :: S)) Q := by
  subst hp; exact one (fun T L X _ t => Jvm.Free.XS.daddS X.here K.1 rfl (hb K.2.2.2.1 hd) rfl hn rfl) q
theorem dsub (K : Cx Z own nm bytes ml ret p s m meth c) {x y : UInt64} (hd : decode bytes pc = .ok (.dsub, 1)) (hn : Jvm.Free.Fl.NoNaN64 (FP.dsub x y)) (hp : pc + 1 = pc') (q : Go p l e R s m args below meth c n0 h ce sl (mkF m pc' Ls (.double (FP.dsub x y) :: S)) Q) : Go p l e R s m args below meth c n0 h ce sl (mkF m pc Ls (.double y :: .double x :: S)) Q := by
  subst hp; exact one (fun T L X _ t => Jvm.Free.XS.dsubS X.here K.1 rfl (hb K.2.2.2.1 hd) rfl hn rfl) q
theorem dmul (K : Cx Z own nm bytes ml ret p s m meth c) {x y : UInt64} (hd : decode bytes pc = .ok (.dmul, 1)) (hn : Jvm.Free.Fl.NoNaN64 (FP.dmul x y)) (hp : pc + 1 = pc') (q : Go p l e R s m args below meth c n0 h ce sl (mkF m pc' Ls (.double (FP.dmul x y) :: S)) Q) : Go p l e R s m args below meth c n0 h ce sl (mkF m pc Ls (.double y :: .double x :: S)) Q := by
  subst hp; exact one (fun T L X _ t => Jvm.Free.XS.dmulS X.here K.1 rfl (hb K.2.2.2.1 hd) rfl hn rfl) q
theorem ddiv (K : Cx Z own nm bytes ml ret p s m meth c) {x y : UInt64} (hd : decode bytes pc = .ok (.ddiv, 1)) (hn : Jvm.Free.Fl.NoNaN64 (FP.ddiv x y)) (hp : pc + 1 = pc') (q : Go p l e R s m args below meth c n0 h ce sl (mkF m pc' Ls (.double (FP.ddiv x y) :: S)) Q) : Go p l e R s m args below meth c n0 h ce sl (mkF m pc Ls (.double y :: .double x :: S)) Q := by
  subst hp; exact one (fun T L X _ t => Jvm.Free.XS.ddivS X.here K.1 rfl (hb K.2.2.2.1 hd) rfl hn rfl) q
theorem dcmp (K : Cx Z own nm bytes ml ret p s m meth c) {o : CmpOp} {x y : UInt64} (hd : decode bytes pc = .ok (.dcmp o, 1)) (hp : pc + 1 = pc') (q : Go p l e R s m args below meth c n0 h ce sl (mkF m pc' Ls (.int (cmpValue (FP.dcmp x y) o) :: S)) Q) : Go p l e R s m args below meth c n0 h ce sl (mkF m pc Ls (.double y :: .double x :: S)) Q := by
  subst hp; exact one (fun T L X _ t => Jvm.Free.XS.dcmpS X.here K.1 rfl (hb K.2.2.2.1 hd) rfl rfl) q
theorem dup (K : Cx Z own nm bytes ml ret p s m meth c) {x : Value} (hd : decode bytes pc = .ok (.dup, 1)) (hc : x.category = 1) (hp : pc + 1 = pc') (q : Go p l e R s m args below meth c n0 h ce sl (mkF m pc' Ls (x :: x :: S)) Q) : Go p l e R s m args below meth c n0 h ce sl (mkF m pc Ls (x :: S)) Q := by
  subst hp; exact one (fun T L X _ t => Jvm.Free.XS.dup X.here K.1 rfl (hb K.2.2.2.1 hd) rfl hc) q
theorem pop (K : Cx Z own nm bytes ml ret p s m meth c) {x : Value} (hd : decode bytes pc = .ok (.pop, 1)) (hc : x.category = 1) (hp : pc + 1 = pc') (q : Go p l e R s m args below meth c n0 h ce sl (mkF m pc' Ls S) Q) : Go p l e R s m args below meth c n0 h ce sl (mkF m pc Ls (x :: S)) Q := by
  subst hp; exact one (fun T L X _ t => Jvm.Free.XT.pop X.here K.1 rfl (hb K.2.2.2.1 hd) rfl hc) q
theorem dupX1 (K : Cx Z own nm bytes ml ret p s m meth c) {x y : Value} (hd : decode bytes pc = .ok (.dup_x1, 1)) (hc : x.category = 1) (hc' : y.category = 1) (hp : pc + 1 = pc') (q : Go p l e R s m args below meth c n0 h ce sl (mkF m pc' Ls (x :: y :: x :: S)) Q) : Go p l e R s m args below meth c n0 h ce sl (mkF m pc Ls (x :: y :: S)) Q := by
  subst hp; exact one (fun T L X _ t => Jvm.Free.XT.dupX1 X.here K.1 rfl (hb K.2.2.2.1 hd) rfl hc hc') q
theorem dup2 (K : Cx Z own nm bytes ml ret p s m meth c) {x y : Value} (hd : decode bytes pc = .ok (.dup2, 1)) (hc : x.category = 1) (hc' : y.category = 1) (hp : pc + 1 = pc') (q : Go p l e R s m args below meth c n0 h ce sl (mkF m pc' Ls (x :: y :: x :: y :: S)) Q) : Go p l e R s m args below meth c n0 h ce sl (mkF m pc Ls (x :: y :: S)) Q := by
  subst hp; exact one (fun T L X _ t => Jvm.Free.XT.dup2 X.here K.1 rfl (hb K.2.2.2.1 hd) rfl hc hc') q
theorem dup2L (K : Cx Z own nm bytes ml ret p s m meth c) {x : Int64} (hd : decode bytes pc = .ok (.dup2, 1)) (hp : pc + 1 = pc') (q : Go p l e R s m args below meth c n0 h ce sl (mkF m pc' Ls (.long x :: .long x :: S)) Q) : Go p l e R s m args below meth c n0 h ce sl (mkF m pc Ls (.long x :: S)) Q := by
  subst hp; exact one (fun T L X _ t => Jvm.Free.XT.dup2L X.here K.1 rfl (hb K.2.2.2.1 hd) rfl) q
theorem goto' (K : Cx Z own nm bytes ml ret p s m meth c) {o : Int} (hd : decode bytes pc = .ok (.goto o, 3)) (ho : 0 ≤ (pc : Int) + o) (hp : ((pc : Int) + o).toNat = pc') (q : Go p l e R s m args below meth c n0 h ce sl (mkF m pc' Ls S) Q) : Go p l e R s m args below meth c n0 h ce sl (mkF m pc Ls S) Q :=
  one (fun T L X _ t => Jvm.Free.XS.goto X.here K.1 rfl rfl (hb K.2.2.2.1 hd) ho hp) q
theorem ifY (K : Cx Z own nm bytes ml ret p s m meth c) {cd : ClassFile.Cond} {o : Int} {x : Int32} (hd : decode bytes pc = .ok (.ifCond cd o, 3)) (hc : ifCond.holds cd x = true) (ho : 0 ≤ (pc : Int) + o) (hp : ((pc : Int) + o).toNat = pc') (q : Go p l e R s m args below meth c n0 h ce sl (mkF m pc' Ls S) Q) : Go p l e R s m args below meth c n0 h ce sl (mkF m pc Ls (.int x :: S)) Q :=
  one (fun T L X _ t => Jvm.Free.XS.ifYes X.here K.1 rfl rfl (hb K.2.2.2.1 hd) rfl hc ho hp) q
theorem ifN (K : Cx Z own nm bytes ml ret p s m meth c) {cd : ClassFile.Cond} {o : Int} {x : Int32} (hd : decode bytes pc = .ok (.ifCond cd o, 3)) (hc : ifCond.holds cd x = false) (hp : pc + 3 = pc') (q : Go p l e R s m args below meth c n0 h ce sl (mkF m pc' Ls S) Q) : Go p l e R s m args below meth c n0 h ce sl (mkF m pc Ls (.int x :: S)) Q := by
  subst hp; exact one (fun T L X _ t => Jvm.Free.XS.ifNo X.here K.1 rfl (hb K.2.2.2.1 hd) rfl hc) q
theorem icY (K : Cx Z own nm bytes ml ret p s m meth c) {cd : ClassFile.Cond} {o : Int} {x y : Int32} (hd : decode bytes pc = .ok (.if_icmp cd o, 3)) (hc : if_icmp.holds cd x y = true) (ho : 0 ≤ (pc : Int) + o) (hp : ((pc : Int) + o).toNat = pc') (q : Go p l e R s m args below meth c n0 h ce sl (mkF m pc' Ls S) Q) : Go p l e R s m args below meth c n0 h ce sl (mkF m pc Ls (.int y :: .int x :: S)) Q :=
  one (fun T L X _ t => Jvm.Free.XS.icmpYes X.here K.1 rfl rfl (hb K.2.2.2.1 hd) rfl hc ho hp) q
theorem icN (K : Cx Z own nm bytes ml ret p s m meth c) {cd : ClassFile.Cond} {o : Int} {x y : Int32} (hd : decode bytes pc = .ok (.if_icmp cd o, 3)) (hc : if_icmp.holds cd x y = false) (hp : pc + 3 = pc') (q : Go p l e R s m args below meth c n0 h ce sl (mkF m pc' Ls S) Q) : Go p l e R s m args below meth c n0 h ce sl (mkF m pc Ls (.int y :: .int x :: S)) Q := by
  subst hp; exact one (fun T L X _ t => Jvm.Free.XS.icmpNo X.here K.1 rfl (hb K.2.2.2.1 hd) rfl hc) q
theorem nullY (K : Cx Z own nm bytes ml ret p s m meth c) {o : Int} (hd : decode bytes pc = .ok (.ifnull o, 3)) (ho : 0 ≤ (pc : Int) + o) (hp : ((pc : Int) + o).toNat = pc') (q : Go p l e R s m args below meth c n0 h ce sl (mkF m pc' Ls S) Q) : Go p l e R s m args below meth c n0 h ce sl (mkF m pc Ls (.null :: S)) Q :=
  one (fun T L X _ t => Jvm.Free.XS.ifnullYes X.here K.1 rfl rfl (hb K.2.2.2.1 hd) rfl ho hp) q
theorem nullN (K : Cx Z own nm bytes ml ret p s m meth c) {o : Int} {b : Addr} (hd : decode bytes pc = .ok (.ifnull o, 3)) (hp : pc + 3 = pc') (q : Go p l e R s m args below meth c n0 h ce sl (mkF m pc' Ls S) Q) : Go p l e R s m args below meth c n0 h ce sl (mkF m pc Ls (.ref b :: S)) Q := by
  subst hp; exact one (fun T L X _ t => Jvm.Free.XS.ifnullNo X.here K.1 rfl (hb K.2.2.2.1 hd) rfl) q
theorem nonnullY (K : Cx Z own nm bytes ml ret p s m meth c) {o : Int} {b : Addr} (hd : decode bytes pc = .ok (.ifnonnull o, 3)) (ho : 0 ≤ (pc : Int) + o) (hp : ((pc : Int) + o).toNat = pc') (q : Go p l e R s m args below meth c n0 h ce sl (mkF m pc' Ls S) Q) : Go p l e R s m args below meth c n0 h ce sl (mkF m pc Ls (.ref b :: S)) Q :=
  one (fun T L X _ t => Jvm.Free.XT.ifnonnullYes X.here K.1 rfl rfl (hb K.2.2.2.1 hd) rfl ho hp) q
theorem nonnullN (K : Cx Z own nm bytes ml ret p s m meth c) {o : Int} (hd : decode bytes pc = .ok (.ifnonnull o, 3)) (hp : pc + 3 = pc') (q : Go p l e R s m args below meth c n0 h ce sl (mkF m pc' Ls S) Q) : Go p l e R s m args below meth c n0 h ce sl (mkF m pc Ls (.null :: S)) Q := by
  subst hp; exact one (fun T L X _ t => Jvm.Free.XT.ifnonnullNo X.here K.1 rfl (hb K.2.2.2.1 hd) rfl) q
theorem acY (K : Cx Z own nm bytes ml ret p s m meth c) {cd : ClassFile.ACond} {o : Int} {x y : Value} (hd : decode bytes pc = .ok (.if_acmp cd o, 3)) (hx : x.isRef = true) (hy : y.isRef = true) (hc : XT.acmp cd x y = true) (ho : 0 ≤ (pc : Int) + o) (hp : ((pc : Int) + o).toNat = pc') (q : Go p l e R s m args below meth c n0 h ce sl (mkF m pc' Ls S) Q) : Go p l e R s m args below meth c n0 h ce sl (mkF m pc Ls (y :: x :: S)) Q :=
  one (fun T L X _ t => Jvm.Free.XT.acmpYes X.here K.1 rfl rfl (hb K.2.2.2.1 hd) rfl hx hy hc ho hp) q
theorem acN (K : Cx Z own nm bytes ml ret p s m meth c) {cd : ClassFile.ACond} {o : Int} {x y : Value} (hd : decode bytes pc = .ok (.if_acmp cd o, 3)) (hx : x.isRef = true) (hy : y.isRef = true) (hc : XT.acmp cd x y = false) (hp : pc + 3 = pc') (q : Go p l e R s m args below meth c n0 h ce sl (mkF m pc' Ls S) Q) : Go p l e R s m args below meth c n0 h ce sl (mkF m pc Ls (y :: x :: S)) Q := by
  subst hp; exact one (fun T L X _ t => Jvm.Free.XT.acmpNo X.here K.1 rfl (hb K.2.2.2.1 hd) rfl hx hy hc) q
theorem ldcI (K : Cx Z own nm bytes ml ret p s m meth c) {i : Nat} {v : Int32} (w : (Cond.constant own i v).before a0 Z = true) (hd : decode bytes pc = .ok (.ldc i, 2)) (hp : pc + 2 = pc') (q : Go p l e R s m args below meth c n0 h ce sl (mkF m pc' Ls (.int v :: S)) Q) : Go p l e R s m args below meth c n0 h ce sl (mkF m pc Ls S) Q := by
  subst hp; exact one (fun T L X _ t => X.ldcI K.1 K.2.2.1 (mvT K.2.1 w) rfl (hb K.2.2.2.1 hd)) q
theorem ldcWI (K : Cx Z own nm bytes ml ret p s m meth c) {i : Nat} {v : Int32} (w : (Cond.constant own i v).before a0 Z = true) (hd : decode bytes pc = .ok (.ldc_w i, 3)) (hp : pc + 3 = pc') (q : Go p l e R s m args below meth c n0 h ce sl (mkF m pc' Ls (.int v :: S)) Q) : Go p l e R s m args below meth c n0 h ce sl (mkF m pc Ls S) Q := by
  subst hp; exact one (fun T L X _ t => X.ldcWI K.1 K.2.2.1 (mvT K.2.1 w) rfl (hb K.2.2.2.1 hd)) q
theorem ldc2J (K : Cx Z own nm bytes ml ret p s m meth c) {i : Nat} {v : Int64} (w : (Cond.constantLong own i v).before a0 Z = true) (hd : decode bytes pc = .ok (.ldc2_w i, 3)) (hp : pc + 3 = pc') (q : Go p l e R s m args below meth c n0 h ce sl (mkF m pc' Ls (.long v :: S)) Q) : Go p l e R s m args below meth c n0 h ce sl (mkF m pc Ls S) Q := by
  subst hp; exact one (fun T L X _ t => X.ldc2J K.1 K.2.2.1 (mvT K.2.1 w) rfl (hb K.2.2.2.1 hd)) q
theorem ldc2D (K : Cx Z own nm bytes ml ret p s m meth c) {i : Nat} {v : UInt64} (w : (Cond.constantDouble own i v).before a0 Z = true) (hd : decode bytes pc = .ok (.ldc2_w i, 3)) (hp : pc + 3 = pc') (q : Go p l e R s m args below meth c n0 h ce sl (mkF m pc' Ls (.double v :: S)) Q) : Go p l e R s m args below meth c n0 h ce sl (mkF m pc Ls S) Q := by
  subst hp; exact one (fun T L X _ t => X.ldc2DoubleC K.1 K.2.2.1 (mvT (args := args) K.2.1 w) (g := mkF m pc Ls S) rfl (hb K.2.2.2.1 hd) t) q
theorem getf (K : Cx Z own nm bytes ml ret p s m meth c) {i : Nat} {R0 O n d : String} {a : Addr} {v : Value} (w : (Cond.fieldLink own i R0 n d).before a0 Z = true) (via : Via Z R0 O n d) (F : Fld Z h a O n d v) (hd : decode bytes pc = .ok (.getfield i, 3)) (hp : pc + 3 = pc') (q : Go p l e R s m args below meth c n0 h ce sl (mkF m pc' Ls (v :: S)) Q) : Go p l e R s m args below meth c n0 h ce sl (mkF m pc Ls (.ref a :: S)) Q := by
  subst hp; exact oneT (fun T L X eT => getF X K.1 K.2.1 K.2.2.1 (host := "") (Or.inl w) via eT F rfl rfl (hb K.2.2.2.1 hd)) q
theorem getfN (K : Cx Z own nm bytes ml ret p s m meth c) {i : Nat} {R0 O n d host : String} {a : Addr} {v : Value} (w : (Cond.fieldLinkNest own i R0 n d host).before a0 Z = true) (via : Via Z R0 O n d) (F : Fld Z h a O n d v) (hd : decode bytes pc = .ok (.getfield i, 3)) (hp : pc + 3 = pc') (q : Go p l e R s m args below meth c n0 h ce sl (mkF m pc' Ls (v :: S)) Q) : Go p l e R s m args below meth c n0 h ce sl (mkF m pc Ls (.ref a :: S)) Q := by
  subst hp; exact oneT (fun T L X eT => getF X K.1 K.2.1 K.2.2.1 (Or.inr w) via eT F rfl rfl (hb K.2.2.2.1 hd)) q
theorem getfR (K : Cx Z own nm bytes ml ret p s m meth c) {i : Nat} {O n d : String} {a : Addr} {v : Value} (w : (Cond.fieldRef own i O n d).before a0 Z = true) (F : Fld Z h a O n d v) (hd : decode bytes pc = .ok (.getfield i, 3)) (hp : pc + 3 = pc') (q : Go p l e R s m args below meth c n0 h ce sl (mkF m pc' Ls (v :: S)) Q) : Go p l e R s m args below meth c n0 h ce sl (mkF m pc Ls (.ref a :: S)) Q := by
  subst hp
  refine one (fun T L X eT t k => ?_) q
  have hT : Z.Warmed39 T.vm := wtrans K.2.1 X.warmed
  obtain ⟨c1, k1, i1, f1, g1, g2⟩ := Cond.fieldRef_spec (s := Z.setVm T.vm) (cur := m.cls) (by show T.vm.findClass own = _; rw [X.warmed.alike.findClass]; exact K.2.2.1) (Cond.fieldRef_warmed39 hT w)
  obtain ⟨cell, cf, kf, i2, f2, h1, h2, h3, h4, -, -, h7⟩ := F
  obtain ⟨k', hi, -⟩ := State.fieldFound?_setVm (s := Z) hT.alike h2
  cases g1.symm.trans hi
  exact (X.getfieldR K.1 (g := mkF m pc Ls (.ref a :: S)) rfl g2 h3 rfl (by rw [eT]; exact h1) h4 h7 (hb K.2.2.2.1 hd) (Steps.refl _)).trans k
theorem gets (K : Cx Z own nm bytes ml ret p s m meth c) {i : Nat} {R0 O n d : String} {v : Value} (w : (Cond.fieldLink own i R0 n d).before a0 Z = true) (via : Via Z R0 O n d) (F : Sta Z h O n d v) (hd : decode bytes pc = .ok (.getstatic i, 3)) (hp : pc + 3 = pc') (q : Go p l e R s m args below meth c n0 h ce sl (mkF m pc' Ls (v :: S)) Q) : Go p l e R s m args below meth c n0 h ce sl (mkF m pc Ls S) Q := by
  subst hp; exact oneT (fun T L X eT => getS X K.1 K.2.1 K.2.2.1 (host := "") w via eT F rfl (hb K.2.2.2.1 hd)) q
theorem putf (K : Cx Z own nm bytes ml ret p s m meth c) {i kk : Nat} {R0 O n d C : String} {ty : FieldType} {a : Addr} {v old : Value} (w : (Cond.fieldLink own i R0 n d).before a0 Z = true) (via : Via Z R0 O n d) (F : Fld Z h a O n d old) (E : Exa Z h a C) (L : (Cond.lays C O n d).before a0 Z = true ∨ ((Cond.laysFinal C O n d).before a0 Z = true ∧ own = O ∧ nm = "<init>")) (wi : (Cond.instantiable C kk).before a0 Z = true) (hty : parseFieldDescriptor d = some ty) (hn : narrow ty v = v) (hf : fits ty v = true) (ga : n0 ≤ a) (hd : decode bytes pc = .ok (.putfield i, 3)) (hp : pc + 3 = pc') (q : ∀ h', Wr h h' a (Jvm.RoadKit.slotOf Z O n d) v → Go p l e R s m args below meth c n0 h' ce sl (mkF m pc' Ls S) Q) : Go p l e R s m args below meth c n0 h ce sl (mkF m pc Ls (v :: .ref a :: S)) Q := by
  subst hp
  intro T L0 X N eT
  obtain ⟨T', h', X', e', W, st⟩ := putF X K.1 K.2.1 K.2.2.1 (host := "") (Or.inl w) via eT F E (L.imp id fun ⟨a, b, c⟩ => ⟨a, b, K.2.2.2.2.2.2.2.trans c⟩) wi hty hn hf (g := mkF m pc Ls (v :: .ref a :: S)) rfl rfl (hb K.2.2.2.1 hd)
  obtain ⟨s₂, u, L', a1, r⟩ := q h' W T' _ X' (Fr.snoc X' N ga) e'
  exact ⟨s₂, u, L', st _ a1, r⟩
theorem newObj (K : Cx Z own nm bytes ml ret p s m meth c) {i n : Nat} {C : String} (w : (Cond.classLink own i C).before a0 Z = true) (wi : (Cond.instantiable C n).before a0 Z = true) (wz : (Cond.initialized C).before a0 Z = true) (hd : decode bytes pc = .ok (.new i, 3)) (hc : ce + 1 ≤ R.cells) (hl : sl + n ≤ R.slots) (hp : pc + 3 = pc') (q : ∀ h' x, x = h.size → Ext h h' → Exa Z h' x C → (∀ {O nm d : String} {ty : FieldType}, Laid Z a0 C O nm d → parseFieldDescriptor d = some ty → Fld Z h' x O nm d (defaultValue ty)) → Go p l e R s m args below meth c n0 h' (ce + 1) (sl + n) (mkF m pc' Ls (.ref x :: S)) Q) : Go p l e R s m args below meth c n0 h ce sl (mkF m pc Ls S) Q := by
  subst hp
  intro T L0 X N eT
  obtain ⟨T', h', X', e', E, A, D, -, st⟩ := newO X K.1 K.2.1 K.2.2.1 w wi wz eT (g := mkF m pc Ls S) rfl (hb K.2.2.2.1 hd) hc hl
  obtain ⟨s₂, u, L', a1, r⟩ := q h' h.size rfl E A D T' _ X' N e'
  exact ⟨s₂, u, L', st _ a1, r⟩
theorem initObj (K : Cx Z own nm bytes ml ret p s m meth c) {i : Nat} {a : Addr} (w1 : (Cond.methodLink own i Lib.objectInit).before a0 Z = true) (w2 : (Cond.instanceMethod Lib.objectInit).before a0 Z = true) (w3 : (Cond.code Lib.objectInit ⟨#[0xb1]⟩ 1 none).before a0 Z = true) (hd : decode bytes pc = .ok (.invokespecial i, 3)) (hz : Ls.size = ml) (hf : 1 ≤ R.frames) (hW : (S.map fun v => v.category).sum + 12 ≤ R.locals) (hp : pc + 3 = pc') (q : Go p l e R s m args below meth c n0 h ce sl (mkF m pc' Ls S) Q) : Go p l e R s m args below meth c n0 h ce sl (mkF m pc Ls (.ref a :: S)) Q := by
  subst hp; exact oneT (fun T L X eT => initO X K.1 K.2.1 K.2.2.1 w1 w2 w3 eT rfl (hz.trans K.2.2.2.2.1.symm) rfl (hb K.2.2.2.1 hd) hf (W := (S.map fun v => v.category).sum) (by show 2 * 0 + _ ≤ _; omega) hW) q
/-- a private method's own 'selects' -/
theorem priv_sel {s : State} {args : Array Value} {y : MethodName} {kk : Nat} (wi : (Cond.instantiable y.cls kk).before args s = true) (hpriv : s.PrivateAt y) (hinst : (Cond.instanceMethod y).before args s = true) (hy : y.cls ≠ "java/lang/invoke/MethodHandle" ∧ y.cls ≠ "java/lang/invoke/VarHandle") : (Cond.selects y.cls y y).before args s = true := by
  obtain ⟨c2, k2, i1, i2, i3, i4⟩ := Cond.instantiable_spec wi
  exact selects_self_of_private i1 i2 (Bool.or_eq_false_iff.mp i4.1).1 hpriv hinst hy
/-! calls -/
theorem back {W len : Nat} {y : MethodName} {by' : ByteArray} {ml' : Nat} {ret' : Option FieldType} {rm : Room} {as' : Array Value} {Q' : Option Value → Heap → Prop} (K : Cx Z own nm bytes ml ret p s m meth c) (C : Ctr l Z y by' ml' ret' [] rm n0 as' h Q') (wc : (Cond.code y by' ml' ret').before a0 Z = true) (wz : (Cond.initialized y.cls).before a0 Z = true) (hf : rm.frames + 1 ≤ R.frames) (hl : W + (ml' + 11) + rm.locals ≤ R.locals) :
    Back l R p e below s args y len W (fun A a => a = as' ∧ A.U.heap = h ∧ A.cells + rm.cells ≤ R.cells ∧ A.slots + rm.slots ≤ R.slots) (fun A _ v B => ∃ L, (Q' v B.U.heap ∧ Fr n0 L) ∧ B.locs = A.locs ++ L ∧ B.cells = A.cells + rm.cells ∧ B.slots = A.slots + rm.slots) :=
  backOf (Q := fun v h L => Q' v h ∧ Fr n0 L) C K.2.1 wc wz hf hl
theorem callStatic (K : Cx Z own nm bytes ml ret p s m meth c) {i : Nat} {y : MethodName} {by' : ByteArray} {ml' : Nat} {ret' : Option FieldType} {rm : Room} {Q' : Option Value → Heap → Prop}  {argsL : List Value} (w1 : (Cond.methodLink own i y).before a0 Z = true) (w2 : (Cond.static y).before a0 Z = true) (wz : (Cond.initialized y.cls).before a0 Z = true) (wc : (Cond.code y by' ml' ret').before a0 Z = true) (hy : y.cls ≠ "java/lang/invoke/MethodHandle" ∧ y.cls ≠ "java/lang/invoke/VarHandle") (Cc : Ctr l Z y by' ml' ret' [] rm n0 argsL.toArray h Q') (hlen : ∀ sig, parseMethodDescriptor y.desc = some sig → argsL.length = sig.parameters.length) (hd : decode bytes pc = .ok (.invokestatic i, 3)) (hz : Ls.size = ml) (hf : rm.frames + 1 ≤ R.frames) (hW : (S.map fun v => v.category).sum + (ml' + 11) + rm.locals ≤ R.locals) (hc : ce + rm.cells ≤ R.cells) (hsl : sl + rm.slots ≤ R.slots) {st : List Value} (hst : st = (argsL.reverse ++ S)) (hp : pc + 3 = pc') (q : ∀ v h', Q' v h' → Go p l e R s m args below meth c n0 h' (ce + rm.cells) (sl + rm.slots) (mkF m pc' Ls (v.toList ++ S)) Q) : Go p l e R s m args below meth c n0 h ce sl (mkF m pc Ls st) Q := by
  subst hp hst
  intro T L0 X N eT
  obtain ⟨v, _, ⟨T', L1, k1, n1⟩, -, X', ⟨Lc, hQ, l', y', z'⟩, st'⟩ := Jvm.LawKit.callS X K.1 K.2.2.1 (mvT K.2.1 w1) (mvT K.2.1 w2) (mvT K.2.1 wz) (mvT K.2.1 wc) hy (back (W := (S.map fun v => v.category).sum) K Cc wc wz hf hW) (g := mkF m pc Ls (argsL.reverse ++ S)) rfl (hz.trans K.2.2.2.2.1.symm) (argsL := argsL) (rest := S) hlen rfl (by show 2 * 0 + _ ≤ _; omega) (hb K.2.2.2.1 hd) (fun _ _ => ⟨rfl, eT, hc, hsl⟩)
  dsimp only [Pt.U, Pt.locs, Pt.cells, Pt.slots] at X' l' y' z' st'
  subst l' y' z'
  obtain ⟨s₂, u, L', a1, r⟩ := q v _ hQ.1 T' _ X' (Fr.app N hQ.2) rfl
  exact ⟨s₂, u, L', st' _ a1, r⟩
theorem callInit (K : Cx Z own nm bytes ml ret p s m meth c) {i : Nat} {y : MethodName} {by' : ByteArray} {ml' : Nat} {ret' : Option FieldType} {rm : Room} {Q' : Option Value → Heap → Prop} {b : Addr} {argsL : List Value} (hy1 : y.name = "<init>") (w1 : (Cond.methodLink own i y).before a0 Z = true) (w2 : (Cond.instanceMethod y).before a0 Z = true) (wz : (Cond.initialized y.cls).before a0 Z = true) (wc : (Cond.code y by' ml' none).before a0 Z = true) (hr : ret' = none) (hy : y.cls ≠ "java/lang/invoke/MethodHandle" ∧ y.cls ≠ "java/lang/invoke/VarHandle") (Cc : Ctr l Z y by' ml' ret' [] rm n0 (.ref b :: argsL).toArray h Q') (hlen : ∀ sig, parseMethodDescriptor y.desc = some sig → argsL.length = sig.parameters.length) (hd : decode bytes pc = .ok (.invokespecial i, 3)) (hz : Ls.size = ml) (hf : rm.frames + 1 ≤ R.frames) (hW : (S.map fun v => v.category).sum + (ml' + 11) + rm.locals ≤ R.locals) (hc : ce + rm.cells ≤ R.cells) (hsl : sl + rm.slots ≤ R.slots) {st : List Value} (hst : st = (argsL.reverse ++ .ref b :: S)) (hp : pc + 3 = pc') (q : ∀ v h', Q' v h' → Go p l e R s m args below meth c n0 h' (ce + rm.cells) (sl + rm.slots) (mkF m pc' Ls (v.toList ++ S)) Q) : Go p l e R s m args below meth c n0 h ce sl (mkF m pc Ls st) Q := by
  subst hp hst
  intro T L0 X N eT
  subst hr
  obtain ⟨v, _, ⟨T', L1, k1, n1⟩, -, X', ⟨Lc, hQ, l', y', z'⟩, st'⟩ := X.specialBack K.1 hy1 K.2.2.1 (mvT K.2.1 w1) (mvT K.2.1 w2) (mvT K.2.1 wc) hy (back (W := (S.map fun v => v.category).sum) K Cc wc wz hf hW) (g := mkF m pc Ls (argsL.reverse ++ .ref b :: S)) rfl (hz.trans K.2.2.2.2.1.symm) (Steps.refl _) (a := b) (argsL := argsL) (rest := S) hlen rfl (by show 2 * 0 + _ ≤ _; omega) (hb K.2.2.2.1 hd) (fun _ _ => ⟨rfl, eT, hc, hsl⟩)
  dsimp only [Pt.U, Pt.locs, Pt.cells, Pt.slots] at X' l' y' z' st'
  subst l' y' z'
  obtain ⟨s₂, u, L', a1, r⟩ := q v _ hQ.1 T' _ X' (Fr.app N hQ.2) rfl
  exact ⟨s₂, u, L', st'.trans a1, r⟩
theorem callInitNest (K : Cx Z own nm bytes ml ret p s m meth c) {i : Nat} {y : MethodName} {by' : ByteArray} {ml' : Nat} {ret' : Option FieldType} {rm : Room} {Q' : Option Value → Heap → Prop} {b : Addr} {argsL : List Value} {host : String} (hy1 : y.name = "<init>") (w1 : (Cond.methodLinkNest own i y host).before a0 Z = true) (w2 : (Cond.instanceMethod y).before a0 Z = true) (wz : (Cond.initialized y.cls).before a0 Z = true) (wc : (Cond.code y by' ml' none).before a0 Z = true) (hr : ret' = none) (hy : y.cls ≠ "java/lang/invoke/MethodHandle" ∧ y.cls ≠ "java/lang/invoke/VarHandle") (Cc : Ctr l Z y by' ml' ret' [] rm n0 (.ref b :: argsL).toArray h Q') (hlen : ∀ sig, parseMethodDescriptor y.desc = some sig → argsL.length = sig.parameters.length) (hd : decode bytes pc = .ok (.invokespecial i, 3)) (hz : Ls.size = ml) (hf : rm.frames + 1 ≤ R.frames) (hW : (S.map fun v => v.category).sum + (ml' + 11) + rm.locals ≤ R.locals) (hc : ce + rm.cells ≤ R.cells) (hsl : sl + rm.slots ≤ R.slots) {st : List Value} (hst : st = (argsL.reverse ++ .ref b :: S)) (hp : pc + 3 = pc') (q : ∀ v h', Q' v h' → Go p l e R s m args below meth c n0 h' (ce + rm.cells) (sl + rm.slots) (mkF m pc' Ls (v.toList ++ S)) Q) : Go p l e R s m args below meth c n0 h ce sl (mkF m pc Ls st) Q := by
  subst hp hst
  intro T L0 X N eT
  subst hr
  obtain ⟨v, _, ⟨T', L1, k1, n1⟩, -, X', ⟨Lc, hQ, l', y', z'⟩, st'⟩ := X.specialBackNest K.1 hy1 K.2.2.1 (Cond.methodLinkNest_wide K.2.1 w1 :) (mvT K.2.1 w2) (mvT K.2.1 wc) hy (back (W := (S.map fun v => v.category).sum) K Cc wc wz hf hW) (g := mkF m pc Ls (argsL.reverse ++ .ref b :: S)) rfl (hz.trans K.2.2.2.2.1.symm) (Steps.refl _) (a := b) (argsL := argsL) (rest := S) hlen rfl (by show 2 * 0 + _ ≤ _; omega) (hb K.2.2.2.1 hd) (fun _ _ => ⟨rfl, eT, hc, hsl⟩)
  dsimp only [Pt.U, Pt.locs, Pt.cells, Pt.slots] at X' l' y' z' st'
  subst l' y' z'
  obtain ⟨s₂, u, L', a1, r⟩ := q v _ hQ.1 T' _ X' (Fr.app N hQ.2) rfl
  exact ⟨s₂, u, L', st'.trans a1, r⟩
theorem callVirt (K : Cx Z own nm bytes ml ret p s m meth c) {i : Nat} {y : MethodName} {by' : ByteArray} {ml' : Nat} {ret' : Option FieldType} {rm : Room} {Q' : Option Value → Heap → Prop} {b : Addr} {argsL : List Value} {C : String} (w1 : (Cond.methodLink own i y).before a0 Z = true) (w2 : (Cond.declares y).before a0 Z = true) (w3 : (Cond.selects C y y).before a0 Z = true) (w4 : (Cond.instanceMethod y).before a0 Z = true) (wz : (Cond.initialized y.cls).before a0 Z = true) (wc : (Cond.code y by' ml' ret').before a0 Z = true) (hy : y.cls ≠ "java/lang/invoke/MethodHandle" ∧ y.cls ≠ "java/lang/invoke/VarHandle") (E : Exa Z h b C) (Cc : Ctr l Z y by' ml' ret' [] rm n0 (.ref b :: argsL).toArray h Q') (hlen : ∀ sig, parseMethodDescriptor y.desc = some sig → argsL.length = sig.parameters.length) (hd : decode bytes pc = .ok (.invokevirtual i, 3)) (hz : Ls.size = ml) (hf : rm.frames + 1 ≤ R.frames) (hW : (S.map fun v => v.category).sum + (ml' + 11) + rm.locals ≤ R.locals) (hc : ce + rm.cells ≤ R.cells) (hsl : sl + rm.slots ≤ R.slots) {st : List Value} (hst : st = (argsL.reverse ++ .ref b :: S)) (hp : pc + 3 = pc') (q : ∀ v h', Q' v h' → Go p l e R s m args below meth c n0 h' (ce + rm.cells) (sl + rm.slots) (mkF m pc' Ls (v.toList ++ S)) Q) : Go p l e R s m args below meth c n0 h ce sl (mkF m pc Ls st) Q := by
  subst hp hst
  intro T L0 X N eT
  obtain ⟨cq, kq, qa, qb, qc⟩ := isOf K.2.1 eT E
  obtain ⟨v, _, ⟨T', L1, k1, n1⟩, -, X', ⟨Lc, hQ, l', y', z'⟩, st'⟩ := X.virtualBack K.1 (y := y) (z := y) K.2.2.1 (mvT K.2.1 w1) (mvT K.2.1 w2) (notFace_of_selects (args := #[]) (mvT K.2.1 w3)) (mvT K.2.1 w3) (mvT K.2.1 w4) hy (back (W := (S.map fun v => v.category).sum) K Cc wc wz hf hW) qa qc (g := mkF m pc Ls (argsL.reverse ++ .ref b :: S)) rfl (hz.trans K.2.2.2.2.1.symm) (Steps.refl _) (argsL := argsL) (rest := S) hlen rfl (by show 2 * 0 + _ ≤ _; omega) (hb K.2.2.2.1 hd) (fun _ _ => ⟨rfl, eT, hc, hsl⟩)
  dsimp only [Pt.U, Pt.locs, Pt.cells, Pt.slots] at X' l' y' z' st'
  subst l' y' z'
  obtain ⟨s₂, u, L', a1, r⟩ := q v _ hQ.1 T' _ X' (Fr.app N hQ.2) rfl
  exact ⟨s₂, u, L', st'.trans a1, r⟩
theorem callFace (K : Cx Z own nm bytes ml ret p s m meth c) {i cnt : Nat} {y : MethodName} {by' : ByteArray} {ml' : Nat} {ret' : Option FieldType} {rm : Room} {Q' : Option Value → Heap → Prop} {b : Addr} {argsL : List Value} {z : MethodName} {C : String} (w1 : (Cond.methodLink own i y).before a0 Z = true) (w2 : (Cond.declares y).before a0 Z = true) (w5 : (Cond.interfaceMethod y.cls y.cls y.name y.desc).before a0 Z = true) (k5 : ((Cond.interfaceMethod y.cls y.cls y.name y.desc).onTables && (Cond.interfaceMethod y.cls y.cls y.name y.desc).keepsFace) = true) (w3 : (Cond.selects C y z).before a0 Z = true) (w4 : (Cond.instanceMethod z).before a0 Z = true) (w6 : (Cond.publicMethod z).before a0 Z = true) (w7 : (Cond.unhidden C y.name y.desc).before a0 Z = true) (w8 : (Cond.castable C y.cls).before a0 Z = true) (wz : (Cond.initialized z.cls).before a0 Z = true) (wc : (Cond.code z by' ml' ret').before a0 Z = true) (hy : y.cls ≠ "java/lang/invoke/MethodHandle" ∧ y.cls ≠ "java/lang/invoke/VarHandle") (E : Exa Z h b C) (Cc : Ctr l Z z by' ml' ret' [] rm n0 (.ref b :: argsL).toArray h Q') (hlen : ∀ sig, parseMethodDescriptor y.desc = some sig → argsL.length = sig.parameters.length) (hd : decode bytes pc = .ok (.invokeinterface i cnt, 5)) (hz : Ls.size = ml) (hf : rm.frames + 1 ≤ R.frames) (hW : (S.map fun v => v.category).sum + (ml' + 11) + rm.locals ≤ R.locals) (hc : ce + rm.cells ≤ R.cells) (hsl : sl + rm.slots ≤ R.slots) {st : List Value} (hst : st = (argsL.reverse ++ .ref b :: S)) (hp : pc + 5 = pc') (q : ∀ v h', Q' v h' → Go p l e R s m args below meth c n0 h' (ce + rm.cells) (sl + rm.slots) (mkF m pc' Ls (v.toList ++ S)) Q) : Go p l e R s m args below meth c n0 h ce sl (mkF m pc Ls st) Q := by
  subst hp hst
  intro T L0 X N eT
  obtain ⟨cq, kq, qa, qb, qc⟩ := isOf K.2.1 eT E
  obtain ⟨v, _, ⟨T', L1, k1, n1⟩, -, X', ⟨Lc, hQ, l', y', z'⟩, st'⟩ := X.interfaceBack K.1 (xi := y) (y := z) K.2.2.1 (mvT K.2.1 w1) (mvT K.2.1 w2) (mvT K.2.1 w5 k5) (mvT K.2.1 w3) (mvT K.2.1 w4) (mvT K.2.1 w6) (mvT K.2.1 w7) (mvT K.2.1 w8) hy (back (W := (S.map fun v => v.category).sum) K Cc wc wz hf hW) qa qb qc (g := mkF m pc Ls (argsL.reverse ++ .ref b :: S)) rfl (hz.trans K.2.2.2.2.1.symm) (Steps.refl _) (argsL := argsL) (rest := S) hlen rfl (by show 2 * 0 + _ ≤ _; omega) (hb K.2.2.2.1 hd) (fun _ _ => ⟨rfl, eT, hc, hsl⟩)
  dsimp only [Pt.U, Pt.locs, Pt.cells, Pt.slots] at X' l' y' z' st'
  subst l' y' z'
  obtain ⟨s₂, u, L', a1, r⟩ := q v _ hQ.1 T' _ X' (Fr.app N hQ.2) rfl
  exact ⟨s₂, u, L', st'.trans a1, r⟩
theorem callPriv (K : Cx Z own nm bytes ml ret p s m meth c) {i : Nat} {y : MethodName} {by' : ByteArray} {ml' : Nat} {ret' : Option FieldType} {rm : Room} {Q' : Option Value → Heap → Prop} {b : Addr} {argsL : List Value} {C : String} {kk : Nat} (w1 : (Cond.methodLink own i y).before a0 Z = true) (w2 : (Cond.instanceMethod y).before a0 Z = true) (w3 : (Cond.privateMethod y).before a0 Z = true) (w5 : (Cond.instantiable y.cls kk).before a0 Z = true) (wz : (Cond.initialized y.cls).before a0 Z = true) (wc : (Cond.code y by' ml' ret').before a0 Z = true) (hy : y.cls ≠ "java/lang/invoke/MethodHandle" ∧ y.cls ≠ "java/lang/invoke/VarHandle") (E : Exa Z h b C) (Cc : Ctr l Z y by' ml' ret' [] rm n0 (.ref b :: argsL).toArray h Q') (hlen : ∀ sig, parseMethodDescriptor y.desc = some sig → argsL.length = sig.parameters.length) (hd : decode bytes pc = .ok (.invokevirtual i, 3)) (hz : Ls.size = ml) (hf : rm.frames + 1 ≤ R.frames) (hW : (S.map fun v => v.category).sum + (ml' + 11) + rm.locals ≤ R.locals) (hc : ce + rm.cells ≤ R.cells) (hsl : sl + rm.slots ≤ R.slots) {st : List Value} (hst : st = (argsL.reverse ++ .ref b :: S)) (hp : pc + 3 = pc') (q : ∀ v h', Q' v h' → Go p l e R s m args below meth c n0 h' (ce + rm.cells) (sl + rm.slots) (mkF m pc' Ls (v.toList ++ S)) Q) : Go p l e R s m args below meth c n0 h ce sl (mkF m pc Ls st) Q := by
  subst hp hst
  intro T L0 X N eT
  obtain ⟨cell, kc, f1, f2, f3, f4, -⟩ := E
  have hpr : s.PrivateAt y := Cond.privateMethod_at (mvP K.2.1 w3 (args := #[]))
  obtain ⟨v, _, ⟨T', L1, k1, n1⟩, -, X', ⟨Lc, hQ, l', y', z'⟩, st'⟩ := X.privateBack K.1 (y := y) K.2.2.1 (mvT K.2.1 w1) (mvT K.2.1 w2) (priv_sel (mvT K.2.1 w5) hpr (mvT K.2.1 w2) hy) hpr (mvT K.2.1 wc) hy (back (W := (S.map fun v => v.category).sum) K Cc wc wz hf hW) (g := mkF m pc Ls (argsL.reverse ++ .ref b :: S)) rfl (hz.trans K.2.2.2.2.1.symm) (Steps.refl _) (a := b) (by rw [eT]; exact f1) (fun q hq => by rw [hq] at f4; cases f4) (argsL := argsL) (rest := S) hlen rfl (by show 2 * 0 + _ ≤ _; omega) (hb K.2.2.2.1 hd) (fun _ _ => ⟨rfl, eT, hc, hsl⟩)
  dsimp only [Pt.U, Pt.locs, Pt.cells, Pt.slots] at X' l' y' z' st'
  subst l' y' z'
  obtain ⟨s₂, u, L', a1, r⟩ := q v _ hQ.1 T' _ X' (Fr.app N hQ.2) rfl
  exact ⟨s₂, u, L', st'.trans a1, r⟩
theorem retW (K : Cx Z own nm bytes ml ret p s m meth c) {t : FieldType} {w : Value} {i : Instr} (hi : (i = .ireturn ∧ (t = .int ∨ t = .boolean ∨ t = .byte ∨ t = .char ∨ t = .short) ∧ ∃ z, w = .int z) ∨ (i = .lreturn ∧ t = .long ∧ ∃ z, w = .long z) ∨ (i = .dreturn ∧ t = .double ∧ ∃ z, w = .double z) ∨ (i = .freturn ∧ t = .float ∧ ∃ z, w = .float z) ∨ (i = .areturn ∧ t.isReference = true ∧ w.isRef = true)) (hr : ret = some t) (hn : narrow t w = w) (hd : decode bytes pc = .ok (i, 1)) (hc : ce ≤ R.cells) (hsl : sl ≤ R.slots) (q : Q (some w) h) : Go p l e R s m args below meth c n0 h ce sl (mkF m pc Ls (w :: S)) Q := by
  intro T L0 X N eT
  obtain ⟨fs, hl, hrun, hended, hW, hsame⟩ := X.leave (v := some w) (fun q => by rw [K.2.2.2.2.2.1, hr] at q; cases q) K.2.2.2.2.2.2.1
  exact ⟨_, some w, L0, retOut X K.1 (K.2.2.2.2.2.1.trans hr) hn hi (hb K.2.2.2.1 hd) hl, hrun, hended, N, eT ▸ q, ⟨_, rfl⟩, hW, hsame.mono hc hsl⟩
theorem retV (K : Cx Z own nm bytes ml ret p s m meth c) (hr : ret = none) (hd : decode bytes pc = .ok (.return_, 1)) (hc : ce ≤ R.cells) (hsl : sl ≤ R.slots) (q : Q none h) : Go p l e R s m args below meth c n0 h ce sl (mkF m pc Ls []) Q := by
  intro T L0 X N eT
  obtain ⟨fs, hl, hrun, hended, hW, hsame⟩ := X.leave (v := none) (fun _ => rfl) K.2.2.2.2.2.2.1
  exact ⟨_, none, L0, X.returnOut K.1 (K.2.2.2.2.2.1.trans hr) (hb K.2.2.2.1 hd) hl, hrun, hended, N, eT ▸ q, ⟨_, rfl⟩, hW, hsame.mono hc hsl⟩
theorem retI (K : Cx Z own nm bytes ml ret p s m meth c) {z : Int32} (hr : ret = some .int) (hd : decode bytes pc = .ok (.ireturn, 1)) (hc : ce ≤ R.cells) (hsl : sl ≤ R.slots) (q : Q (some (.int z)) h) : Go p l e R s m args below meth c n0 h ce sl (mkF m pc Ls (.int z :: S)) Q := retW K (by exact Or.inl ⟨rfl, Or.inl rfl, _, rfl⟩) hr rfl hd hc hsl q
theorem retL (K : Cx Z own nm bytes ml ret p s m meth c) {z : Int64} (hr : ret = some .long) (hd : decode bytes pc = .ok (.lreturn, 1)) (hc : ce ≤ R.cells) (hsl : sl ≤ R.slots) (q : Q (some (.long z)) h) : Go p l e R s m args below meth c n0 h ce sl (mkF m pc Ls (.long z :: S)) Q := retW K (by exact Or.inr (Or.inl ⟨rfl, rfl, _, rfl⟩)) hr rfl hd hc hsl q
theorem retD (K : Cx Z own nm bytes ml ret p s m meth c) {z : UInt64} (hr : ret = some .double) (hd : decode bytes pc = .ok (.dreturn, 1)) (hc : ce ≤ R.cells) (hsl : sl ≤ R.slots) (q : Q (some (.double z)) h) : Go p l e R s m args below meth c n0 h ce sl (mkF m pc Ls (.double z :: S)) Q := retW K (by exact Or.inr (Or.inr (Or.inl ⟨rfl, rfl, _, rfl⟩))) hr rfl hd hc hsl q
theorem retA (K : Cx Z own nm bytes ml ret p s m meth c) {t : FieldType} {w : Value} (hr : ret = some t) (ht : t.isReference = true) (hw : w.isRef = true) (hd : decode bytes pc = .ok (.areturn, 1)) (hc : ce ≤ R.cells) (hsl : sl ≤ R.slots) (q : Q (some w) h) : Go p l e R s m args below meth c n0 h ce sl (mkF m pc Ls (w :: S)) Q := retW K (Or.inr (Or.inr (Or.inr (Or.inr ⟨rfl, ht, hw⟩)))) hr (by cases t <;> first | rfl | exact absurd ht (by decide)) hd hc hsl q
theorem retB (K : Cx Z own nm bytes ml ret p s m meth c) {t : FieldType} {z : Int32} (hr : ret = some t) (ht : t = .boolean ∨ t = .byte ∨ t = .char ∨ t = .short) (hd : decode bytes pc = .ok (.ireturn, 1)) (hc : ce ≤ R.cells) (hsl : sl ≤ R.slots) (q : Q (some (.int (nar t z))) h) : Go p l e R s m args below meth c n0 h ce sl (mkF m pc Ls (.int z :: S)) Q := by
  intro T L0 X N eT
  obtain ⟨fs, hl, hrun, hended, hW, hsame⟩ := X.leave (v := some (.int (nar t z))) (fun q => by rw [K.2.2.2.2.2.1, hr] at q; cases q) K.2.2.2.2.2.2.1
  exact ⟨_, some (.int (nar t z)), L0, retN X K.1 (t := t) (K.2.2.2.2.2.1.trans hr) ht (hb K.2.2.2.1 hd) hl, hrun, hended, N, eT ▸ q, ⟨_, rfl⟩, hW, hsame.mono hc hsl⟩
end Walk
/-! arrays -/
def Vec (Z : State) (h : Heap) (a : Addr) (ty : FieldType) (xs : List Value) : Prop := ∃ cl : Cell, Arr Z h a cl ty ∧ cl.slots.toList = xs ∧ xs.length < 2147483648
/-- an array of references, with what may lie in it -/
def VecR (Z : State) (h : Heap) (a : Addr) (C : String) (xs : List Value) : Prop := ∃ cl : Cell, Arr Z h a cl (.object C) ∧ cl.slots.toList = xs ∧ xs.length < 2147483648 ∧ Ovr Z cl.cls C
section Vecs
variable {Z : State} {h h' : Heap} {a b : Addr} {ty : FieldType} {xs : List Value} {v : Value} {sl : Nat} {ws : List Addr} {C : String}
theorem Vec.lt (F : Vec Z h a ty xs) : a < h.size := by obtain ⟨c, A, -⟩ := F; exact A.lt
theorem Vec.ext (F : Vec Z h a ty xs) (E : Ext h h') : Vec Z h' a ty xs := by obtain ⟨c, A, r⟩ := F; exact ⟨c, A.ext E, r⟩
theorem Vec.other (F : Vec Z h b ty xs) (W : Wr h h' a sl v) (q : b ≠ a) : Vec Z h' b ty xs := by obtain ⟨c, A, r⟩ := F; exact ⟨c, A.other W q, r⟩
theorem Vec.keep (F : Vec Z h a ty xs) (K : Keep h h' ws) (q : a ∉ ws) : Vec Z h' a ty xs := by obtain ⟨c, A, r⟩ := F; exact ⟨c, ⟨K.2.1 a c A.1 q, A.2⟩, r⟩
theorem Vec.set (F : Vec Z h a ty xs) {i : Nat} (W : Wr h h' a i v) : Vec Z h' a ty (xs.set i v) := by
  obtain ⟨c, A, rfl, r⟩ := F
  exact ⟨_, A.same W, by simp [Cell.setSlot], by simpa using r⟩
theorem Vec.len (F : Vec Z h a ty xs) : xs.length < 2147483648 := by obtain ⟨c, A, rfl, r⟩ := F; exact r
theorem VecR.lt (F : VecR Z h a C xs) : a < h.size := by obtain ⟨c, A, -⟩ := F; exact A.lt
theorem VecR.ext (F : VecR Z h a C xs) (E : Ext h h') : VecR Z h' a C xs := by obtain ⟨c, A, r⟩ := F; exact ⟨c, A.ext E, r⟩
theorem VecR.other (F : VecR Z h b C xs) (W : Wr h h' a sl v) (q : b ≠ a) : VecR Z h' b C xs := by obtain ⟨c, A, r⟩ := F; exact ⟨c, A.other W q, r⟩
theorem VecR.keep (F : VecR Z h a C xs) (K : Keep h h' ws) (q : a ∉ ws) : VecR Z h' a C xs := by obtain ⟨c, A, r⟩ := F; exact ⟨c, ⟨K.2.1 a c A.1 q, A.2⟩, r⟩
theorem VecR.vec (F : VecR Z h a C xs) : Vec Z h a (.object C) xs := by obtain ⟨c, A, r1, r2, -⟩ := F; exact ⟨c, A, r1, r2⟩
theorem VecR.set (F : VecR Z h a C xs) {i : Nat} (W : Wr h h' a i v) : VecR Z h' a C (xs.set i v) := by
  obtain ⟨c, A, rfl, r, o⟩ := F
  exact ⟨_, A.same W, by simp [Cell.setSlot], by simpa using r, o⟩
theorem clamp {j : Int32} {i : Nat} (hj : j.toInt = i) : j.toNatClampNeg = i ∧ ¬ j < 0 := by
  refine ⟨by simp [Int32.toNatClampNeg, hj], ?_⟩
  rw [Int32.lt_iff_toInt_lt, hj]; simp only [Int32.reduceToInt]; omega
end Vecs
def DV (Z : State) (h : Heap) (a : Addr) (xs : List UInt64) : Prop := Vec Z h a .double (xs.map Value.double)
theorem DV.lt {Z : State} {h : Heap} {a : Addr} {xs : List UInt64} (F : DV Z h a xs) : a < h.size := Vec.lt F
theorem DV.ext {Z : State} {h h' : Heap} {a : Addr} {xs : List UInt64} (F : DV Z h a xs) (E : Ext h h') : DV Z h' a xs := Vec.ext F E
theorem DV.other {Z : State} {h h' : Heap} {a b : Addr} {xs : List UInt64} {sl : Nat} {v : Value} (F : DV Z h b xs) (W : Wr h h' a sl v) (q : b ≠ a) : DV Z h' b xs := Vec.other F W q
theorem DV.keep {Z : State} {h h' : Heap} {a : Addr} {xs : List UInt64} {ws : List Addr} (F : DV Z h a xs) (K : Keep h h' ws) (q : a ∉ ws) : DV Z h' a xs := Vec.keep F K q
theorem DV.set {Z : State} {h h' : Heap} {a : Addr} {xs : List UInt64} {i : Nat} {x : UInt64} (F : DV Z h a xs) (W : Wr h h' a i (Value.double x)) : DV Z h' a (xs.set i x) := by
  have q := Vec.set F W
  rwa [← List.map_set] at q
def IV (Z : State) (h : Heap) (a : Addr) (xs : List Int32) : Prop := Vec Z h a .int (xs.map Value.int)
theorem IV.lt {Z : State} {h : Heap} {a : Addr} {xs : List Int32} (F : IV Z h a xs) : a < h.size := Vec.lt F
theorem IV.ext {Z : State} {h h' : Heap} {a : Addr} {xs : List Int32} (F : IV Z h a xs) (E : Ext h h') : IV Z h' a xs := Vec.ext F E
theorem IV.other {Z : State} {h h' : Heap} {a b : Addr} {xs : List Int32} {sl : Nat} {v : Value} (F : IV Z h b xs) (W : Wr h h' a sl v) (q : b ≠ a) : IV Z h' b xs := Vec.other F W q
theorem IV.keep {Z : State} {h h' : Heap} {a : Addr} {xs : List Int32} {ws : List Addr} (F : IV Z h a xs) (K : Keep h h' ws) (q : a ∉ ws) : IV Z h' a xs := Vec.keep F K q
theorem IV.set {Z : State} {h h' : Heap} {a : Addr} {xs : List Int32} {i : Nat} {x : Int32} (F : IV Z h a xs) (W : Wr h h' a i (Value.int x)) : IV Z h' a (xs.set i x) := by
  have q := Vec.set F W
  rwa [← List.map_set] at q
def JV (Z : State) (h : Heap) (a : Addr) (xs : List Int64) : Prop := Vec Z h a .long (xs.map Value.long)
theorem JV.lt {Z : State} {h : Heap} {a : Addr} {xs : List Int64} (F : JV Z h a xs) : a < h.size := Vec.lt F
theorem JV.ext {Z : State} {h h' : Heap} {a : Addr} {xs : List Int64} (F : JV Z h a xs) (E : Ext h h') : JV Z h' a xs := Vec.ext F E
theorem JV.other {Z : State} {h h' : Heap} {a b : Addr} {xs : List Int64} {sl : Nat} {v : Value} (F : JV Z h b xs) (W : Wr h h' a sl v) (q : b ≠ a) : JV Z h' b xs := Vec.other F W q
theorem JV.keep {Z : State} {h h' : Heap} {a : Addr} {xs : List Int64} {ws : List Addr} (F : JV Z h a xs) (K : Keep h h' ws) (q : a ∉ ws) : JV Z h' a xs := Vec.keep F K q
theorem JV.set {Z : State} {h h' : Heap} {a : Addr} {xs : List Int64} {i : Nat} {x : Int64} (F : JV Z h a xs) (W : Wr h h' a i (Value.long x)) : JV Z h' a (xs.set i x) := by
  have q := Vec.set F W
  rwa [← List.map_set] at q
def ZV (Z : State) (h : Heap) (a : Addr) (xs : List Int32) : Prop := Vec Z h a .boolean (xs.map Value.int)
theorem ZV.lt {Z : State} {h : Heap} {a : Addr} {xs : List Int32} (F : ZV Z h a xs) : a < h.size := Vec.lt F
theorem ZV.ext {Z : State} {h h' : Heap} {a : Addr} {xs : List Int32} (F : ZV Z h a xs) (E : Ext h h') : ZV Z h' a xs := Vec.ext F E
theorem ZV.other {Z : State} {h h' : Heap} {a b : Addr} {xs : List Int32} {sl : Nat} {v : Value} (F : ZV Z h b xs) (W : Wr h h' a sl v) (q : b ≠ a) : ZV Z h' b xs := Vec.other F W q
theorem ZV.keep {Z : State} {h h' : Heap} {a : Addr} {xs : List Int32} {ws : List Addr} (F : ZV Z h a xs) (K : Keep h h' ws) (q : a ∉ ws) : ZV Z h' a xs := Vec.keep F K q
theorem ZV.set {Z : State} {h h' : Heap} {a : Addr} {xs : List Int32} {i : Nat} {x : Int32} (F : ZV Z h a xs) (W : Wr h h' a i (Value.int x)) : ZV Z h' a (xs.set i x) := by
  have q := Vec.set F W
  rwa [← List.map_set] at q
theorem DV.new {Z : State} {h : Heap} {a : Addr} {N : Nat} (F : Vec Z h a (newarray.typeOf .double) (List.replicate N (defaultValue (newarray.typeOf .double)))) : DV Z h a (List.replicate N 0) := by
  unfold DV; rw [List.map_replicate]; exact F
theorem IV.new {Z : State} {h : Heap} {a : Addr} {N : Nat} (F : Vec Z h a (newarray.typeOf .int) (List.replicate N (defaultValue (newarray.typeOf .int)))) : IV Z h a (List.replicate N 0) := by
  unfold IV; rw [List.map_replicate]; exact F
theorem JV.new {Z : State} {h : Heap} {a : Addr} {N : Nat} (F : Vec Z h a (newarray.typeOf .long) (List.replicate N (defaultValue (newarray.typeOf .long)))) : JV Z h a (List.replicate N 0) := by
  unfold JV; rw [List.map_replicate]; exact F
theorem ZV.new {Z : State} {h : Heap} {a : Addr} {N : Nat} (F : Vec Z h a (newarray.typeOf .boolean) (List.replicate N (defaultValue (newarray.typeOf .boolean)))) : ZV Z h a (List.replicate N 0) := by
  unfold ZV; rw [List.map_replicate]; exact F
theorem mapAt {α : Type} {f : α → Value} {xs : List α} {i : Nat} {x : α} (h : xs[i]? = some x) : (xs.map f)[i]? = some (f x) := by rw [List.getElem?_map, h]; rfl
theorem mapLt {α : Type} {f : α → Value} {xs : List α} {i : Nat} (h : i < xs.length) : i < (xs.map f).length := by rwa [List.length_map]
theorem getDAt {α : Type} {xs : List α} {i : Nat} {d : α} (h : i < xs.length) : xs[i]? = some (xs.getD i d) := by rw [List.getD_eq_getElem?_getD, List.getElem?_eq_getElem h]; rfl
section Walk2
variable {p : Program} {l : Launch} {e : Env} {R : Room} {s : State} {m : MethodId} {args : Array Value} {below : List Frame} {meth : Method} {c : Code} {Z : State} {a0 : Array Value} {own nm : String} {bytes : ByteArray} {ml : Nat} {ret : Option FieldType} {n0 ce sl pc pc' : Nat} {h : Heap} {Ls Ls' : Array Slot} {S : List Value} {Q : Option Value → Heap → Prop} {a : Addr} {ty : FieldType} {xs : List Value} {v : Value} {j : Int32} {i : Nat}
theorem inb {cl : Cell} (e1 : cl.slots.toList = xs) (hj : j.toInt = i) (hi : i < xs.length) : ¬ (j < 0 ∨ cl.slots.size ≤ j.toNatClampNeg) := by
  obtain ⟨q1, q2⟩ := clamp hj
  subst e1
  rw [q1]; simp at hi; intro q; rcases q with q | q
  · exact q2 q
  · omega
theorem inv {cl : Cell} (e1 : cl.slots.toList = xs) (hj : j.toInt = i) (hv : xs[i]? = some v) : cl.slots[j.toNatClampNeg]? = some v := by
  obtain ⟨q1, q2⟩ := clamp hj
  subst e1
  rw [q1]; simpa using hv
theorem ltOf (hv : xs[i]? = some v) : i < xs.length := (List.getElem?_eq_some_iff.mp hv).1
theorem iaload (K : Cx Z own nm bytes ml ret p s m meth c) (F : Vec Z h a .int xs) (hj : j.toInt = i) (hv : xs[i]? = some v) (hd : decode bytes pc = .ok (.iaload, 1)) (hp : pc + 1 = pc') (q : Go p l e R s m args below meth c n0 h ce sl (mkF m pc' Ls (v :: S)) Q) : Go p l e R s m args below meth c n0 h ce sl (mkF m pc Ls (.int j :: .ref a :: S)) Q := by
  subst hp; obtain ⟨cl, A, e1, e2⟩ := F
  exact one (fun T L X eT t => X.iaload K.1 (by rw [eT]; exact A.1) (State.isArrayOf_alike K.2.1.alike A.2.1) A.2.2 (inb e1 hj (ltOf hv)) (inv e1 hj hv) (g := mkF m pc Ls (.int j :: .ref a :: S)) rfl rfl (hb K.2.2.2.1 hd) t) q
theorem laload (K : Cx Z own nm bytes ml ret p s m meth c) (F : Vec Z h a .long xs) (hj : j.toInt = i) (hv : xs[i]? = some v) (hd : decode bytes pc = .ok (.laload, 1)) (hp : pc + 1 = pc') (q : Go p l e R s m args below meth c n0 h ce sl (mkF m pc' Ls (v :: S)) Q) : Go p l e R s m args below meth c n0 h ce sl (mkF m pc Ls (.int j :: .ref a :: S)) Q := by
  subst hp; obtain ⟨cl, A, e1, e2⟩ := F
  exact one (fun T L X eT t => X.laload K.1 (by rw [eT]; exact A.1) (State.isArrayOf_alike K.2.1.alike A.2.1) A.2.2 (inb e1 hj (ltOf hv)) (inv e1 hj hv) (g := mkF m pc Ls (.int j :: .ref a :: S)) rfl rfl (hb K.2.2.2.1 hd) t) q
theorem daload (K : Cx Z own nm bytes ml ret p s m meth c) (F : Vec Z h a .double xs) (hj : j.toInt = i) (hv : xs[i]? = some v) (hd : decode bytes pc = .ok (.daload, 1)) (hp : pc + 1 = pc') (q : Go p l e R s m args below meth c n0 h ce sl (mkF m pc' Ls (v :: S)) Q) : Go p l e R s m args below meth c n0 h ce sl (mkF m pc Ls (.int j :: .ref a :: S)) Q := by
  subst hp; obtain ⟨cl, A, e1, e2⟩ := F
  exact one (fun T L X eT t => X.daload K.1 (by rw [eT]; exact A.1) (State.isArrayOf_alike K.2.1.alike A.2.1) A.2.2 (inb e1 hj (ltOf hv)) (inv e1 hj hv) (g := mkF m pc Ls (.int j :: .ref a :: S)) rfl rfl (hb K.2.2.2.1 hd) t) q
theorem zaload (K : Cx Z own nm bytes ml ret p s m meth c) (F : Vec Z h a .boolean xs) (hj : j.toInt = i) (hv : xs[i]? = some v) (hd : decode bytes pc = .ok (.baload, 1)) (hp : pc + 1 = pc') (q : Go p l e R s m args below meth c n0 h ce sl (mkF m pc' Ls (v :: S)) Q) : Go p l e R s m args below meth c n0 h ce sl (mkF m pc Ls (.int j :: .ref a :: S)) Q := by
  subst hp; obtain ⟨cl, A, e1, e2⟩ := F
  exact one (fun T L X eT t => X.baloadBooleans K.1 (by rw [eT]; exact A.1) (State.isArrayOf_alike K.2.1.alike A.2.1) A.2.2 (inb e1 hj (ltOf hv)) (inv e1 hj hv) (g := mkF m pc Ls (.int j :: .ref a :: S)) rfl rfl (hb K.2.2.2.1 hd) t) q
theorem baload (K : Cx Z own nm bytes ml ret p s m meth c) (F : Vec Z h a .byte xs) (hj : j.toInt = i) (hv : xs[i]? = some v) (hd : decode bytes pc = .ok (.baload, 1)) (hp : pc + 1 = pc') (q : Go p l e R s m args below meth c n0 h ce sl (mkF m pc' Ls (v :: S)) Q) : Go p l e R s m args below meth c n0 h ce sl (mkF m pc Ls (.int j :: .ref a :: S)) Q := by
  subst hp; obtain ⟨cl, A, e1, e2⟩ := F
  exact one (fun T L X eT t => X.baloadBytes K.1 (by rw [eT]; exact A.1) (State.isArrayOf_alike K.2.1.alike A.2.1) A.2.2 (inb e1 hj (ltOf hv)) (inv e1 hj hv) (g := mkF m pc Ls (.int j :: .ref a :: S)) rfl rfl (hb K.2.2.2.1 hd) t) q
theorem aaload (K : Cx Z own nm bytes ml ret p s m meth c) (F : Vec Z h a ty xs) (ht : ty.isReference = true) (hj : j.toInt = i) (hv : xs[i]? = some v) (hd : decode bytes pc = .ok (.aaload, 1)) (hp : pc + 1 = pc') (q : Go p l e R s m args below meth c n0 h ce sl (mkF m pc' Ls (v :: S)) Q) : Go p l e R s m args below meth c n0 h ce sl (mkF m pc Ls (.int j :: .ref a :: S)) Q := by
  subst hp; obtain ⟨cl, A, e1, e2⟩ := F
  exact one (fun T L X eT t => X.aaload K.1 (by rw [eT]; exact A.1) (State.isArrayOf_alike K.2.1.alike A.2.1) ht A.2.2 (inb e1 hj (ltOf hv)) (inv e1 hj hv) (g := mkF m pc Ls (.int j :: .ref a :: S)) rfl rfl (hb K.2.2.2.1 hd) t) q
theorem alen (K : Cx Z own nm bytes ml ret p s m meth c) (F : Vec Z h a ty xs) (hd : decode bytes pc = .ok (.arraylength, 1)) (hp : pc + 1 = pc') (q : Go p l e R s m args below meth c n0 h ce sl (mkF m pc' Ls (.int xs.length.toInt32 :: S)) Q) : Go p l e R s m args below meth c n0 h ce sl (mkF m pc Ls (.ref a :: S)) Q := by
  subst hp; obtain ⟨cl, A, e1, e2⟩ := F
  have hz : cl.slots.size = xs.length := by rw [← e1]; simp
  rw [← hz] at q
  exact one (fun T L X eT t => X.arraylength K.1 (by rw [eT]; exact A.1) (State.isArrayOf_alike K.2.1.alike A.2.1) (g := mkF m pc Ls (.ref a :: S)) rfl rfl (hb K.2.2.2.1 hd) t) q
theorem iastore (K : Cx Z own nm bytes ml ret p s m meth c) {x : Int32} (F : Vec Z h a .int xs) (hj : j.toInt = i) (hi : i < xs.length) (ga : n0 ≤ a) (hd : decode bytes pc = .ok (.iastore, 1)) (hp : pc + 1 = pc') (q : ∀ h', Wr h h' a i (.int x) → Go p l e R s m args below meth c n0 h' ce sl (mkF m pc' Ls S) Q) : Go p l e R s m args below meth c n0 h ce sl (mkF m pc Ls (.int x :: .int j :: .ref a :: S)) Q := by
  subst hp; obtain ⟨cl, A, e1, e2⟩ := F
  intro T L0 X N eT
  obtain ⟨T', h', X', e', W, st⟩ := stI X K.1 K.2.1 eT A (inb e1 hj hi) (g := mkF m pc Ls (.int x :: .int j :: .ref a :: S)) rfl rfl (hb K.2.2.2.1 hd)
  rw [(clamp hj).1] at W
  obtain ⟨s₂, u, L', a1, r⟩ := q h' W T' _ X' (Fr.snoc X' N ga) e'
  exact ⟨s₂, u, L', st _ a1, r⟩
theorem lastore (K : Cx Z own nm bytes ml ret p s m meth c) {x : Int64} (F : Vec Z h a .long xs) (hj : j.toInt = i) (hi : i < xs.length) (ga : n0 ≤ a) (hd : decode bytes pc = .ok (.lastore, 1)) (hp : pc + 1 = pc') (q : ∀ h', Wr h h' a i (.long x) → Go p l e R s m args below meth c n0 h' ce sl (mkF m pc' Ls S) Q) : Go p l e R s m args below meth c n0 h ce sl (mkF m pc Ls (.long x :: .int j :: .ref a :: S)) Q := by
  subst hp; obtain ⟨cl, A, e1, e2⟩ := F
  intro T L0 X N eT
  obtain ⟨T', h', X', e', W, st⟩ := stJ X K.1 K.2.1 eT A (inb e1 hj hi) (g := mkF m pc Ls (.long x :: .int j :: .ref a :: S)) rfl rfl (hb K.2.2.2.1 hd)
  rw [(clamp hj).1] at W
  obtain ⟨s₂, u, L', a1, r⟩ := q h' W T' _ X' (Fr.snoc X' N ga) e'
  exact ⟨s₂, u, L', st _ a1, r⟩
theorem dastore (K : Cx Z own nm bytes ml ret p s m meth c) {x : UInt64} (F : Vec Z h a .double xs) (hj : j.toInt = i) (hi : i < xs.length) (ga : n0 ≤ a) (hd : decode bytes pc = .ok (.dastore, 1)) (hp : pc + 1 = pc') (q : ∀ h', Wr h h' a i (.double x) → Go p l e R s m args below meth c n0 h' ce sl (mkF m pc' Ls S) Q) : Go p l e R s m args below meth c n0 h ce sl (mkF m pc Ls (.double x :: .int j :: .ref a :: S)) Q := by
  subst hp; obtain ⟨cl, A, e1, e2⟩ := F
  intro T L0 X N eT
  obtain ⟨T', h', X', e', W, st⟩ := stD X K.1 K.2.1 eT A (inb e1 hj hi) (g := mkF m pc Ls (.double x :: .int j :: .ref a :: S)) rfl rfl (hb K.2.2.2.1 hd)
  rw [(clamp hj).1] at W
  obtain ⟨s₂, u, L', a1, r⟩ := q h' W T' _ X' (Fr.snoc X' N ga) e'
  exact ⟨s₂, u, L', st _ a1, r⟩
theorem zastore (K : Cx Z own nm bytes ml ret p s m meth c) {x : Int32} (F : Vec Z h a .boolean xs) (hj : j.toInt = i) (hi : i < xs.length) (ga : n0 ≤ a) (hd : decode bytes pc = .ok (.bastore, 1)) (hp : pc + 1 = pc') (q : ∀ h', Wr h h' a i (.int (nar .boolean x)) → Go p l e R s m args below meth c n0 h' ce sl (mkF m pc' Ls S) Q) : Go p l e R s m args below meth c n0 h ce sl (mkF m pc Ls (.int x :: .int j :: .ref a :: S)) Q := by
  subst hp; obtain ⟨cl, A, e1, e2⟩ := F
  intro T L0 X N eT
  obtain ⟨T', h', X', e', W, st⟩ := stZ X K.1 K.2.1 eT A (inb e1 hj hi) (g := mkF m pc Ls (.int x :: .int j :: .ref a :: S)) rfl rfl (hb K.2.2.2.1 hd)
  rw [(clamp hj).1] at W
  obtain ⟨s₂, u, L', a1, r⟩ := q h' W T' _ X' (Fr.snoc X' N ga) e'
  exact ⟨s₂, u, L', st _ a1, r⟩
theorem bastore (K : Cx Z own nm bytes ml ret p s m meth c) {x : Int32} (F : Vec Z h a .byte xs) (hj : j.toInt = i) (hi : i < xs.length) (ga : n0 ≤ a) (hd : decode bytes pc = .ok (.bastore, 1)) (hp : pc + 1 = pc') (q : ∀ h', Wr h h' a i (.int (nar .byte x)) → Go p l e R s m args below meth c n0 h' ce sl (mkF m pc' Ls S) Q) : Go p l e R s m args below meth c n0 h ce sl (mkF m pc Ls (.int x :: .int j :: .ref a :: S)) Q := by
  subst hp; obtain ⟨cl, A, e1, e2⟩ := F
  intro T L0 X N eT
  obtain ⟨T', h', X', e', W, st⟩ := stB X K.1 K.2.1 eT A (inb e1 hj hi) (g := mkF m pc Ls (.int x :: .int j :: .ref a :: S)) rfl rfl (hb K.2.2.2.1 hd)
  rw [(clamp hj).1] at W
  obtain ⟨s₂, u, L', a1, r⟩ := q h' W T' _ X' (Fr.snoc X' N ga) e'
  exact ⟨s₂, u, L', st _ a1, r⟩
theorem aastore (K : Cx Z own nm bytes ml ret p s m meth c) {C : String} (F : VecR Z h a C xs) (hS : v = .null ∨ ∃ y, v = .ref y ∧ Ins Z h y C true) (hj : j.toInt = i) (hi : i < xs.length) (ga : n0 ≤ a) (hd : decode bytes pc = .ok (.aastore, 1)) (hp : pc + 1 = pc') (q : ∀ h', Wr h h' a i v → Go p l e R s m args below meth c n0 h' ce sl (mkF m pc' Ls S) Q) : Go p l e R s m args below meth c n0 h ce sl (mkF m pc Ls (v :: .int j :: .ref a :: S)) Q := by
  subst hp; obtain ⟨cl, A, e1, e2, O⟩ := F
  intro T L0 X N eT
  have hSt : Sto Z h a v := by
    rcases hS with rfl | ⟨y, rfl, I⟩
    · exact Or.inl rfl
    · exact Sto.of A O I
  obtain ⟨T', h', X', e', W, st⟩ := stR X K.1 K.2.1 eT A (inb e1 hj hi) rfl hSt (g := mkF m pc Ls (v :: .int j :: .ref a :: S)) rfl rfl (hb K.2.2.2.1 hd)
  rw [(clamp hj).1] at W
  obtain ⟨s₂, u, L', a1, r⟩ := q h' W T' _ X' (Fr.snoc X' N ga) e'
  exact ⟨s₂, u, L', st _ a1, r⟩
theorem newArr (K : Cx Z own nm bytes ml ret p s m meth c) {aty : ArrayType} {n : Int32} {N : Nat} (w : (Cond.arrayClass (newarray.typeOf aty)).before a0 Z = true) (hn : n.toInt = N) (hb : N * 8 ≤ 536870912) (hd : decode bytes pc = .ok (.newarray aty, 2)) (hc : ce + 1 ≤ R.cells) (hl : sl + N ≤ R.slots) (hp : pc + 2 = pc') (q : ∀ h' x, x = h.size → Ext h h' → Vec Z h' x (newarray.typeOf aty) (List.replicate N (defaultValue (newarray.typeOf aty))) → Go p l e R s m args below meth c n0 h' (ce + 1) (sl + N) (mkF m pc' Ls (.ref x :: S)) Q) : Go p l e R s m args below meth c n0 h ce sl (mkF m pc Ls (.int n :: S)) Q := by
  subst hp
  obtain ⟨c1, c2⟩ := clamp hn
  intro T L0 X N0 eT
  obtain ⟨T', h', cA, X', e', E, A, st⟩ := newP X K.1 K.2.1 w eT (g := mkF m pc Ls (.int n :: S)) rfl (Jvm.hb K.2.2.2.1 hd) rfl c2 (cap := N) (Nat.le_of_eq c1) hb hc hl
  obtain ⟨s₂, u, L', a1, r⟩ := q h' h.size rfl E ⟨_, A, by simp [newA, c1], by simp; omega⟩ T' _ X' N0 e'
  exact ⟨s₂, u, L', st _ a1, r⟩
theorem newArrR (K : Cx Z own nm bytes ml ret p s m meth c) {k : Nat} {C : String} {n : Int32} {N : Nat} (w1 : (Cond.classLink own k C).before a0 Z = true) (w2 : (Cond.arrayOver (.object C)).before a0 Z = true) (hn : n.toInt = N) (hb : N * 8 ≤ 536870912) (hd : decode bytes pc = .ok (.anewarray k, 3)) (hc : ce + 1 ≤ R.cells) (hl : sl + N ≤ R.slots) (hp : pc + 3 = pc') (q : ∀ h' x, x = h.size → Ext h h' → VecR Z h' x C (List.replicate N .null) → Go p l e R s m args below meth c n0 h' (ce + 1) (sl + N) (mkF m pc' Ls (.ref x :: S)) Q) : Go p l e R s m args below meth c n0 h ce sl (mkF m pc Ls (.int n :: S)) Q := by
  subst hp
  obtain ⟨c1, c2⟩ := clamp hn
  intro T L0 X N0 eT
  obtain ⟨T', h', cA, X', e', E, A, O, st⟩ := newR X K.1 K.2.1 K.2.2.1 w1 w2 eT (g := mkF m pc Ls (.int n :: S)) rfl (Jvm.hb K.2.2.2.1 hd) rfl c2 (cap := N) (Nat.le_of_eq c1) hb hc hl
  obtain ⟨s₂, u, L', a1, r⟩ := q h' h.size rfl E ⟨_, A, by simp [newA, c1, defaultValue], by simp; omega, O⟩ T' _ X' N0 e'
  exact ⟨s₂, u, L', st _ a1, r⟩
theorem cast' (K : Cx Z own nm bytes ml ret p s m meth c) {k : Nat} {K' : String} (w : (Cond.classLink own k K').before a0 Z = true) (F : Ins Z h a K' true) (hd : decode bytes pc = .ok (.checkcast k, 3)) (hp : pc + 3 = pc') (q : Go p l e R s m args below meth c n0 h ce sl (mkF m pc' Ls (.ref a :: S)) Q) : Go p l e R s m args below meth c n0 h ce sl (mkF m pc Ls (.ref a :: S)) Q := by
  subst hp; exact oneT (fun T L X eT => castY X K.1 K.2.1 K.2.2.1 w eT F (g := mkF m pc Ls (.ref a :: S)) rfl rfl (hb K.2.2.2.1 hd)) q
end Walk2
/-- a body's walk is its contract -/
theorem ctr {l : Launch} {Z : State} {y : MethodName} {bytes : ByteArray} {ml : Nat} {ret : Option FieldType} {ws : List Cond} {rm : Room} {n0 : Nat} {as' : Array Value} {h : Heap} {Q : Option Value → Heap → Prop} {own nm : String} (ho : y.cls = own) (hn : y.name = nm) {Ls : Array Slot} (hpl : plainFor y = true) (hef : ∀ m : MethodId, entryFrame m as' ml = mkF m 0 Ls [])
    (body : ∀ (p : Program) (e : Env) (s : State) (m : MethodId) (below : List Frame) (meth : Method) (c : Code), Cx Z own nm bytes ml ret p s m meth c → s.heap = h → Go p l e rm s m as' below meth c n0 h 0 0 (mkF m 0 Ls []) Q) : Ctr l Z y bytes ml ret ws rm n0 as' h Q := by
  subst ho hn
  refine MetFree.of_bodySF hpl hisR ?_
  intro p e s m args below meth c s₁ Bd hml hP hK
  obtain ⟨rfl, hZ, hh⟩ := hP
  have X0 : Stand p l e rm s m _ below meth c s₁ [] 0 0 := Stand.of_body Bd
  have e0 : s₁.heap = h := by rw [← hh, Bd.state]; rfl
  obtain ⟨s₂, v, L', a1, a2, a3, a4, a5, a6⟩ := body p e s m below meth c ⟨Bd.exec, hZ, findClass_of_methodNamed Bd.named, Bd.bytes, hml, Bd.returns, BodyLoose.notSynchronized Bd, (name_of_methodNamed Bd.named Bd.method).1⟩ hh s₁ [] X0 (Fr.nil n0) e0
  exact ⟨s₂, _, castTop (hef m) a1, a2, a3, v, L', rfl, ⟨a5, a4⟩, a6⟩
/-- a term that the case sets equal to a double -/
theorem eqD {args : Array Value} {first s : State} {o : Option Outcome} {idx : List Nat} {a b : Term} {n : UInt64} (h : (Cond.eq a b).value args first o s idx = some true) (hb : b.eval args first o idx s = some (.double n)) : a.eval args first o idx s = some (.double n) := by
  simp only [Cond.value, hb] at h
  cases ha : a.eval args first o idx s with
  | none => simp [ha] at h
  | some x => cases x <;> simp [ha] at h ⊢; exact h
/-- a term that the case sets equal to a reference -/
theorem eqR {args : Array Value} {first s : State} {o : Option Outcome} {idx : List Nat} {a b : Term} {n : Addr} (h : (Cond.eq a b).value args first o s idx = some true) (hb : b.eval args first o idx s = some (.ref n)) : a.eval args first o idx s = some (.ref n) := by
  simp only [Cond.value, hb] at h
  cases ha : a.eval args first o idx s with
  | none => simp [ha] at h
  | some x => cases x <;> simp [ha] at h ⊢; exact h
theorem eqI {args : Array Value} {first s : State} {o : Option Outcome} {idx : List Nat} {a b : Term} {n : Int32} (h : (Cond.eq a b).value args first o s idx = some true) (hb : b.eval args first o idx s = some (.int n)) : a.eval args first o idx s = some (.int n) := by
  simp only [Cond.value, hb] at h
  cases ha : a.eval args first o idx s with
  | none => simp [ha] at h
  | some x => cases x <;> simp [ha] at h ⊢; exact h
/-! the branch behind a comparison of doubles -/
def dge (r : Option Ordering) : Prop := r = some .eq ∨ r = some .gt
def dle (r : Option Ordering) : Prop := r = some .lt ∨ r = some .eq
section Dd
variable {r : Option Ordering}
theorem dd_l_eq_t (h : r = some .eq) : ifCond.holds .eq (cmpValue r .l) = true := by
  revert h; try unfold dge
  try unfold dle
  rcases r with _ | (_ | _ | _) <;> decide
theorem dd_l_eq_f (h : ¬ r = some .eq) : ifCond.holds .eq (cmpValue r .l) = false := by
  revert h; try unfold dge
  try unfold dle
  rcases r with _ | (_ | _ | _) <;> decide
theorem dd_l_ne_t (h : ¬ r = some .eq) : ifCond.holds .ne (cmpValue r .l) = true := by
  revert h; try unfold dge
  try unfold dle
  rcases r with _ | (_ | _ | _) <;> decide
theorem dd_l_ne_f (h : r = some .eq) : ifCond.holds .ne (cmpValue r .l) = false := by
  revert h; try unfold dge
  try unfold dle
  rcases r with _ | (_ | _ | _) <;> decide
theorem dd_l_lt_t (h : ¬ dge r) : ifCond.holds .lt (cmpValue r .l) = true := by
  revert h; try unfold dge
  try unfold dle
  rcases r with _ | (_ | _ | _) <;> decide
theorem dd_l_lt_f (h : dge r) : ifCond.holds .lt (cmpValue r .l) = false := by
  revert h; try unfold dge
  try unfold dle
  rcases r with _ | (_ | _ | _) <;> decide
theorem dd_l_ge_t (h : dge r) : ifCond.holds .ge (cmpValue r .l) = true := by
  revert h; try unfold dge
  try unfold dle
  rcases r with _ | (_ | _ | _) <;> decide
theorem dd_l_ge_f (h : ¬ dge r) : ifCond.holds .ge (cmpValue r .l) = false := by
  revert h; try unfold dge
  try unfold dle
  rcases r with _ | (_ | _ | _) <;> decide
theorem dd_l_gt_t (h : r = some .gt) : ifCond.holds .gt (cmpValue r .l) = true := by
  revert h; try unfold dge
  try unfold dle
  rcases r with _ | (_ | _ | _) <;> decide
theorem dd_l_gt_f (h : ¬ r = some .gt) : ifCond.holds .gt (cmpValue r .l) = false := by
  revert h; try unfold dge
  try unfold dle
  rcases r with _ | (_ | _ | _) <;> decide
theorem dd_l_le_t (h : ¬ r = some .gt) : ifCond.holds .le (cmpValue r .l) = true := by
  revert h; try unfold dge
  try unfold dle
  rcases r with _ | (_ | _ | _) <;> decide
theorem dd_l_le_f (h : r = some .gt) : ifCond.holds .le (cmpValue r .l) = false := by
  revert h; try unfold dge
  try unfold dle
  rcases r with _ | (_ | _ | _) <;> decide
theorem dd_g_eq_t (h : r = some .eq) : ifCond.holds .eq (cmpValue r .g) = true := by
  revert h; try unfold dge
  try unfold dle
  rcases r with _ | (_ | _ | _) <;> decide
theorem dd_g_eq_f (h : ¬ r = some .eq) : ifCond.holds .eq (cmpValue r .g) = false := by
  revert h; try unfold dge
  try unfold dle
  rcases r with _ | (_ | _ | _) <;> decide
theorem dd_g_ne_t (h : ¬ r = some .eq) : ifCond.holds .ne (cmpValue r .g) = true := by
  revert h; try unfold dge
  try unfold dle
  rcases r with _ | (_ | _ | _) <;> decide
theorem dd_g_ne_f (h : r = some .eq) : ifCond.holds .ne (cmpValue r .g) = false := by
  revert h; try unfold dge
  try unfold dle
  rcases r with _ | (_ | _ | _) <;> decide
theorem dd_g_lt_t (h : r = some .lt) : ifCond.holds .lt (cmpValue r .g) = true := by
  revert h; try unfold dge
  try unfold dle
  rcases r with _ | (_ | _ | _) <;> decide
theorem dd_g_lt_f (h : ¬ r = some .lt) : ifCond.holds .lt (cmpValue r .g) = false := by
  revert h; try unfold dge
  try unfold dle
  rcases r with _ | (_ | _ | _) <;> decide
theorem dd_g_ge_t (h : ¬ r = some .lt) : ifCond.holds .ge (cmpValue r .g) = true := by
  revert h; try unfold dge
  try unfold dle
  rcases r with _ | (_ | _ | _) <;> decide
theorem dd_g_ge_f (h : r = some .lt) : ifCond.holds .ge (cmpValue r .g) = false := by
  revert h; try unfold dge
  try unfold dle
  rcases r with _ | (_ | _ | _) <;> decide
theorem dd_g_gt_t (h : ¬ dle r) : ifCond.holds .gt (cmpValue r .g) = true := by
  revert h; try unfold dge
  try unfold dle
  rcases r with _ | (_ | _ | _) <;> decide
theorem dd_g_gt_f (h : dle r) : ifCond.holds .gt (cmpValue r .g) = false := by
  revert h; try unfold dge
  try unfold dle
  rcases r with _ | (_ | _ | _) <;> decide
theorem dd_g_le_t (h : dle r) : ifCond.holds .le (cmpValue r .g) = true := by
  revert h; try unfold dge
  try unfold dle
  rcases r with _ | (_ | _ | _) <;> decide
theorem dd_g_le_f (h : ¬ dle r) : ifCond.holds .le (cmpValue r .g) = false := by
  revert h; try unfold dge
  try unfold dle
  rcases r with _ | (_ | _ | _) <;> decide
end Dd
end Jvm.OwnWp
namespace Jvm.OwnHeap
open Jvm.FP.Core
theorem gs {α : Type} {l : List α} {i : Nat} (h : i < l.length) (x d : α) (j : Nat) : (l.set i x).getD j d = if j = i then x else l.getD j d := by
  rw [List.getD_eq_getElem?_getD, List.getD_eq_getElem?_getD, List.getElem?_set]
  by_cases e : j = i
  · subst e; rw [if_pos rfl, if_pos h, if_pos rfl]; rfl
  · rw [if_neg (fun q => e q.symm), if_neg e]
theorem gt_take {α : Type} (l : List α) (n i : Nat) (d : α) (h : i < n) : (l.take n).getD i d = l.getD i d := by
  rw [List.getD_eq_getElem?_getD, List.getD_eq_getElem?_getD, List.getElem?_take, if_pos h]
theorem gi {α : Type} (l : List α) (i : Nat) (d : α) (h : i < l.length) : l.getD i d = l[i] := by
  rw [List.getD_eq_getElem?_getD, List.getElem?_eq_getElem h]; rfl
/-- two places change their places -/
theorem swapPerm {α : Type} (l : List α) (d : α) {i j : Nat} (hi : i < l.length) (hj : j < l.length) : ((l.set i (l.getD j d)).set j (l.getD i d)).Perm l := by
  rw [gi l i d hi, gi l j d hj]; exact List.set_set_perm hi hj
theorem takeSwap {α : Type} (l : List α) (d : α) {n i j : Nat} (hn : n ≤ l.length) (hi : i < n) (hj : j < n) : (((l.set i (l.getD j d)).set j (l.getD i d)).take n).Perm (l.take n) := by
  rw [List.take_set, List.take_set, ← gt_take l n i d hi, ← gt_take l n j d hj]
  have hl : (l.take n).length = n := by rw [List.length_take]; omega
  exact swapPerm (l.take n) d (by omega) (by omega)
/-- a double's place in the order -/
def kv (a : UInt64) : Int := zval b64 (val64 a)
def Num (a : UInt64) : Prop := val64 a ≠ .nan
theorem cmp_gt {a b : UInt64} (ha : Num a) (hb : Num b) : Jvm.FP.dcmp a b = some .gt ↔ kv b < kv a := ⟨fun h => (dcmp_gt.mp h).2.2, fun h => dcmp_gt.mpr ⟨ha, hb, h⟩⟩
theorem cmp_lt {a b : UInt64} (ha : Num a) (hb : Num b) : Jvm.FP.dcmp a b = some .lt ↔ kv a < kv b := ⟨fun h => (dcmp_lt.mp h).2.2, fun h => dcmp_lt.mpr ⟨ha, hb, h⟩⟩
theorem cmp_eq {a b : UInt64} (ha : Num a) (hb : Num b) : Jvm.FP.dcmp a b = some .eq ↔ kv a = kv b := ⟨fun h => (dcmp_eq.mp h).2.2, fun h => dcmp_eq.mpr ⟨ha, hb, h⟩⟩
theorem cmp_ge {a b : UInt64} (ha : Num a) (hb : Num b) : Jvm.OwnWp.dge (Jvm.FP.dcmp a b) ↔ kv b ≤ kv a := by
  unfold Jvm.OwnWp.dge
  rw [cmp_eq ha hb, cmp_gt ha hb]; omega
theorem cmp_le {a b : UInt64} (ha : Num a) (hb : Num b) : Jvm.OwnWp.dle (Jvm.FP.dcmp a b) ↔ kv a ≤ kv b := by
  unfold Jvm.OwnWp.dle
  rw [cmp_eq ha hb, cmp_lt ha hb]; omega
theorem num_int {i : Int} {a : UInt64} (h : DInt i a) : Num a := DInt_ne_nan h
theorem kv_int {i : Int} {a : UInt64} (h : DInt i a) : kv a = i * (one64 : Int) := DInt_zval h
end Jvm.OwnHeap
namespace Jvm.Pilot.@@N@@
open Jvm Jvm.ClassFile Sem Op Lib Jvm.Free Jvm.Stand Jvm.LawKit Jvm.RoadKit Bundle Jvm.Pilot.@@N@@.Jvm.D Jvm.OwnWp

theorem d_method_2_0 : decode method_2_code 0 = .ok (.ldc2_w 7, 3) := by decide +kernel
theorem d_method_2_3 : decode method_2_code 3 = .ok (.dstore_n 2, 1) := by decide +kernel
theorem d_method_2_4 : decode method_2_code 4 = .ok (.aload_n 1, 1) := by decide +kernel
theorem d_method_2_5 : decode method_2_code 5 = .ok (.iconst 0, 1) := by decide +kernel
theorem d_method_2_6 : decode method_2_code 6 = .ok (.baload, 1) := by decide +kernel
theorem d_method_2_7 : decode method_2_code 7 = .ok (.ifCond .eq 15, 3) := by decide +kernel
theorem d_method_2_10 : decode method_2_code 10 = .ok (.aload_n 0, 1) := by decide +kernel
theorem d_method_2_11 : decode method_2_code 11 = .ok (.iconst 0, 1) := by decide +kernel
theorem d_method_2_12 : decode method_2_code 12 = .ok (.daload, 1) := by decide +kernel
theorem d_method_2_13 : decode method_2_code 13 = .ok (.dload_n 2, 1) := by decide +kernel
theorem d_method_2_14 : decode method_2_code 14 = .ok (.dcmp .g, 1) := by decide +kernel
theorem d_method_2_15 : decode method_2_code 15 = .ok (.ifCond .ge 7, 3) := by decide +kernel
theorem d_method_2_18 : decode method_2_code 18 = .ok (.aload_n 0, 1) := by decide +kernel
theorem d_method_2_19 : decode method_2_code 19 = .ok (.iconst 0, 1) := by decide +kernel
theorem d_method_2_20 : decode method_2_code 20 = .ok (.daload, 1) := by decide +kernel
theorem d_method_2_21 : decode method_2_code 21 = .ok (.dstore_n 2, 1) := by decide +kernel
theorem d_method_2_22 : decode method_2_code 22 = .ok (.aload_n 1, 1) := by decide +kernel
theorem d_method_2_23 : decode method_2_code 23 = .ok (.iconst 1, 1) := by decide +kernel
theorem d_method_2_24 : decode method_2_code 24 = .ok (.baload, 1) := by decide +kernel
theorem d_method_2_25 : decode method_2_code 25 = .ok (.ifCond .eq 15, 3) := by decide +kernel
theorem d_method_2_28 : decode method_2_code 28 = .ok (.aload_n 0, 1) := by decide +kernel
theorem d_method_2_29 : decode method_2_code 29 = .ok (.iconst 1, 1) := by decide +kernel
theorem d_method_2_30 : decode method_2_code 30 = .ok (.daload, 1) := by decide +kernel
theorem d_method_2_31 : decode method_2_code 31 = .ok (.dload_n 2, 1) := by decide +kernel
theorem d_method_2_32 : decode method_2_code 32 = .ok (.dcmp .g, 1) := by decide +kernel
theorem d_method_2_33 : decode method_2_code 33 = .ok (.ifCond .ge 7, 3) := by decide +kernel
theorem d_method_2_36 : decode method_2_code 36 = .ok (.aload_n 0, 1) := by decide +kernel
theorem d_method_2_37 : decode method_2_code 37 = .ok (.iconst 1, 1) := by decide +kernel
theorem d_method_2_38 : decode method_2_code 38 = .ok (.daload, 1) := by decide +kernel
theorem d_method_2_39 : decode method_2_code 39 = .ok (.dstore_n 2, 1) := by decide +kernel
theorem d_method_2_40 : decode method_2_code 40 = .ok (.aload_n 1, 1) := by decide +kernel
theorem d_method_2_41 : decode method_2_code 41 = .ok (.iconst 2, 1) := by decide +kernel
theorem d_method_2_42 : decode method_2_code 42 = .ok (.baload, 1) := by decide +kernel
theorem d_method_2_43 : decode method_2_code 43 = .ok (.ifCond .eq 15, 3) := by decide +kernel
theorem d_method_2_46 : decode method_2_code 46 = .ok (.aload_n 0, 1) := by decide +kernel
theorem d_method_2_47 : decode method_2_code 47 = .ok (.iconst 2, 1) := by decide +kernel
theorem d_method_2_48 : decode method_2_code 48 = .ok (.daload, 1) := by decide +kernel
theorem d_method_2_49 : decode method_2_code 49 = .ok (.dload_n 2, 1) := by decide +kernel
theorem d_method_2_50 : decode method_2_code 50 = .ok (.dcmp .g, 1) := by decide +kernel
theorem d_method_2_51 : decode method_2_code 51 = .ok (.ifCond .ge 7, 3) := by decide +kernel
theorem d_method_2_54 : decode method_2_code 54 = .ok (.aload_n 0, 1) := by decide +kernel
theorem d_method_2_55 : decode method_2_code 55 = .ok (.iconst 2, 1) := by decide +kernel
theorem d_method_2_56 : decode method_2_code 56 = .ok (.daload, 1) := by decide +kernel
theorem d_method_2_57 : decode method_2_code 57 = .ok (.dstore_n 2, 1) := by decide +kernel
theorem d_method_2_58 : decode method_2_code 58 = .ok (.aload_n 1, 1) := by decide +kernel
theorem d_method_2_59 : decode method_2_code 59 = .ok (.iconst 3, 1) := by decide +kernel
theorem d_method_2_60 : decode method_2_code 60 = .ok (.baload, 1) := by decide +kernel
theorem d_method_2_61 : decode method_2_code 61 = .ok (.ifCond .eq 15, 3) := by decide +kernel
theorem d_method_2_64 : decode method_2_code 64 = .ok (.aload_n 0, 1) := by decide +kernel
theorem d_method_2_65 : decode method_2_code 65 = .ok (.iconst 3, 1) := by decide +kernel
theorem d_method_2_66 : decode method_2_code 66 = .ok (.daload, 1) := by decide +kernel
theorem d_method_2_67 : decode method_2_code 67 = .ok (.dload_n 2, 1) := by decide +kernel
theorem d_method_2_68 : decode method_2_code 68 = .ok (.dcmp .g, 1) := by decide +kernel
theorem d_method_2_69 : decode method_2_code 69 = .ok (.ifCond .ge 7, 3) := by decide +kernel
theorem d_method_2_72 : decode method_2_code 72 = .ok (.aload_n 0, 1) := by decide +kernel
theorem d_method_2_73 : decode method_2_code 73 = .ok (.iconst 3, 1) := by decide +kernel
theorem d_method_2_74 : decode method_2_code 74 = .ok (.daload, 1) := by decide +kernel
theorem d_method_2_75 : decode method_2_code 75 = .ok (.dstore_n 2, 1) := by decide +kernel
theorem d_method_2_76 : decode method_2_code 76 = .ok (.aload_n 1, 1) := by decide +kernel
theorem d_method_2_77 : decode method_2_code 77 = .ok (.iconst 4, 1) := by decide +kernel
theorem d_method_2_78 : decode method_2_code 78 = .ok (.baload, 1) := by decide +kernel
theorem d_method_2_79 : decode method_2_code 79 = .ok (.ifCond .eq 15, 3) := by decide +kernel
theorem d_method_2_82 : decode method_2_code 82 = .ok (.aload_n 0, 1) := by decide +kernel
theorem d_method_2_83 : decode method_2_code 83 = .ok (.iconst 4, 1) := by decide +kernel
theorem d_method_2_84 : decode method_2_code 84 = .ok (.daload, 1) := by decide +kernel
theorem d_method_2_85 : decode method_2_code 85 = .ok (.dload_n 2, 1) := by decide +kernel
theorem d_method_2_86 : decode method_2_code 86 = .ok (.dcmp .g, 1) := by decide +kernel
theorem d_method_2_87 : decode method_2_code 87 = .ok (.ifCond .ge 7, 3) := by decide +kernel
theorem d_method_2_90 : decode method_2_code 90 = .ok (.aload_n 0, 1) := by decide +kernel
theorem d_method_2_91 : decode method_2_code 91 = .ok (.iconst 4, 1) := by decide +kernel
theorem d_method_2_92 : decode method_2_code 92 = .ok (.daload, 1) := by decide +kernel
theorem d_method_2_93 : decode method_2_code 93 = .ok (.dstore_n 2, 1) := by decide +kernel
theorem d_method_2_94 : decode method_2_code 94 = .ok (.dload_n 2, 1) := by decide +kernel
theorem d_method_2_95 : decode method_2_code 95 = .ok (.dreturn, 1) := by decide +kernel
theorem d_method_3_0 : decode method_3_code 0 = .ok (.iload_n 0, 1) := by decide +kernel
theorem d_method_3_1 : decode method_3_code 1 = .ok (.iload_n 1, 1) := by decide +kernel
theorem d_method_3_2 : decode method_3_code 2 = .ok (.isub, 1) := by decide +kernel
theorem d_method_3_3 : decode method_3_code 3 = .ok (.istore 4, 2) := by decide +kernel
theorem d_method_3_5 : decode method_3_code 5 = .ok (.iload 4, 2) := by decide +kernel
theorem d_method_3_7 : decode method_3_code 7 = .ok (.ifCond .lt 9, 3) := by decide +kernel
theorem d_method_3_10 : decode method_3_code 10 = .ok (.iload 4, 2) := by decide +kernel
theorem d_method_3_12 : decode method_3_code 12 = .ok (.iconst 4, 1) := by decide +kernel
theorem d_method_3_13 : decode method_3_code 13 = .ok (.if_icmp .le 5, 3) := by decide +kernel
theorem d_method_3_18 : decode method_3_code 18 = .ok (.aload_n 3, 1) := by decide +kernel
theorem d_method_3_19 : decode method_3_code 19 = .ok (.iload 4, 2) := by decide +kernel
theorem d_method_3_21 : decode method_3_code 21 = .ok (.baload, 1) := by decide +kernel
theorem d_method_3_22 : decode method_3_code 22 = .ok (.ifCond .ne 5, 3) := by decide +kernel
theorem d_method_3_27 : decode method_3_code 27 = .ok (.aload_n 2, 1) := by decide +kernel
theorem d_method_3_28 : decode method_3_code 28 = .ok (.aload_n 3, 1) := by decide +kernel
theorem d_method_3_29 : decode method_3_code 29 = .ok (.invokestatic 9, 3) := by decide +kernel
theorem d_method_3_32 : decode method_3_code 32 = .ok (.dstore 5, 2) := by decide +kernel
theorem d_method_3_34 : decode method_3_code 34 = .ok (.aload_n 3, 1) := by decide +kernel
theorem d_method_3_35 : decode method_3_code 35 = .ok (.iload 4, 2) := by decide +kernel
theorem d_method_3_37 : decode method_3_code 37 = .ok (.iconst 0, 1) := by decide +kernel
theorem d_method_3_38 : decode method_3_code 38 = .ok (.bastore, 1) := by decide +kernel
theorem d_method_3_39 : decode method_3_code 39 = .ok (.aload_n 2, 1) := by decide +kernel
theorem d_method_3_40 : decode method_3_code 40 = .ok (.iload 4, 2) := by decide +kernel
theorem d_method_3_42 : decode method_3_code 42 = .ok (.daload, 1) := by decide +kernel
theorem d_method_3_43 : decode method_3_code 43 = .ok (.dload 5, 2) := by decide +kernel
theorem d_method_3_45 : decode method_3_code 45 = .ok (.dcmp .l, 1) := by decide +kernel
theorem d_method_3_46 : decode method_3_code 46 = .ok (.ifCond .ne 7, 3) := by decide +kernel
theorem d_method_3_49 : decode method_3_code 49 = .ok (.iconst 1, 1) := by decide +kernel
theorem d_method_3_50 : decode method_3_code 50 = .ok (.goto 4, 3) := by decide +kernel
theorem d_method_3_54 : decode method_3_code 54 = .ok (.ireturn, 1) := by decide +kernel
theorem d_prog_13_method_1_0 : decode prog_13_method_1_code 0 = .ok (.aload_n 0, 1) := by decide +kernel
theorem d_prog_13_method_1_1 : decode prog_13_method_1_code 1 = .ok (.invokespecial 1, 3) := by decide +kernel
theorem d_prog_13_method_1_4 : decode prog_13_method_1_code 4 = .ok (.aload_n 0, 1) := by decide +kernel
theorem d_prog_13_method_1_5 : decode prog_13_method_1_code 5 = .ok (.bipush 64, 2) := by decide +kernel
theorem d_prog_13_method_1_7 : decode prog_13_method_1_code 7 = .ok (.newarray .double, 2) := by decide +kernel
theorem d_prog_13_method_1_9 : decode prog_13_method_1_code 9 = .ok (.putfield 7, 3) := by decide +kernel
theorem d_prog_13_method_1_12 : decode prog_13_method_1_code 12 = .ok (.aload_n 0, 1) := by decide +kernel
theorem d_prog_13_method_1_13 : decode prog_13_method_1_code 13 = .ok (.bipush 64, 2) := by decide +kernel
theorem d_prog_13_method_1_15 : decode prog_13_method_1_code 15 = .ok (.newarray .int, 2) := by decide +kernel
theorem d_prog_13_method_1_17 : decode prog_13_method_1_code 17 = .ok (.putfield 13, 3) := by decide +kernel
theorem d_prog_13_method_1_20 : decode prog_13_method_1_code 20 = .ok (.return_, 1) := by decide +kernel
theorem d_prog_13_method_3_0 : decode prog_13_method_3_code 0 = .ok (.aload_n 0, 1) := by decide +kernel
theorem d_prog_13_method_3_1 : decode prog_13_method_3_code 1 = .ok (.getfield 17, 3) := by decide +kernel
theorem d_prog_13_method_3_4 : decode prog_13_method_3_code 4 = .ok (.aload_n 0, 1) := by decide +kernel
theorem d_prog_13_method_3_5 : decode prog_13_method_3_code 5 = .ok (.getfield 7, 3) := by decide +kernel
theorem d_prog_13_method_3_8 : decode prog_13_method_3_code 8 = .ok (.arraylength, 1) := by decide +kernel
theorem d_prog_13_method_3_9 : decode prog_13_method_3_code 9 = .ok (.if_icmp .ne 37, 3) := by decide +kernel
theorem d_prog_13_method_3_46 : decode prog_13_method_3_code 46 = .ok (.aload_n 0, 1) := by decide +kernel
theorem d_prog_13_method_3_47 : decode prog_13_method_3_code 47 = .ok (.dup, 1) := by decide +kernel
theorem d_prog_13_method_3_48 : decode prog_13_method_3_code 48 = .ok (.getfield 17, 3) := by decide +kernel
theorem d_prog_13_method_3_51 : decode prog_13_method_3_code 51 = .ok (.dup_x1, 1) := by decide +kernel
theorem d_prog_13_method_3_52 : decode prog_13_method_3_code 52 = .ok (.iconst 1, 1) := by decide +kernel
theorem d_prog_13_method_3_53 : decode prog_13_method_3_code 53 = .ok (.iadd, 1) := by decide +kernel
theorem d_prog_13_method_3_54 : decode prog_13_method_3_code 54 = .ok (.putfield 17, 3) := by decide +kernel
theorem d_prog_13_method_3_57 : decode prog_13_method_3_code 57 = .ok (.istore 4, 2) := by decide +kernel
theorem d_prog_13_method_3_59 : decode prog_13_method_3_code 59 = .ok (.iload 4, 2) := by decide +kernel
theorem d_prog_13_method_3_61 : decode prog_13_method_3_code 61 = .ok (.ifCond .le 62, 3) := by decide +kernel
theorem d_prog_13_method_3_64 : decode prog_13_method_3_code 64 = .ok (.aload_n 0, 1) := by decide +kernel
theorem d_prog_13_method_3_65 : decode prog_13_method_3_code 65 = .ok (.getfield 7, 3) := by decide +kernel
theorem d_prog_13_method_3_68 : decode prog_13_method_3_code 68 = .ok (.iload 4, 2) := by decide +kernel
theorem d_prog_13_method_3_70 : decode prog_13_method_3_code 70 = .ok (.iconst 1, 1) := by decide +kernel
theorem d_prog_13_method_3_71 : decode prog_13_method_3_code 71 = .ok (.isub, 1) := by decide +kernel
theorem d_prog_13_method_3_72 : decode prog_13_method_3_code 72 = .ok (.iconst 2, 1) := by decide +kernel
theorem d_prog_13_method_3_73 : decode prog_13_method_3_code 73 = .ok (.idiv, 1) := by decide +kernel
theorem d_prog_13_method_3_74 : decode prog_13_method_3_code 74 = .ok (.daload, 1) := by decide +kernel
theorem d_prog_13_method_3_75 : decode prog_13_method_3_code 75 = .ok (.dload_n 2, 1) := by decide +kernel
theorem d_prog_13_method_3_76 : decode prog_13_method_3_code 76 = .ok (.dcmp .l, 1) := by decide +kernel
theorem d_prog_13_method_3_77 : decode prog_13_method_3_code 77 = .ok (.ifCond .le 46, 3) := by decide +kernel
theorem d_prog_13_method_3_80 : decode prog_13_method_3_code 80 = .ok (.iload 4, 2) := by decide +kernel
theorem d_prog_13_method_3_82 : decode prog_13_method_3_code 82 = .ok (.iconst 1, 1) := by decide +kernel
theorem d_prog_13_method_3_83 : decode prog_13_method_3_code 83 = .ok (.isub, 1) := by decide +kernel
theorem d_prog_13_method_3_84 : decode prog_13_method_3_code 84 = .ok (.iconst 2, 1) := by decide +kernel
theorem d_prog_13_method_3_85 : decode prog_13_method_3_code 85 = .ok (.idiv, 1) := by decide +kernel
theorem d_prog_13_method_3_86 : decode prog_13_method_3_code 86 = .ok (.istore 5, 2) := by decide +kernel
theorem d_prog_13_method_3_88 : decode prog_13_method_3_code 88 = .ok (.aload_n 0, 1) := by decide +kernel
theorem d_prog_13_method_3_89 : decode prog_13_method_3_code 89 = .ok (.getfield 7, 3) := by decide +kernel
theorem d_prog_13_method_3_92 : decode prog_13_method_3_code 92 = .ok (.iload 4, 2) := by decide +kernel
theorem d_prog_13_method_3_94 : decode prog_13_method_3_code 94 = .ok (.aload_n 0, 1) := by decide +kernel
theorem d_prog_13_method_3_95 : decode prog_13_method_3_code 95 = .ok (.getfield 7, 3) := by decide +kernel
theorem d_prog_13_method_3_98 : decode prog_13_method_3_code 98 = .ok (.iload 5, 2) := by decide +kernel
theorem d_prog_13_method_3_100 : decode prog_13_method_3_code 100 = .ok (.daload, 1) := by decide +kernel
theorem d_prog_13_method_3_101 : decode prog_13_method_3_code 101 = .ok (.dastore, 1) := by decide +kernel
theorem d_prog_13_method_3_102 : decode prog_13_method_3_code 102 = .ok (.aload_n 0, 1) := by decide +kernel
theorem d_prog_13_method_3_103 : decode prog_13_method_3_code 103 = .ok (.getfield 13, 3) := by decide +kernel
theorem d_prog_13_method_3_106 : decode prog_13_method_3_code 106 = .ok (.iload 4, 2) := by decide +kernel
theorem d_prog_13_method_3_108 : decode prog_13_method_3_code 108 = .ok (.aload_n 0, 1) := by decide +kernel
theorem d_prog_13_method_3_109 : decode prog_13_method_3_code 109 = .ok (.getfield 13, 3) := by decide +kernel
theorem d_prog_13_method_3_112 : decode prog_13_method_3_code 112 = .ok (.iload 5, 2) := by decide +kernel
theorem d_prog_13_method_3_114 : decode prog_13_method_3_code 114 = .ok (.iaload, 1) := by decide +kernel
theorem d_prog_13_method_3_115 : decode prog_13_method_3_code 115 = .ok (.iastore, 1) := by decide +kernel
theorem d_prog_13_method_3_116 : decode prog_13_method_3_code 116 = .ok (.iload 5, 2) := by decide +kernel
theorem d_prog_13_method_3_118 : decode prog_13_method_3_code 118 = .ok (.istore 4, 2) := by decide +kernel
theorem d_prog_13_method_3_120 : decode prog_13_method_3_code 120 = .ok (.goto (-61), 3) := by decide +kernel
theorem d_prog_13_method_3_123 : decode prog_13_method_3_code 123 = .ok (.aload_n 0, 1) := by decide +kernel
theorem d_prog_13_method_3_124 : decode prog_13_method_3_code 124 = .ok (.getfield 7, 3) := by decide +kernel
theorem d_prog_13_method_3_127 : decode prog_13_method_3_code 127 = .ok (.iload 4, 2) := by decide +kernel
theorem d_prog_13_method_3_129 : decode prog_13_method_3_code 129 = .ok (.dload_n 2, 1) := by decide +kernel
theorem d_prog_13_method_3_130 : decode prog_13_method_3_code 130 = .ok (.dastore, 1) := by decide +kernel
theorem d_prog_13_method_3_131 : decode prog_13_method_3_code 131 = .ok (.aload_n 0, 1) := by decide +kernel
theorem d_prog_13_method_3_132 : decode prog_13_method_3_code 132 = .ok (.getfield 13, 3) := by decide +kernel
theorem d_prog_13_method_3_135 : decode prog_13_method_3_code 135 = .ok (.iload 4, 2) := by decide +kernel
theorem d_prog_13_method_3_137 : decode prog_13_method_3_code 137 = .ok (.iload_n 1, 1) := by decide +kernel
theorem d_prog_13_method_3_138 : decode prog_13_method_3_code 138 = .ok (.iastore, 1) := by decide +kernel
theorem d_prog_13_method_3_139 : decode prog_13_method_3_code 139 = .ok (.return_, 1) := by decide +kernel
theorem d_prog_13_method_4_0 : decode prog_13_method_4_code 0 = .ok (.aload_n 0, 1) := by decide +kernel
theorem d_prog_13_method_4_1 : decode prog_13_method_4_code 1 = .ok (.getfield 13, 3) := by decide +kernel
theorem d_prog_13_method_4_4 : decode prog_13_method_4_code 4 = .ok (.iconst 0, 1) := by decide +kernel
theorem d_prog_13_method_4_5 : decode prog_13_method_4_code 5 = .ok (.iaload, 1) := by decide +kernel
theorem d_prog_13_method_4_6 : decode prog_13_method_4_code 6 = .ok (.istore_n 1, 1) := by decide +kernel
theorem d_prog_13_method_4_7 : decode prog_13_method_4_code 7 = .ok (.aload_n 0, 1) := by decide +kernel
theorem d_prog_13_method_4_8 : decode prog_13_method_4_code 8 = .ok (.dup, 1) := by decide +kernel
theorem d_prog_13_method_4_9 : decode prog_13_method_4_code 9 = .ok (.getfield 17, 3) := by decide +kernel
theorem d_prog_13_method_4_12 : decode prog_13_method_4_code 12 = .ok (.iconst 1, 1) := by decide +kernel
theorem d_prog_13_method_4_13 : decode prog_13_method_4_code 13 = .ok (.isub, 1) := by decide +kernel
theorem d_prog_13_method_4_14 : decode prog_13_method_4_code 14 = .ok (.putfield 17, 3) := by decide +kernel
theorem d_prog_13_method_4_17 : decode prog_13_method_4_code 17 = .ok (.aload_n 0, 1) := by decide +kernel
theorem d_prog_13_method_4_18 : decode prog_13_method_4_code 18 = .ok (.getfield 7, 3) := by decide +kernel
theorem d_prog_13_method_4_21 : decode prog_13_method_4_code 21 = .ok (.aload_n 0, 1) := by decide +kernel
theorem d_prog_13_method_4_22 : decode prog_13_method_4_code 22 = .ok (.getfield 17, 3) := by decide +kernel
theorem d_prog_13_method_4_25 : decode prog_13_method_4_code 25 = .ok (.daload, 1) := by decide +kernel
theorem d_prog_13_method_4_26 : decode prog_13_method_4_code 26 = .ok (.dstore_n 2, 1) := by decide +kernel
theorem d_prog_13_method_4_27 : decode prog_13_method_4_code 27 = .ok (.aload_n 0, 1) := by decide +kernel
theorem d_prog_13_method_4_28 : decode prog_13_method_4_code 28 = .ok (.getfield 13, 3) := by decide +kernel
theorem d_prog_13_method_4_31 : decode prog_13_method_4_code 31 = .ok (.aload_n 0, 1) := by decide +kernel
theorem d_prog_13_method_4_32 : decode prog_13_method_4_code 32 = .ok (.getfield 17, 3) := by decide +kernel
theorem d_prog_13_method_4_35 : decode prog_13_method_4_code 35 = .ok (.iaload, 1) := by decide +kernel
theorem d_prog_13_method_4_36 : decode prog_13_method_4_code 36 = .ok (.istore 4, 2) := by decide +kernel
theorem d_prog_13_method_4_38 : decode prog_13_method_4_code 38 = .ok (.iconst 0, 1) := by decide +kernel
theorem d_prog_13_method_4_39 : decode prog_13_method_4_code 39 = .ok (.istore 5, 2) := by decide +kernel
theorem d_prog_13_method_4_41 : decode prog_13_method_4_code 41 = .ok (.iconst 2, 1) := by decide +kernel
theorem d_prog_13_method_4_42 : decode prog_13_method_4_code 42 = .ok (.iload 5, 2) := by decide +kernel
theorem d_prog_13_method_4_44 : decode prog_13_method_4_code 44 = .ok (.imul, 1) := by decide +kernel
theorem d_prog_13_method_4_45 : decode prog_13_method_4_code 45 = .ok (.iconst 1, 1) := by decide +kernel
theorem d_prog_13_method_4_46 : decode prog_13_method_4_code 46 = .ok (.iadd, 1) := by decide +kernel
theorem d_prog_13_method_4_47 : decode prog_13_method_4_code 47 = .ok (.aload_n 0, 1) := by decide +kernel
theorem d_prog_13_method_4_48 : decode prog_13_method_4_code 48 = .ok (.getfield 17, 3) := by decide +kernel
theorem d_prog_13_method_4_51 : decode prog_13_method_4_code 51 = .ok (.if_icmp .ge 95, 3) := by decide +kernel
theorem d_prog_13_method_4_54 : decode prog_13_method_4_code 54 = .ok (.iconst 2, 1) := by decide +kernel
theorem d_prog_13_method_4_55 : decode prog_13_method_4_code 55 = .ok (.iload 5, 2) := by decide +kernel
theorem d_prog_13_method_4_57 : decode prog_13_method_4_code 57 = .ok (.imul, 1) := by decide +kernel
theorem d_prog_13_method_4_58 : decode prog_13_method_4_code 58 = .ok (.iconst 1, 1) := by decide +kernel
theorem d_prog_13_method_4_59 : decode prog_13_method_4_code 59 = .ok (.iadd, 1) := by decide +kernel
theorem d_prog_13_method_4_60 : decode prog_13_method_4_code 60 = .ok (.istore 6, 2) := by decide +kernel
theorem d_prog_13_method_4_62 : decode prog_13_method_4_code 62 = .ok (.iload 6, 2) := by decide +kernel
theorem d_prog_13_method_4_64 : decode prog_13_method_4_code 64 = .ok (.iconst 1, 1) := by decide +kernel
theorem d_prog_13_method_4_65 : decode prog_13_method_4_code 65 = .ok (.iadd, 1) := by decide +kernel
theorem d_prog_13_method_4_66 : decode prog_13_method_4_code 66 = .ok (.aload_n 0, 1) := by decide +kernel
theorem d_prog_13_method_4_67 : decode prog_13_method_4_code 67 = .ok (.getfield 17, 3) := by decide +kernel
theorem d_prog_13_method_4_70 : decode prog_13_method_4_code 70 = .ok (.if_icmp .ge 26, 3) := by decide +kernel
theorem d_prog_13_method_4_73 : decode prog_13_method_4_code 73 = .ok (.aload_n 0, 1) := by decide +kernel
theorem d_prog_13_method_4_74 : decode prog_13_method_4_code 74 = .ok (.getfield 7, 3) := by decide +kernel
theorem d_prog_13_method_4_77 : decode prog_13_method_4_code 77 = .ok (.iload 6, 2) := by decide +kernel
theorem d_prog_13_method_4_79 : decode prog_13_method_4_code 79 = .ok (.iconst 1, 1) := by decide +kernel
theorem d_prog_13_method_4_80 : decode prog_13_method_4_code 80 = .ok (.iadd, 1) := by decide +kernel
theorem d_prog_13_method_4_81 : decode prog_13_method_4_code 81 = .ok (.daload, 1) := by decide +kernel
theorem d_prog_13_method_4_82 : decode prog_13_method_4_code 82 = .ok (.aload_n 0, 1) := by decide +kernel
theorem d_prog_13_method_4_83 : decode prog_13_method_4_code 83 = .ok (.getfield 7, 3) := by decide +kernel
theorem d_prog_13_method_4_86 : decode prog_13_method_4_code 86 = .ok (.iload 6, 2) := by decide +kernel
theorem d_prog_13_method_4_88 : decode prog_13_method_4_code 88 = .ok (.daload, 1) := by decide +kernel
theorem d_prog_13_method_4_89 : decode prog_13_method_4_code 89 = .ok (.dcmp .g, 1) := by decide +kernel
theorem d_prog_13_method_4_90 : decode prog_13_method_4_code 90 = .ok (.ifCond .ge 6, 3) := by decide +kernel
theorem d_prog_13_method_4_93 : decode prog_13_method_4_code 93 = .ok (.iinc 6 1, 3) := by decide +kernel
theorem d_prog_13_method_4_96 : decode prog_13_method_4_code 96 = .ok (.aload_n 0, 1) := by decide +kernel
theorem d_prog_13_method_4_97 : decode prog_13_method_4_code 97 = .ok (.getfield 7, 3) := by decide +kernel
theorem d_prog_13_method_4_100 : decode prog_13_method_4_code 100 = .ok (.iload 6, 2) := by decide +kernel
theorem d_prog_13_method_4_102 : decode prog_13_method_4_code 102 = .ok (.daload, 1) := by decide +kernel
theorem d_prog_13_method_4_103 : decode prog_13_method_4_code 103 = .ok (.dload_n 2, 1) := by decide +kernel
theorem d_prog_13_method_4_104 : decode prog_13_method_4_code 104 = .ok (.dcmp .l, 1) := by decide +kernel
theorem d_prog_13_method_4_105 : decode prog_13_method_4_code 105 = .ok (.ifCond .lt 6, 3) := by decide +kernel
theorem d_prog_13_method_4_108 : decode prog_13_method_4_code 108 = .ok (.goto 38, 3) := by decide +kernel
theorem d_prog_13_method_4_111 : decode prog_13_method_4_code 111 = .ok (.aload_n 0, 1) := by decide +kernel
theorem d_prog_13_method_4_112 : decode prog_13_method_4_code 112 = .ok (.getfield 7, 3) := by decide +kernel
theorem d_prog_13_method_4_115 : decode prog_13_method_4_code 115 = .ok (.iload 5, 2) := by decide +kernel
theorem d_prog_13_method_4_117 : decode prog_13_method_4_code 117 = .ok (.aload_n 0, 1) := by decide +kernel
theorem d_prog_13_method_4_118 : decode prog_13_method_4_code 118 = .ok (.getfield 7, 3) := by decide +kernel
theorem d_prog_13_method_4_121 : decode prog_13_method_4_code 121 = .ok (.iload 6, 2) := by decide +kernel
theorem d_prog_13_method_4_123 : decode prog_13_method_4_code 123 = .ok (.daload, 1) := by decide +kernel
theorem d_prog_13_method_4_124 : decode prog_13_method_4_code 124 = .ok (.dastore, 1) := by decide +kernel
theorem d_prog_13_method_4_125 : decode prog_13_method_4_code 125 = .ok (.aload_n 0, 1) := by decide +kernel
theorem d_prog_13_method_4_126 : decode prog_13_method_4_code 126 = .ok (.getfield 13, 3) := by decide +kernel
theorem d_prog_13_method_4_129 : decode prog_13_method_4_code 129 = .ok (.iload 5, 2) := by decide +kernel
theorem d_prog_13_method_4_131 : decode prog_13_method_4_code 131 = .ok (.aload_n 0, 1) := by decide +kernel
theorem d_prog_13_method_4_132 : decode prog_13_method_4_code 132 = .ok (.getfield 13, 3) := by decide +kernel
theorem d_prog_13_method_4_135 : decode prog_13_method_4_code 135 = .ok (.iload 6, 2) := by decide +kernel
theorem d_prog_13_method_4_137 : decode prog_13_method_4_code 137 = .ok (.iaload, 1) := by decide +kernel
theorem d_prog_13_method_4_138 : decode prog_13_method_4_code 138 = .ok (.iastore, 1) := by decide +kernel
theorem d_prog_13_method_4_139 : decode prog_13_method_4_code 139 = .ok (.iload 6, 2) := by decide +kernel
theorem d_prog_13_method_4_141 : decode prog_13_method_4_code 141 = .ok (.istore 5, 2) := by decide +kernel
theorem d_prog_13_method_4_143 : decode prog_13_method_4_code 143 = .ok (.goto (-102), 3) := by decide +kernel
theorem d_prog_13_method_4_146 : decode prog_13_method_4_code 146 = .ok (.aload_n 0, 1) := by decide +kernel
theorem d_prog_13_method_4_147 : decode prog_13_method_4_code 147 = .ok (.getfield 7, 3) := by decide +kernel
theorem d_prog_13_method_4_150 : decode prog_13_method_4_code 150 = .ok (.iload 5, 2) := by decide +kernel
theorem d_prog_13_method_4_152 : decode prog_13_method_4_code 152 = .ok (.dload_n 2, 1) := by decide +kernel
theorem d_prog_13_method_4_153 : decode prog_13_method_4_code 153 = .ok (.dastore, 1) := by decide +kernel
theorem d_prog_13_method_4_154 : decode prog_13_method_4_code 154 = .ok (.aload_n 0, 1) := by decide +kernel
theorem d_prog_13_method_4_155 : decode prog_13_method_4_code 155 = .ok (.getfield 13, 3) := by decide +kernel
theorem d_prog_13_method_4_158 : decode prog_13_method_4_code 158 = .ok (.iload 5, 2) := by decide +kernel
theorem d_prog_13_method_4_160 : decode prog_13_method_4_code 160 = .ok (.iload 4, 2) := by decide +kernel
theorem d_prog_13_method_4_162 : decode prog_13_method_4_code 162 = .ok (.iastore, 1) := by decide +kernel
theorem d_prog_13_method_4_163 : decode prog_13_method_4_code 163 = .ok (.iload_n 1, 1) := by decide +kernel
theorem d_prog_13_method_4_164 : decode prog_13_method_4_code 164 = .ok (.ireturn, 1) := by decide +kernel
theorem wd0 {a0 : Array Value} {Z : State} (hw : ∀ d ∈ tables_1, d.before a0 Z = true) : Jvm.Cond.before (Jvm.Cond.arrayClass Jvm.ClassFile.FieldType.double) a0 Z = true := hw _ (List.mem_of_getElem? (i := 0) rfl)
theorem wd1 {a0 : Array Value} {Z : State} (hw : ∀ d ∈ tables_1, d.before a0 Z = true) : Jvm.Cond.before (Jvm.Cond.arrayClass Jvm.ClassFile.FieldType.boolean) a0 Z = true := hw _ (List.mem_of_getElem? (i := 1) rfl)
theorem wd2 {a0 : Array Value} {Z : State} (hw : ∀ d ∈ tables_1, d.before a0 Z = true) : Jvm.Cond.before (Jvm.Cond.classLink "com/example/routeloom/routeloom/MinQueueRemoveMinPinLaw" (15 : Nat) "com/example/routeloom/routeloom/MinQueue") a0 Z = true := hw _ (List.mem_of_getElem? (i := 2) rfl)
theorem wd3 {a0 : Array Value} {Z : State} (hw : ∀ d ∈ tables_1, d.before a0 Z = true) : Jvm.Cond.before (Jvm.Cond.instantiable "com/example/routeloom/routeloom/MinQueue" (3 : Nat)) a0 Z = true := hw _ (List.mem_of_getElem? (i := 3) rfl)
theorem wd4 {a0 : Array Value} {Z : State} (hw : ∀ d ∈ tables_1, d.before a0 Z = true) : Jvm.Cond.before (Jvm.Cond.initialized "com/example/routeloom/routeloom/MinQueue") a0 Z = true := hw _ (List.mem_of_getElem? (i := 4) rfl)
theorem wd5 {a0 : Array Value} {Z : State} (hw : ∀ d ∈ tables_1, d.before a0 Z = true) : Jvm.Cond.before (Jvm.Cond.methodLink "com/example/routeloom/routeloom/MinQueueRemoveMinPinLaw" (17 : Nat) ({ cls := "com/example/routeloom/routeloom/MinQueue", name := "<init>", desc := "()V" } : Jvm.MethodName)) a0 Z = true := hw _ (List.mem_of_getElem? (i := 5) rfl)
theorem wd6 {a0 : Array Value} {Z : State} (hw : ∀ d ∈ tables_1, d.before a0 Z = true) : Jvm.Cond.before (Jvm.Cond.instanceMethod ({ cls := "com/example/routeloom/routeloom/MinQueue", name := "<init>", desc := "()V" } : Jvm.MethodName)) a0 Z = true := hw _ (List.mem_of_getElem? (i := 6) rfl)
theorem wd7 {a0 : Array Value} {Z : State} (hw : ∀ d ∈ tables_1, d.before a0 Z = true) : Jvm.Cond.before (Jvm.Cond.code ({ cls := "com/example/routeloom/routeloom/MinQueue", name := "<init>", desc := "()V" } : Jvm.MethodName) prog_13_method_1_code (1 : Nat) (Option.none : Option Jvm.ClassFile.FieldType)) a0 Z = true := hw _ (List.mem_of_getElem? (i := 7) rfl)
theorem wd8 {a0 : Array Value} {Z : State} (hw : ∀ d ∈ tables_1, d.before a0 Z = true) : Jvm.Cond.before (Jvm.Cond.methodLink "com/example/routeloom/routeloom/MinQueue" (1 : Nat) ({ cls := "java/lang/Object", name := "<init>", desc := "()V" } : Jvm.MethodName)) a0 Z = true := hw _ (List.mem_of_getElem? (i := 8) rfl)
theorem wd9 {a0 : Array Value} {Z : State} (hw : ∀ d ∈ tables_1, d.before a0 Z = true) : Jvm.Cond.before (Jvm.Cond.instanceMethod ({ cls := "java/lang/Object", name := "<init>", desc := "()V" } : Jvm.MethodName)) a0 Z = true := hw _ (List.mem_of_getElem? (i := 9) rfl)
theorem wd10 {a0 : Array Value} {Z : State} (hw : ∀ d ∈ tables_1, d.before a0 Z = true) : Jvm.Cond.before (Jvm.Cond.code ({ cls := "java/lang/Object", name := "<init>", desc := "()V" } : Jvm.MethodName) object_method_1_code (1 : Nat) (Option.none : Option Jvm.ClassFile.FieldType)) a0 Z = true := hw _ (List.mem_of_getElem? (i := 10) rfl)
theorem wd11 {a0 : Array Value} {Z : State} (hw : ∀ d ∈ tables_1, d.before a0 Z = true) : Jvm.Cond.before (Jvm.Cond.fieldLink "com/example/routeloom/routeloom/MinQueue" (7 : Nat) "com/example/routeloom/routeloom/MinQueue" "keys" "[D") a0 Z = true := hw _ (List.mem_of_getElem? (i := 11) rfl)
theorem wd12 {a0 : Array Value} {Z : State} (hw : ∀ d ∈ tables_1, d.before a0 Z = true) : Jvm.Cond.before (Jvm.Cond.lays "com/example/routeloom/routeloom/MinQueue" "com/example/routeloom/routeloom/MinQueue" "keys" "[D") a0 Z = true := hw _ (List.mem_of_getElem? (i := 12) rfl)
theorem wd13 {a0 : Array Value} {Z : State} (hw : ∀ d ∈ tables_1, d.before a0 Z = true) : Jvm.Cond.before (Jvm.Cond.arrayClass Jvm.ClassFile.FieldType.int) a0 Z = true := hw _ (List.mem_of_getElem? (i := 13) rfl)
theorem wd14 {a0 : Array Value} {Z : State} (hw : ∀ d ∈ tables_1, d.before a0 Z = true) : Jvm.Cond.before (Jvm.Cond.fieldLink "com/example/routeloom/routeloom/MinQueue" (13 : Nat) "com/example/routeloom/routeloom/MinQueue" "items" "[I") a0 Z = true := hw _ (List.mem_of_getElem? (i := 14) rfl)
theorem wd15 {a0 : Array Value} {Z : State} (hw : ∀ d ∈ tables_1, d.before a0 Z = true) : Jvm.Cond.before (Jvm.Cond.lays "com/example/routeloom/routeloom/MinQueue" "com/example/routeloom/routeloom/MinQueue" "items" "[I") a0 Z = true := hw _ (List.mem_of_getElem? (i := 15) rfl)
theorem wd16 {a0 : Array Value} {Z : State} (hw : ∀ d ∈ tables_1, d.before a0 Z = true) : Jvm.Cond.before (Jvm.Cond.methodLink "com/example/routeloom/routeloom/MinQueueRemoveMinPinLaw" (18 : Nat) ({ cls := "com/example/routeloom/routeloom/MinQueue", name := "add", desc := "(ID)V" } : Jvm.MethodName)) a0 Z = true := hw _ (List.mem_of_getElem? (i := 16) rfl)
theorem wd17 {a0 : Array Value} {Z : State} (hw : ∀ d ∈ tables_1, d.before a0 Z = true) : Jvm.Cond.before (Jvm.Cond.declares ({ cls := "com/example/routeloom/routeloom/MinQueue", name := "add", desc := "(ID)V" } : Jvm.MethodName)) a0 Z = true := hw _ (List.mem_of_getElem? (i := 17) rfl)
theorem wd18 {a0 : Array Value} {Z : State} (hw : ∀ d ∈ tables_1, d.before a0 Z = true) : Jvm.Cond.before (Jvm.Cond.instanceMethod ({ cls := "com/example/routeloom/routeloom/MinQueue", name := "add", desc := "(ID)V" } : Jvm.MethodName)) a0 Z = true := hw _ (List.mem_of_getElem? (i := 18) rfl)
theorem wd19 {a0 : Array Value} {Z : State} (hw : ∀ d ∈ tables_1, d.before a0 Z = true) : Jvm.Cond.before (Jvm.Cond.selects "com/example/routeloom/routeloom/MinQueue" ({ cls := "com/example/routeloom/routeloom/MinQueue", name := "add", desc := "(ID)V" } : Jvm.MethodName) ({ cls := "com/example/routeloom/routeloom/MinQueue", name := "add", desc := "(ID)V" } : Jvm.MethodName)) a0 Z = true := hw _ (List.mem_of_getElem? (i := 19) rfl)
theorem wd20 {a0 : Array Value} {Z : State} (hw : ∀ d ∈ tables_1, d.before a0 Z = true) : Jvm.Cond.before (Jvm.Cond.code ({ cls := "com/example/routeloom/routeloom/MinQueue", name := "add", desc := "(ID)V" } : Jvm.MethodName) prog_13_method_3_code (6 : Nat) (Option.none : Option Jvm.ClassFile.FieldType)) a0 Z = true := hw _ (List.mem_of_getElem? (i := 20) rfl)
theorem wd21 {a0 : Array Value} {Z : State} (hw : ∀ d ∈ tables_1, d.before a0 Z = true) : Jvm.Cond.before (Jvm.Cond.fieldLink "com/example/routeloom/routeloom/MinQueue" (17 : Nat) "com/example/routeloom/routeloom/MinQueue" "size" "I") a0 Z = true := hw _ (List.mem_of_getElem? (i := 21) rfl)
theorem wd22 {a0 : Array Value} {Z : State} (hw : ∀ d ∈ tables_1, d.before a0 Z = true) : Jvm.Cond.before (Jvm.Cond.lays "com/example/routeloom/routeloom/MinQueue" "com/example/routeloom/routeloom/MinQueue" "size" "I") a0 Z = true := hw _ (List.mem_of_getElem? (i := 22) rfl)
theorem wd23 {a0 : Array Value} {Z : State} (hw : ∀ d ∈ tables_1, d.before a0 Z = true) : Jvm.Cond.before (Jvm.Cond.methodLink "com/example/routeloom/routeloom/MinQueueRemoveMinPinLaw" (22 : Nat) ({ cls := "com/example/routeloom/routeloom/MinQueue", name := "removeMin", desc := "()I" } : Jvm.MethodName)) a0 Z = true := hw _ (List.mem_of_getElem? (i := 23) rfl)
theorem wd24 {a0 : Array Value} {Z : State} (hw : ∀ d ∈ tables_1, d.before a0 Z = true) : Jvm.Cond.before (Jvm.Cond.declares ({ cls := "com/example/routeloom/routeloom/MinQueue", name := "removeMin", desc := "()I" } : Jvm.MethodName)) a0 Z = true := hw _ (List.mem_of_getElem? (i := 24) rfl)
theorem wd25 {a0 : Array Value} {Z : State} (hw : ∀ d ∈ tables_1, d.before a0 Z = true) : Jvm.Cond.before (Jvm.Cond.instanceMethod ({ cls := "com/example/routeloom/routeloom/MinQueue", name := "removeMin", desc := "()I" } : Jvm.MethodName)) a0 Z = true := hw _ (List.mem_of_getElem? (i := 25) rfl)
theorem wd26 {a0 : Array Value} {Z : State} (hw : ∀ d ∈ tables_1, d.before a0 Z = true) : Jvm.Cond.before (Jvm.Cond.selects "com/example/routeloom/routeloom/MinQueue" ({ cls := "com/example/routeloom/routeloom/MinQueue", name := "removeMin", desc := "()I" } : Jvm.MethodName) ({ cls := "com/example/routeloom/routeloom/MinQueue", name := "removeMin", desc := "()I" } : Jvm.MethodName)) a0 Z = true := hw _ (List.mem_of_getElem? (i := 26) rfl)
theorem wd27 {a0 : Array Value} {Z : State} (hw : ∀ d ∈ tables_1, d.before a0 Z = true) : Jvm.Cond.before (Jvm.Cond.code ({ cls := "com/example/routeloom/routeloom/MinQueue", name := "removeMin", desc := "()I" } : Jvm.MethodName) prog_13_method_4_code (7 : Nat) (Option.some Jvm.ClassFile.FieldType.int)) a0 Z = true := hw _ (List.mem_of_getElem? (i := 27) rfl)
theorem wd28 {a0 : Array Value} {Z : State} (hw : ∀ d ∈ tables_1, d.before a0 Z = true) : Jvm.Cond.before (Jvm.Cond.methodLink "com/example/routeloom/routeloom/MinQueueRemoveMinPinLaw" (26 : Nat) ({ cls := "com/example/routeloom/routeloom/MinQueueRemoveMinPinLaw", name := "step", desc := "(II[D[Z)Z" } : Jvm.MethodName)) a0 Z = true := hw _ (List.mem_of_getElem? (i := 28) rfl)
theorem wd29 {a0 : Array Value} {Z : State} (hw : ∀ d ∈ tables_1, d.before a0 Z = true) : Jvm.Cond.before (Jvm.Cond.static ({ cls := "com/example/routeloom/routeloom/MinQueueRemoveMinPinLaw", name := "step", desc := "(II[D[Z)Z" } : Jvm.MethodName)) a0 Z = true := hw _ (List.mem_of_getElem? (i := 29) rfl)
theorem wd30 {a0 : Array Value} {Z : State} (hw : ∀ d ∈ tables_1, d.before a0 Z = true) : Jvm.Cond.before (Jvm.Cond.initialized "com/example/routeloom/routeloom/MinQueueRemoveMinPinLaw") a0 Z = true := hw _ (List.mem_of_getElem? (i := 30) rfl)
theorem wd31 {a0 : Array Value} {Z : State} (hw : ∀ d ∈ tables_1, d.before a0 Z = true) : Jvm.Cond.before (Jvm.Cond.code ({ cls := "com/example/routeloom/routeloom/MinQueueRemoveMinPinLaw", name := "step", desc := "(II[D[Z)Z" } : Jvm.MethodName) method_3_code (7 : Nat) (Option.some Jvm.ClassFile.FieldType.boolean)) a0 Z = true := hw _ (List.mem_of_getElem? (i := 31) rfl)
theorem wd32 {a0 : Array Value} {Z : State} (hw : ∀ d ∈ tables_1, d.before a0 Z = true) : Jvm.Cond.before (Jvm.Cond.methodLink "com/example/routeloom/routeloom/MinQueueRemoveMinPinLaw" (9 : Nat) ({ cls := "com/example/routeloom/routeloom/MinQueueRemoveMinPinLaw", name := "minPresent", desc := "([D[Z)D" } : Jvm.MethodName)) a0 Z = true := hw _ (List.mem_of_getElem? (i := 32) rfl)
theorem wd33 {a0 : Array Value} {Z : State} (hw : ∀ d ∈ tables_1, d.before a0 Z = true) : Jvm.Cond.before (Jvm.Cond.static ({ cls := "com/example/routeloom/routeloom/MinQueueRemoveMinPinLaw", name := "minPresent", desc := "([D[Z)D" } : Jvm.MethodName)) a0 Z = true := hw _ (List.mem_of_getElem? (i := 33) rfl)
theorem wd34 {a0 : Array Value} {Z : State} (hw : ∀ d ∈ tables_1, d.before a0 Z = true) : Jvm.Cond.before (Jvm.Cond.code ({ cls := "com/example/routeloom/routeloom/MinQueueRemoveMinPinLaw", name := "minPresent", desc := "([D[Z)D" } : Jvm.MethodName) method_2_code (4 : Nat) (Option.some Jvm.ClassFile.FieldType.double)) a0 Z = true := hw _ (List.mem_of_getElem? (i := 34) rfl)
theorem wd35 {a0 : Array Value} {Z : State} (hw : ∀ d ∈ tables_1, d.before a0 Z = true) : Jvm.Cond.before (Jvm.Cond.constantDouble "com/example/routeloom/routeloom/MinQueueRemoveMinPinLaw" (7 : Nat) (4636737291354636288 : UInt64)) a0 Z = true := hw _ (List.mem_of_getElem? (i := 35) rfl)
theorem sn_MinQueue_items_keys {a0 : Array Value} {Z : State} (hw : ∀ d ∈ tables_1, d.before a0 Z = true) : Jvm.RoadKit.slotOf Z "com/example/routeloom/routeloom/MinQueue" "items" "[I" ≠ Jvm.RoadKit.slotOf Z "com/example/routeloom/routeloom/MinQueue" "keys" "[D" := slot_ne (C := "com/example/routeloom/routeloom/MinQueue") (a0 := a0) (t := (.array .int)) (t' := (.array .double)) (Or.inl (wd15 hw)) (Or.inl (wd12 hw)) (by decide) (by decide) (by decide)
theorem sn_MinQueue_size_keys {a0 : Array Value} {Z : State} (hw : ∀ d ∈ tables_1, d.before a0 Z = true) : Jvm.RoadKit.slotOf Z "com/example/routeloom/routeloom/MinQueue" "size" "I" ≠ Jvm.RoadKit.slotOf Z "com/example/routeloom/routeloom/MinQueue" "keys" "[D" := slot_ne (C := "com/example/routeloom/routeloom/MinQueue") (a0 := a0) (t := .int) (t' := (.array .double)) (Or.inl (wd22 hw)) (Or.inl (wd12 hw)) (by decide) (by decide) (by decide)
theorem sn_MinQueue_keys_items {a0 : Array Value} {Z : State} (hw : ∀ d ∈ tables_1, d.before a0 Z = true) : Jvm.RoadKit.slotOf Z "com/example/routeloom/routeloom/MinQueue" "keys" "[D" ≠ Jvm.RoadKit.slotOf Z "com/example/routeloom/routeloom/MinQueue" "items" "[I" := slot_ne (C := "com/example/routeloom/routeloom/MinQueue") (a0 := a0) (t := (.array .double)) (t' := (.array .int)) (Or.inl (wd12 hw)) (Or.inl (wd15 hw)) (by decide) (by decide) (by decide)
theorem sn_MinQueue_size_items {a0 : Array Value} {Z : State} (hw : ∀ d ∈ tables_1, d.before a0 Z = true) : Jvm.RoadKit.slotOf Z "com/example/routeloom/routeloom/MinQueue" "size" "I" ≠ Jvm.RoadKit.slotOf Z "com/example/routeloom/routeloom/MinQueue" "items" "[I" := slot_ne (C := "com/example/routeloom/routeloom/MinQueue") (a0 := a0) (t := .int) (t' := (.array .int)) (Or.inl (wd22 hw)) (Or.inl (wd15 hw)) (by decide) (by decide) (by decide)
theorem sn_MinQueue_keys_size {a0 : Array Value} {Z : State} (hw : ∀ d ∈ tables_1, d.before a0 Z = true) : Jvm.RoadKit.slotOf Z "com/example/routeloom/routeloom/MinQueue" "keys" "[D" ≠ Jvm.RoadKit.slotOf Z "com/example/routeloom/routeloom/MinQueue" "size" "I" := slot_ne (C := "com/example/routeloom/routeloom/MinQueue") (a0 := a0) (t := (.array .double)) (t' := .int) (Or.inl (wd12 hw)) (Or.inl (wd22 hw)) (by decide) (by decide) (by decide)
theorem sn_MinQueue_items_size {a0 : Array Value} {Z : State} (hw : ∀ d ∈ tables_1, d.before a0 Z = true) : Jvm.RoadKit.slotOf Z "com/example/routeloom/routeloom/MinQueue" "items" "[I" ≠ Jvm.RoadKit.slotOf Z "com/example/routeloom/routeloom/MinQueue" "size" "I" := slot_ne (C := "com/example/routeloom/routeloom/MinQueue") (a0 := a0) (t := (.array .int)) (t' := .int) (Or.inl (wd15 hw)) (Or.inl (wd22 hw)) (by decide) (by decide) (by decide)
theorem pd0 : parseMethodDescriptor "([D[Z)D" = some ⟨[(.array .double), (.array .boolean)], some .double⟩ := by decide +kernel
theorem pd1 : parseMethodDescriptor "()V" = some ⟨[], none⟩ := by decide +kernel
theorem pd2 : parseMethodDescriptor "(ID)V" = some ⟨[.int, .double], none⟩ := by decide +kernel
theorem pd3 : parseMethodDescriptor "()I" = some ⟨[], some .int⟩ := by decide +kernel
theorem pd4 : parseMethodDescriptor "(II[D[Z)Z" = some ⟨[.int, .int, (.array .double), (.array .boolean)], some .boolean⟩ := by decide +kernel
theorem pn0 : plainName "com/example/routeloom/routeloom/MinQueue" = true := by first | (simp [plainName, overriddenIn]; done) | decide +kernel
theorem pn1 : plainName "com/example/routeloom/routeloom/MinQueueRemoveMinPinLaw" = true := by first | (simp [plainName, overriddenIn]; done) | decide +kernel
/-- the sift of 'add': the hole goes up -/
def up (key : UInt64) (item : Int32) (K : List UInt64) (I : List Int32) (hole : Nat) : List UInt64 × List Int32 :=
  if h : 0 < hole then
    if FP.dcmp (K.getD ((hole - 1) / 2) 0) key = some .gt then up key item (K.set hole (K.getD ((hole - 1) / 2) 0)) (I.set hole (I.getD ((hole - 1) / 2) 0)) ((hole - 1) / 2)
    else (K.set hole key, I.set hole item)
  else (K.set hole key, I.set hole item)
termination_by hole
decreasing_by omega
theorem up_zero {key : UInt64} {item : Int32} {K : List UInt64} {I : List Int32} {i : Nat} (h : ¬ 0 < i) : up key item K I i = (K.set i key, I.set i item) := by rw [up, dif_neg h]
theorem up_stop {key : UInt64} {item : Int32} {K : List UInt64} {I : List Int32} {i : Nat} (h : 0 < i) (c : ¬ FP.dcmp (K.getD ((i - 1) / 2) 0) key = some .gt) : up key item K I i = (K.set i key, I.set i item) := by rw [up, dif_pos h, if_neg c]
theorem up_go {key : UInt64} {item : Int32} {K : List UInt64} {I : List Int32} {i : Nat} (h : 0 < i) (c : FP.dcmp (K.getD ((i - 1) / 2) 0) key = some .gt) : up key item K I i = up key item (K.set i (K.getD ((i - 1) / 2) 0)) (I.set i (I.getD ((i - 1) / 2) 0)) ((i - 1) / 2) := by rw [up, dif_pos h, if_pos c]
theorem up_len {key : UInt64} {item : Int32} : ∀ (i : Nat) (K : List UInt64) (I : List Int32), (up key item K I i).1.length = K.length ∧ (up key item K I i).2.length = I.length := by
  intro i
  induction i using Nat.strongRecOn with
  | _ i ih =>
    intro K I
    by_cases h : 0 < i
    · by_cases c : FP.dcmp (K.getD ((i - 1) / 2) 0) key = some .gt
      · rw [up_go h c]; obtain ⟨a, b⟩ := ih ((i - 1) / 2) (by omega) (K.set i (K.getD ((i - 1) / 2) 0)) (I.set i (I.getD ((i - 1) / 2) 0)); rw [List.length_set] at a b; exact ⟨a, b⟩
      · rw [up_stop h c]; simp
    · rw [up_zero h]; simp
/-- the child to go on with -/
def kid (n : Nat) (K : List UInt64) (i : Nat) : Nat := if 2 * i + 2 < n ∧ FP.dcmp (K.getD (2 * i + 2) 0) (K.getD (2 * i + 1) 0) = some .lt then 2 * i + 2 else 2 * i + 1
theorem kid_bd (n : Nat) (K : List UInt64) (i : Nat) : kid n K i = 2 * i + 1 ∨ (kid n K i = 2 * i + 2 ∧ 2 * i + 2 < n) := by unfold kid; split <;> omega
/-- the sift of 'removeMin': the hole goes down -/
def down (n : Nat) (key : UInt64) (item : Int32) (K : List UInt64) (I : List Int32) (hole : Nat) : List UInt64 × List Int32 :=
  if h : 2 * hole + 1 < n then
    if FP.dcmp (K.getD (kid n K hole) 0) key = some .eq ∨ FP.dcmp (K.getD (kid n K hole) 0) key = some .gt then (K.set hole key, I.set hole item)
    else down n key item (K.set hole (K.getD (kid n K hole) 0)) (I.set hole (I.getD (kid n K hole) 0)) (kid n K hole)
  else (K.set hole key, I.set hole item)
termination_by n - hole
decreasing_by have := kid_bd n K hole; omega
theorem down_end {n : Nat} {key : UInt64} {item : Int32} {K : List UInt64} {I : List Int32} {i : Nat} (h : ¬ 2 * i + 1 < n) : down n key item K I i = (K.set i key, I.set i item) := by rw [down, dif_neg h]
theorem down_stop {n : Nat} {key : UInt64} {item : Int32} {K : List UInt64} {I : List Int32} {i : Nat} (h : 2 * i + 1 < n) (c : Jvm.OwnWp.dge (FP.dcmp (K.getD (kid n K i) 0) key)) : down n key item K I i = (K.set i key, I.set i item) := by rw [down, dif_pos h]; exact if_pos c
theorem down_go {n : Nat} {key : UInt64} {item : Int32} {K : List UInt64} {I : List Int32} {i : Nat} (h : 2 * i + 1 < n) (c : ¬ Jvm.OwnWp.dge (FP.dcmp (K.getD (kid n K i) 0) key)) : down n key item K I i = down n key item (K.set i (K.getD (kid n K i) 0)) (I.set i (I.getD (kid n K i) 0)) (kid n K i) := by rw [down, dif_pos h]; exact if_neg c
theorem down_len {n : Nat} {key : UInt64} {item : Int32} : ∀ (f : Nat) (i : Nat) (K : List UInt64) (I : List Int32), n - i ≤ f → (down n key item K I i).1.length = K.length ∧ (down n key item K I i).2.length = I.length := by
  intro f
  induction f with
  | zero => intro i K I hf; rw [down_end (by omega)]; simp
  | succ f ih =>
    intro i K I hf
    by_cases h : 2 * i + 1 < n
    · by_cases c : Jvm.OwnWp.dge (FP.dcmp (K.getD (kid n K i) 0) key)
      · rw [down_stop h c]; simp
      · rw [down_go h c]; obtain ⟨a, b⟩ := ih (kid n K i) (K.set i (K.getD (kid n K i) 0)) (I.set i (I.getD (kid n K i) 0)) (by have := kid_bd n K i; omega); rw [List.length_set] at a b; exact ⟨a, b⟩
    · rw [down_end h]; simp
theorem n_par {j : Int32} {i : Nat} (hj : j.toInt = i) (h : 0 < i) : ((j - 1) / 2).toInt = (((i - 1) / 2 : Nat) : Int) := by
  have h1 := j.toInt_lt
  have e1 : (j - 1).toInt = i - 1 := by rw [Int32.toInt_sub, hj]; have := Int.bmod_eq_of_le (n := (i : Int) - (1 : Int32).toInt) (m := 2 ^ 32) (by simp; omega) (by simp; omega); rw [this]; simp
  rw [(c_idiv (j - 1) 2 2 (by decide) (by decide)).1 (by omega), e1]; omega
theorem n_kid1 {j : Int32} {i : Nat} (hj : j.toInt = i) (h : i < 64) : (2 * j + 1).toInt = ((2 * i + 1 : Nat) : Int) := by
  have e1 : (2 * j).toInt = 2 * i := by rw [Int32.toInt_mul, hj]; exact Int.bmod_eq_of_le (by simp; omega) (by simp; omega)
  rw [Int32.toInt_add, e1]; have := Int.bmod_eq_of_le (n := 2 * (i : Int) + (1 : Int32).toInt) (m := 2 ^ 32) (by simp; omega) (by simp; omega); rw [this]; simp
theorem n_add1 {j : Int32} {i : Nat} (hj : j.toInt = i) (h : i < 1000) : (j + 1).toInt = ((i + 1 : Nat) : Int) := by
  rw [Int32.toInt_add, hj]; have := Int.bmod_eq_of_le (n := (i : Int) + (1 : Int32).toInt) (m := 2 ^ 32) (by simp; omega) (by simp; omega); rw [this]; simp
theorem n_sub1 {j : Int32} {i : Nat} (hj : j.toInt = i) (h : 0 < i) : (j - 1).toInt = ((i - 1 : Nat) : Int) := by
  have h1 := j.toInt_lt
  rw [Int32.toInt_sub, hj]; have := Int.bmod_eq_of_le (n := (i : Int) - (1 : Int32).toInt) (m := 2 ^ 32) (by simp; omega) (by simp; omega); rw [this]; simp; omega
theorem n_lt {j k : Int32} {i n : Nat} (hj : j.toInt = i) (hk : k.toInt = n) : j < k ↔ i < n := by rw [Int32.lt_iff_toInt_lt, hj, hk]; omega
theorem n_pos {j : Int32} {i : Nat} (hj : j.toInt = i) : 0 < j ↔ 0 < i := by rw [Int32.lt_iff_toInt_lt, hj]; simp
theorem n_ne64 {j : Int32} {i : Nat} {K : List UInt64} (hj : j.toInt = i) (h : i < 64) (hK : K.length = 64) : ¬ j = (K.map Value.double).length.toInt32 := by
  rw [List.length_map, hK]; intro q; rw [q] at hj; have : (Nat.toInt32 64).toInt = 64 := by decide
  omega
set_option maxRecDepth 65536 in
set_option maxHeartbeats 40000000 in
theorem c_init (l : Launch) (Z : State) (a0 : Array Value) (hw : ∀ d ∈ tables_1, d.before a0 Z = true) (ws : List Jvm.Cond) (q : Addr) (h0 : Heap) (n0 : Nat) (Z0 : n0 ≤ h0.size) (E : Exa Z h0 q "com/example/routeloom/routeloom/MinQueue") (ge_q : n0 ≤ q) (G1 : Fld Z h0 q "com/example/routeloom/routeloom/MinQueue" "keys" "[D" .null) (G2 : Fld Z h0 q "com/example/routeloom/routeloom/MinQueue" "items" "[I" .null) (G3 : Fld Z h0 q "com/example/routeloom/routeloom/MinQueue" "size" "I" (.int 0)) :
    Ctr l Z (⟨"com/example/routeloom/routeloom/MinQueue", "<init>", "()V"⟩ : MethodName) prog_13_method_1_code 1 none ws ({ frames := 1, cells := 2, slots := 128, locals := 12 } : Room) n0 #[(.ref q)] h0 (fun v h => v = none ∧ Keep h0 h [q] ∧ ∃ ks is : Addr, h0.size ≤ ks ∧ h0.size ≤ is ∧ is ≠ ks ∧ Fld Z h q "com/example/routeloom/routeloom/MinQueue" "keys" "[D" (.ref ks) ∧ Fld Z h q "com/example/routeloom/routeloom/MinQueue" "items" "[I" (.ref is) ∧ Fld Z h q "com/example/routeloom/routeloom/MinQueue" "size" "I" (.int 0) ∧ DV Z h ks (List.replicate 64 0) ∧ IV Z h is (List.replicate 64 0)) := by
  refine ctr (own := "com/example/routeloom/routeloom/MinQueue") (nm := "<init>") rfl rfl (Ls := #[.val (.ref q)]) (plainFor_of_name pn0) (fun m => by first | (simp [entryFrame, mkF, argsToLocals, Value.category]; done) | rfl) ?_
  intro p e s m below meth c K eh
  have P0 := Keep.refl h0 [q]
  refine Jvm.OwnWp.aloadN K d_prog_13_method_1_0 rfl rfl (pc' := 1) rfl ?_
  refine initObj K (wd8 hw) (wd9 hw) (wd10 hw) d_prog_13_method_1_1 rfl (Nat.le_of_ble_eq_true rfl) (Nat.le_of_ble_eq_true rfl) (pc' := 4) rfl ?_
  refine Jvm.OwnWp.aloadN K d_prog_13_method_1_4 rfl rfl (pc' := 5) rfl ?_
  refine Jvm.OwnWp.bipush K (64 : Int32) d_prog_13_method_1_5 (by decide) (pc' := 7) rfl ?_
  refine newArr K (aty := ArrayType.double) (N := 64) (wd0 hw) (by decide) (by decide) d_prog_13_method_1_7 (Nat.le_of_ble_eq_true rfl) (Nat.le_of_ble_eq_true rfl) (pc' := 9) rfl ?_
  intro h1 b1 g1 E1 A1
  have ne_q_b1 : q ≠ b1 := Nat.ne_of_lt (Nat.lt_of_lt_of_eq (Exa.lt E) g1.symm)
  have lt_b1 : h0.size ≤ b1 := Nat.le_trans P0.1 (Nat.le_of_eq g1.symm)
  have ge_b1 : n0 ≤ b1 := Nat.le_trans Z0 lt_b1
  have F1_keys_q := (Fld.ext E1 G1)
  have F1_items_q := (Fld.ext E1 G2)
  have F1_size_q := (Fld.ext E1 G3)
  have X1_q := (Exa.ext E1 E)
  have P1 := (P0.ext E1)
  have A1 := DV.new A1
  refine putf K (wd11 hw) Via.refl F1_keys_q X1_q (Or.inl (wd12 hw)) (wd3 hw) (ty := (.array .double)) (by decide) rfl rfl ge_q d_prog_13_method_1_9 (pc' := 12) rfl ?_
  intro h2 W2
  have F2_items_q := (Fld.other W2 F1_items_q (Or.inr (sn_MinQueue_items_keys hw)))
  have F2_size_q := (Fld.other W2 F1_size_q (Or.inr (sn_MinQueue_size_keys hw)))
  have X2_q := (Exa.wr W2 X1_q)
  have V2_b1 := (A1.other W2 (Ne.symm ne_q_b1))
  have P2 := (P1.wr W2 (Or.inl (List.mem_of_getElem? (i := 0) rfl)))
  have F2_keys_q := Fld.same W2 F1_keys_q
  refine Jvm.OwnWp.aloadN K d_prog_13_method_1_12 rfl rfl (pc' := 13) rfl ?_
  refine Jvm.OwnWp.bipush K (64 : Int32) d_prog_13_method_1_13 (by decide) (pc' := 15) rfl ?_
  refine newArr K (aty := ArrayType.int) (N := 64) (wd13 hw) (by decide) (by decide) d_prog_13_method_1_15 (Nat.le_of_ble_eq_true rfl) (Nat.le_of_ble_eq_true rfl) (pc' := 17) rfl ?_
  intro h3 b3 g3 E3 A3
  have ne_q_b3 : q ≠ b3 := Nat.ne_of_lt (Nat.lt_of_lt_of_eq (Exa.lt X2_q) g3.symm)
  have ne_b1_b3 : b1 ≠ b3 := Nat.ne_of_lt (Nat.lt_of_lt_of_eq (V2_b1.lt) g3.symm)
  have lt_b3 : h0.size ≤ b3 := Nat.le_trans P2.1 (Nat.le_of_eq g3.symm)
  have ge_b3 : n0 ≤ b3 := Nat.le_trans Z0 lt_b3
  have F3_keys_q := (Fld.ext E3 F2_keys_q)
  have F3_items_q := (Fld.ext E3 F2_items_q)
  have F3_size_q := (Fld.ext E3 F2_size_q)
  have X3_q := (Exa.ext E3 X2_q)
  have V3_b1 := (V2_b1.ext E3)
  have P3 := (P2.ext E3)
  have A3 := IV.new A3
  refine putf K (wd14 hw) Via.refl F3_items_q X3_q (Or.inl (wd15 hw)) (wd3 hw) (ty := (.array .int)) (by decide) rfl rfl ge_q d_prog_13_method_1_17 (pc' := 20) rfl ?_
  intro h4 W4
  have F4_keys_q := (Fld.other W4 F3_keys_q (Or.inr (sn_MinQueue_keys_items hw)))
  have F4_size_q := (Fld.other W4 F3_size_q (Or.inr (sn_MinQueue_size_items hw)))
  have X4_q := (Exa.wr W4 X3_q)
  have V4_b1 := (V3_b1.other W4 (Ne.symm ne_q_b1))
  have V4_b3 := (A3.other W4 (Ne.symm ne_q_b3))
  have P4 := (P3.wr W4 (Or.inl (List.mem_of_getElem? (i := 0) rfl)))
  have F4_items_q := Fld.same W4 F3_items_q
  refine retV K rfl d_prog_13_method_1_20 (Nat.le_of_ble_eq_true rfl) (Nat.le_of_ble_eq_true rfl) ?_
  exact ⟨rfl, P4, b1, b3, lt_b1, lt_b3, (Ne.symm ne_b1_b3), F4_keys_q, F4_items_q, F4_size_q, V4_b1, V4_b3⟩
set_option maxRecDepth 65536 in
set_option maxHeartbeats 40000000 in
theorem c_add (l : Launch) (Z : State) (a0 : Array Value) (hw : ∀ d ∈ tables_1, d.before a0 Z = true) (ws : List Jvm.Cond) (q ks is : Addr) (item : Int32) (key : UInt64) (n : Nat) (sz : Int32) (Kl : List UInt64) (Il : List Int32) (h0 : Heap) (n0 : Nat) (Z0 : n0 ≤ h0.size) (hsz : sz.toInt = n) (hn : n < 64) (hK : Kl.length = 64) (hI : Il.length = 64) (E : Exa Z h0 q "com/example/routeloom/routeloom/MinQueue") (F_keys : Fld Z h0 q "com/example/routeloom/routeloom/MinQueue" "keys" "[D" (.ref ks)) (F_items : Fld Z h0 q "com/example/routeloom/routeloom/MinQueue" "items" "[I" (.ref is)) (F_size : Fld Z h0 q "com/example/routeloom/routeloom/MinQueue" "size" "I" (.int sz)) (VK : DV Z h0 ks Kl) (VI : IV Z h0 is Il) (ne_ks_q : ks ≠ q) (ne_is_q : is ≠ q) (ne_is_ks : is ≠ ks) (ge_q : n0 ≤ q) (ge_ks : n0 ≤ ks) (ge_is : n0 ≤ is) :
    Ctr l Z (⟨"com/example/routeloom/routeloom/MinQueue", "add", "(ID)V"⟩ : MethodName) prog_13_method_3_code 6 none ws ({ frames := 0, cells := 0, slots := 0, locals := 0 } : Room) n0 #[(.ref q), (.int item), (.double key)] h0 (fun v h => v = none ∧ Keep h0 h [q, ks, is] ∧ Exa Z h q "com/example/routeloom/routeloom/MinQueue" ∧ Fld Z h q "com/example/routeloom/routeloom/MinQueue" "keys" "[D" (.ref ks) ∧ Fld Z h q "com/example/routeloom/routeloom/MinQueue" "items" "[I" (.ref is) ∧ Fld Z h q "com/example/routeloom/routeloom/MinQueue" "size" "I" (.int (sz + 1)) ∧ DV Z h ks (up key item Kl Il n).1 ∧ IV Z h is (up key item Kl Il n).2) := by
  refine ctr (own := "com/example/routeloom/routeloom/MinQueue") (nm := "add") rfl rfl (Ls := #[.val (.ref q), .val (.int item), .val (.double key), .second, .unset, .unset]) (plainFor_of_name pn0) (fun m => by first | (simp [entryFrame, mkF, argsToLocals, Value.category]; done) | rfl) ?_
  intro p e s m below meth c K eh
  have P0 := Keep.refl h0 [q, ks, is]
  refine Jvm.OwnWp.aloadN K d_prog_13_method_3_0 rfl rfl (pc' := 1) rfl ?_
  refine Jvm.OwnWp.getf K (wd21 hw) Via.refl F_size d_prog_13_method_3_1 (pc' := 4) rfl ?_
  refine Jvm.OwnWp.aloadN K d_prog_13_method_3_4 rfl rfl (pc' := 5) rfl ?_
  refine Jvm.OwnWp.getf K (wd11 hw) Via.refl F_keys d_prog_13_method_3_5 (pc' := 8) rfl ?_
  refine alen K VK d_prog_13_method_3_8 (pc' := 9) rfl ?_
  refine icY K d_prog_13_method_3_9 (XT.ii_ne_t (n_ne64 hsz hn hK)) (pc' := 46) (by decide) (by decide) ?_
  refine Jvm.OwnWp.aloadN K d_prog_13_method_3_46 rfl rfl (pc' := 47) rfl ?_
  refine Jvm.OwnWp.dup K d_prog_13_method_3_47 rfl (pc' := 48) rfl ?_
  refine Jvm.OwnWp.getf K (wd21 hw) Via.refl F_size d_prog_13_method_3_48 (pc' := 51) rfl ?_
  refine Jvm.OwnWp.dupX1 K d_prog_13_method_3_51 rfl rfl (pc' := 52) rfl ?_
  refine Jvm.OwnWp.iconst K (1 : Int32) d_prog_13_method_3_52 (by decide) (pc' := 53) rfl ?_
  refine Jvm.OwnWp.iadd K d_prog_13_method_3_53 (pc' := 54) rfl ?_
  refine putf K (wd21 hw) Via.refl F_size E (Or.inl (wd22 hw)) (wd3 hw) (ty := .int) (by decide) rfl rfl ge_q d_prog_13_method_3_54 (pc' := 57) rfl ?_
  intro h5 W5
  have F5_keys_q := (Fld.other W5 F_keys (Or.inr (sn_MinQueue_keys_size hw)))
  have F5_items_q := (Fld.other W5 F_items (Or.inr (sn_MinQueue_items_size hw)))
  have X5_q := (Exa.wr W5 E)
  have V5_ks := (VK.other W5 ne_ks_q)
  have V5_is := (VI.other W5 ne_is_q)
  have P5 := (P0.wr W5 (Or.inl (List.mem_of_getElem? (i := 0) rfl)))
  have F5_size_q := Fld.same W5 F_size
  refine Jvm.OwnWp.istore K d_prog_13_method_3_57 (Ls' := #[.val (.ref q), .val (.int item), .val (.double key), .second, .val (.int sz), .unset]) rfl (pc' := 59) rfl ?_
  have loop : ∀ (i : Nat) (hl : Int32) (o5 : Slot) (K' : List UInt64) (I' : List Int32) (hh : Heap), One o5 → hl.toInt = i → i < 64 → K'.length = 64 → I'.length = 64 → up key item K' I' i = (up key item Kl Il n) → Keep h0 hh [q, ks, is] → Exa Z hh q "com/example/routeloom/routeloom/MinQueue" → Fld Z hh q "com/example/routeloom/routeloom/MinQueue" "keys" "[D" (.ref ks) → Fld Z hh q "com/example/routeloom/routeloom/MinQueue" "items" "[I" (.ref is) → Fld Z hh q "com/example/routeloom/routeloom/MinQueue" "size" "I" (.int (sz + (1 : Int32))) → DV Z hh ks K' → IV Z hh is I' → Go p l e ({ frames := 0, cells := 0, slots := 0, locals := 0 } : Room) s m #[(.ref q), (.int item), (.double key)] below meth c n0 hh 0 0 (mkF m 59 #[.val (.ref q), .val (.int item), .val (.double key), .second, .val (.int hl), o5] []) (fun v h => v = none ∧ Keep h0 h [q, ks, is] ∧ Exa Z h q "com/example/routeloom/routeloom/MinQueue" ∧ Fld Z h q "com/example/routeloom/routeloom/MinQueue" "keys" "[D" (.ref ks) ∧ Fld Z h q "com/example/routeloom/routeloom/MinQueue" "items" "[I" (.ref is) ∧ Fld Z h q "com/example/routeloom/routeloom/MinQueue" "size" "I" (.int (sz + 1)) ∧ DV Z h ks (up key item Kl Il n).1 ∧ IV Z h is (up key item Kl Il n).2) := by
    intro i
    induction i using Nat.strongRecOn with
    | _ i ih =>
      intro hl o5 K' I' hh ho5 hi hi64 hK' hI' hup LP LE LF_keys LF_items LF_size LVK LVI
      refine Jvm.OwnWp.iload K d_prog_13_method_3_59 rfl (pc' := 61) rfl ?_
      by_cases c1 : 0 < hl
      · refine ifN K d_prog_13_method_3_61 (XT.i0_le_f c1) (pc' := 64) rfl ?_
        have i0 := (n_pos hi).mp c1
        have hpar := n_par hi i0
        have ip : (i - 1) / 2 < 64 := by omega
        refine Jvm.OwnWp.aloadN K d_prog_13_method_3_64 rfl rfl (pc' := 65) rfl ?_
        refine Jvm.OwnWp.getf K (wd11 hw) Via.refl LF_keys d_prog_13_method_3_65 (pc' := 68) rfl ?_
        refine Jvm.OwnWp.iload K d_prog_13_method_3_68 rfl (pc' := 70) rfl ?_
        refine Jvm.OwnWp.iconst K (1 : Int32) d_prog_13_method_3_70 (by decide) (pc' := 71) rfl ?_
        refine Jvm.OwnWp.isub K d_prog_13_method_3_71 (pc' := 72) rfl ?_
        refine Jvm.OwnWp.iconst K (2 : Int32) d_prog_13_method_3_72 (by decide) (pc' := 73) rfl ?_
        refine Jvm.OwnWp.idiv K d_prog_13_method_3_73 (by decide) (pc' := 74) rfl ?_
        refine daload K (i := ((i - 1) / 2)) LVK hpar (mapAt (getDAt (d := 0) (by rw [hK']; exact ip))) d_prog_13_method_3_74 (pc' := 75) rfl ?_
        refine Jvm.OwnWp.dloadN K d_prog_13_method_3_75 rfl (pc' := 76) rfl ?_
        refine Jvm.OwnWp.dcmp K d_prog_13_method_3_76 (pc' := 77) rfl ?_
        by_cases c2 : FP.dcmp (K'.getD ((i - 1) / 2) 0) key = some .gt
        · refine ifN K d_prog_13_method_3_77 (dd_l_le_f c2) (pc' := 80) rfl ?_
          refine Jvm.OwnWp.iload K d_prog_13_method_3_80 rfl (pc' := 82) rfl ?_
          refine Jvm.OwnWp.iconst K (1 : Int32) d_prog_13_method_3_82 (by decide) (pc' := 83) rfl ?_
          refine Jvm.OwnWp.isub K d_prog_13_method_3_83 (pc' := 84) rfl ?_
          refine Jvm.OwnWp.iconst K (2 : Int32) d_prog_13_method_3_84 (by decide) (pc' := 85) rfl ?_
          refine Jvm.OwnWp.idiv K d_prog_13_method_3_85 (by decide) (pc' := 86) rfl ?_
          refine Jvm.OwnWp.istoreS K d_prog_13_method_3_86 rfl ho5 (Ls' := #[.val (.ref q), .val (.int item), .val (.double key), .second, .val (.int hl), .val (.int ((hl - (1 : Int32)) / (2 : Int32)))]) rfl (pc' := 88) rfl ?_
          refine Jvm.OwnWp.aloadN K d_prog_13_method_3_88 rfl rfl (pc' := 89) rfl ?_
          refine Jvm.OwnWp.getf K (wd11 hw) Via.refl LF_keys d_prog_13_method_3_89 (pc' := 92) rfl ?_
          refine Jvm.OwnWp.iload K d_prog_13_method_3_92 rfl (pc' := 94) rfl ?_
          refine Jvm.OwnWp.aloadN K d_prog_13_method_3_94 rfl rfl (pc' := 95) rfl ?_
          refine Jvm.OwnWp.getf K (wd11 hw) Via.refl LF_keys d_prog_13_method_3_95 (pc' := 98) rfl ?_
          refine Jvm.OwnWp.iload K d_prog_13_method_3_98 rfl (pc' := 100) rfl ?_
          refine daload K (i := ((i - 1) / 2)) LVK hpar (mapAt (getDAt (d := 0) (by rw [hK']; exact ip))) d_prog_13_method_3_100 (pc' := 101) rfl ?_
          refine dastore K (i := i) LVK hi (mapLt (by rw [hK']; exact hi64)) ge_ks d_prog_13_method_3_101 (pc' := 102) rfl ?_
          intro h6 W6
          have F6_keys_q := (Fld.other W6 LF_keys (Or.inl (Ne.symm ne_ks_q)))
          have F6_items_q := (Fld.other W6 LF_items (Or.inl (Ne.symm ne_ks_q)))
          have F6_size_q := (Fld.other W6 LF_size (Or.inl (Ne.symm ne_ks_q)))
          have X6_q := (Exa.wr W6 LE)
          have V6_is := (LVI.other W6 ne_is_ks)
          have P6 := (LP.wr W6 (Or.inl (List.mem_of_getElem? (i := 1) rfl)))
          have V6_ks := LVK.set W6
          refine Jvm.OwnWp.aloadN K d_prog_13_method_3_102 rfl rfl (pc' := 103) rfl ?_
          refine Jvm.OwnWp.getf K (wd14 hw) Via.refl F6_items_q d_prog_13_method_3_103 (pc' := 106) rfl ?_
          refine Jvm.OwnWp.iload K d_prog_13_method_3_106 rfl (pc' := 108) rfl ?_
          refine Jvm.OwnWp.aloadN K d_prog_13_method_3_108 rfl rfl (pc' := 109) rfl ?_
          refine Jvm.OwnWp.getf K (wd14 hw) Via.refl F6_items_q d_prog_13_method_3_109 (pc' := 112) rfl ?_
          refine Jvm.OwnWp.iload K d_prog_13_method_3_112 rfl (pc' := 114) rfl ?_
          refine iaload K (i := ((i - 1) / 2)) V6_is hpar (mapAt (getDAt (d := 0) (by rw [hI']; exact ip))) d_prog_13_method_3_114 (pc' := 115) rfl ?_
          refine iastore K (i := i) V6_is hi (mapLt (by rw [hI']; exact hi64)) ge_is d_prog_13_method_3_115 (pc' := 116) rfl ?_
          intro h7 W7
          have F7_keys_q := (Fld.other W7 F6_keys_q (Or.inl (Ne.symm ne_is_q)))
          have F7_items_q := (Fld.other W7 F6_items_q (Or.inl (Ne.symm ne_is_q)))
          have F7_size_q := (Fld.other W7 F6_size_q (Or.inl (Ne.symm ne_is_q)))
          have X7_q := (Exa.wr W7 X6_q)
          have V7_ks := (V6_ks.other W7 (Ne.symm ne_is_ks))
          have P7 := (P6.wr W7 (Or.inl (List.mem_of_getElem? (i := 2) rfl)))
          have V7_is := V6_is.set W7
          refine Jvm.OwnWp.iload K d_prog_13_method_3_116 rfl (pc' := 118) rfl ?_
          refine Jvm.OwnWp.istore K d_prog_13_method_3_118 (Ls' := #[.val (.ref q), .val (.int item), .val (.double key), .second, .val (.int ((hl - (1 : Int32)) / (2 : Int32))), .val (.int ((hl - (1 : Int32)) / (2 : Int32)))]) rfl (pc' := 120) rfl ?_
          refine goto' K d_prog_13_method_3_120 (pc' := 59) (by decide) (by decide) ?_
          exact ih ((i - 1) / 2) (by omega) _ _ _ _ _ (One.val rfl) hpar ip (by simpa using hK') (by simpa using hI') ((up_go i0 c2).symm.trans hup) P7 X7_q F7_keys_q F7_items_q F7_size_q V7_ks V7_is
        · refine ifY K d_prog_13_method_3_77 (dd_l_le_t c2) (pc' := 123) (by decide) (by decide) ?_
          have e := hup.symm.trans (up_stop i0 c2)
          refine Jvm.OwnWp.aloadN K d_prog_13_method_3_123 rfl rfl (pc' := 124) rfl ?_
          refine Jvm.OwnWp.getf K (wd11 hw) Via.refl LF_keys d_prog_13_method_3_124 (pc' := 127) rfl ?_
          refine Jvm.OwnWp.iload K d_prog_13_method_3_127 rfl (pc' := 129) rfl ?_
          refine Jvm.OwnWp.dloadN K d_prog_13_method_3_129 rfl (pc' := 130) rfl ?_
          refine dastore K (i := i) LVK hi (mapLt (by rw [hK']; exact hi64)) ge_ks d_prog_13_method_3_130 (pc' := 131) rfl ?_
          intro h8 W8
          have F8_keys_q := (Fld.other W8 LF_keys (Or.inl (Ne.symm ne_ks_q)))
          have F8_items_q := (Fld.other W8 LF_items (Or.inl (Ne.symm ne_ks_q)))
          have F8_size_q := (Fld.other W8 LF_size (Or.inl (Ne.symm ne_ks_q)))
          have X8_q := (Exa.wr W8 LE)
          have V8_is := (LVI.other W8 ne_is_ks)
          have P8 := (LP.wr W8 (Or.inl (List.mem_of_getElem? (i := 1) rfl)))
          have V8_ks := LVK.set W8
          refine Jvm.OwnWp.aloadN K d_prog_13_method_3_131 rfl rfl (pc' := 132) rfl ?_
          refine Jvm.OwnWp.getf K (wd14 hw) Via.refl F8_items_q d_prog_13_method_3_132 (pc' := 135) rfl ?_
          refine Jvm.OwnWp.iload K d_prog_13_method_3_135 rfl (pc' := 137) rfl ?_
          refine Jvm.OwnWp.iloadN K d_prog_13_method_3_137 rfl (pc' := 138) rfl ?_
          refine iastore K (i := i) V8_is hi (mapLt (by rw [hI']; exact hi64)) ge_is d_prog_13_method_3_138 (pc' := 139) rfl ?_
          intro h9 W9
          have F9_keys_q := (Fld.other W9 F8_keys_q (Or.inl (Ne.symm ne_is_q)))
          have F9_items_q := (Fld.other W9 F8_items_q (Or.inl (Ne.symm ne_is_q)))
          have F9_size_q := (Fld.other W9 F8_size_q (Or.inl (Ne.symm ne_is_q)))
          have X9_q := (Exa.wr W9 X8_q)
          have V9_ks := (V8_ks.other W9 (Ne.symm ne_is_ks))
          have P9 := (P8.wr W9 (Or.inl (List.mem_of_getElem? (i := 2) rfl)))
          have V9_is := V8_is.set W9
          refine retV K rfl d_prog_13_method_3_139 (Nat.le_of_ble_eq_true rfl) (Nat.le_of_ble_eq_true rfl) ?_
          rw [e]
          exact ⟨rfl, P9, X9_q, F9_keys_q, F9_items_q, F9_size_q, V9_ks, V9_is⟩
      · refine ifY K d_prog_13_method_3_61 (XT.i0_le_t c1) (pc' := 123) (by decide) (by decide) ?_
        have e := hup.symm.trans (up_zero (fun q => c1 ((n_pos hi).mpr q)))
        refine Jvm.OwnWp.aloadN K d_prog_13_method_3_123 rfl rfl (pc' := 124) rfl ?_
        refine Jvm.OwnWp.getf K (wd11 hw) Via.refl LF_keys d_prog_13_method_3_124 (pc' := 127) rfl ?_
        refine Jvm.OwnWp.iload K d_prog_13_method_3_127 rfl (pc' := 129) rfl ?_
        refine Jvm.OwnWp.dloadN K d_prog_13_method_3_129 rfl (pc' := 130) rfl ?_
        refine dastore K (i := i) LVK hi (mapLt (by rw [hK']; exact hi64)) ge_ks d_prog_13_method_3_130 (pc' := 131) rfl ?_
        intro h10 W10
        have F10_keys_q := (Fld.other W10 LF_keys (Or.inl (Ne.symm ne_ks_q)))
        have F10_items_q := (Fld.other W10 LF_items (Or.inl (Ne.symm ne_ks_q)))
        have F10_size_q := (Fld.other W10 LF_size (Or.inl (Ne.symm ne_ks_q)))
        have X10_q := (Exa.wr W10 LE)
        have V10_is := (LVI.other W10 ne_is_ks)
        have P10 := (LP.wr W10 (Or.inl (List.mem_of_getElem? (i := 1) rfl)))
        have V10_ks := LVK.set W10
        refine Jvm.OwnWp.aloadN K d_prog_13_method_3_131 rfl rfl (pc' := 132) rfl ?_
        refine Jvm.OwnWp.getf K (wd14 hw) Via.refl F10_items_q d_prog_13_method_3_132 (pc' := 135) rfl ?_
        refine Jvm.OwnWp.iload K d_prog_13_method_3_135 rfl (pc' := 137) rfl ?_
        refine Jvm.OwnWp.iloadN K d_prog_13_method_3_137 rfl (pc' := 138) rfl ?_
        refine iastore K (i := i) V10_is hi (mapLt (by rw [hI']; exact hi64)) ge_is d_prog_13_method_3_138 (pc' := 139) rfl ?_
        intro h11 W11
        have F11_keys_q := (Fld.other W11 F10_keys_q (Or.inl (Ne.symm ne_is_q)))
        have F11_items_q := (Fld.other W11 F10_items_q (Or.inl (Ne.symm ne_is_q)))
        have F11_size_q := (Fld.other W11 F10_size_q (Or.inl (Ne.symm ne_is_q)))
        have X11_q := (Exa.wr W11 X10_q)
        have V11_ks := (V10_ks.other W11 (Ne.symm ne_is_ks))
        have P11 := (P10.wr W11 (Or.inl (List.mem_of_getElem? (i := 2) rfl)))
        have V11_is := V10_is.set W11
        refine retV K rfl d_prog_13_method_3_139 (Nat.le_of_ble_eq_true rfl) (Nat.le_of_ble_eq_true rfl) ?_
        rw [e]
        exact ⟨rfl, P11, X11_q, F11_keys_q, F11_items_q, F11_size_q, V11_ks, V11_is⟩
  exact loop n sz .unset Kl Il _ One.u hsz hn hK hI rfl P5 X5_q F5_keys_q F5_items_q F5_size_q V5_ks V5_is
set_option maxRecDepth 65536 in
set_option maxHeartbeats 40000000 in
theorem c_rem (l : Launch) (Z : State) (a0 : Array Value) (hw : ∀ d ∈ tables_1, d.before a0 Z = true) (ws : List Jvm.Cond) (q ks is : Addr) (n : Nat) (sz : Int32) (Kl : List UInt64) (Il : List Int32) (h0 : Heap) (n0 : Nat) (Z0 : n0 ≤ h0.size) (hsz : sz.toInt = n) (h0n : 0 < n) (hn : n ≤ 64) (hK : Kl.length = 64) (hI : Il.length = 64) (E : Exa Z h0 q "com/example/routeloom/routeloom/MinQueue") (F_keys : Fld Z h0 q "com/example/routeloom/routeloom/MinQueue" "keys" "[D" (.ref ks)) (F_items : Fld Z h0 q "com/example/routeloom/routeloom/MinQueue" "items" "[I" (.ref is)) (F_size : Fld Z h0 q "com/example/routeloom/routeloom/MinQueue" "size" "I" (.int sz)) (VK : DV Z h0 ks Kl) (VI : IV Z h0 is Il) (ne_ks_q : ks ≠ q) (ne_is_q : is ≠ q) (ne_is_ks : is ≠ ks) (ge_q : n0 ≤ q) (ge_ks : n0 ≤ ks) (ge_is : n0 ≤ is) :
    Ctr l Z (⟨"com/example/routeloom/routeloom/MinQueue", "removeMin", "()I"⟩ : MethodName) prog_13_method_4_code 7 (some .int) ws ({ frames := 0, cells := 0, slots := 0, locals := 0 } : Room) n0 #[(.ref q)] h0 (fun v h => v = some (.int (Il.getD 0 0)) ∧ Keep h0 h [q, ks, is] ∧ Exa Z h q "com/example/routeloom/routeloom/MinQueue" ∧ Fld Z h q "com/example/routeloom/routeloom/MinQueue" "keys" "[D" (.ref ks) ∧ Fld Z h q "com/example/routeloom/routeloom/MinQueue" "items" "[I" (.ref is) ∧ Fld Z h q "com/example/routeloom/routeloom/MinQueue" "size" "I" (.int (sz - 1)) ∧ DV Z h ks (down (n - 1) (Kl.getD (n - 1) 0) (Il.getD (n - 1) 0) Kl Il 0).1 ∧ IV Z h is (down (n - 1) (Kl.getD (n - 1) 0) (Il.getD (n - 1) 0) Kl Il 0).2) := by
  refine ctr (own := "com/example/routeloom/routeloom/MinQueue") (nm := "removeMin") rfl rfl (Ls := #[.val (.ref q), .unset, .unset, .unset, .unset, .unset, .unset]) (plainFor_of_name pn0) (fun m => by first | (simp [entryFrame, mkF, argsToLocals, Value.category]; done) | rfl) ?_
  intro p e s m below meth c K eh
  have P0 := Keep.refl h0 [q, ks, is]
  have hs1 := n_sub1 hsz h0n
  have hn1 : n - 1 < 64 := by omega
  refine Jvm.OwnWp.aloadN K d_prog_13_method_4_0 rfl rfl (pc' := 1) rfl ?_
  refine Jvm.OwnWp.getf K (wd14 hw) Via.refl F_items d_prog_13_method_4_1 (pc' := 4) rfl ?_
  refine Jvm.OwnWp.iconst K (0 : Int32) d_prog_13_method_4_4 (by decide) (pc' := 5) rfl ?_
  refine iaload K (i := 0) VI (by decide) (mapAt (getDAt (d := 0) (by rw [hI]; decide))) d_prog_13_method_4_5 (pc' := 6) rfl ?_
  refine Jvm.OwnWp.istoreN K d_prog_13_method_4_6 (Ls' := #[.val (.ref q), .val (.int (Il.getD 0 0)), .unset, .unset, .unset, .unset, .unset]) rfl (pc' := 7) rfl ?_
  refine Jvm.OwnWp.aloadN K d_prog_13_method_4_7 rfl rfl (pc' := 8) rfl ?_
  refine Jvm.OwnWp.dup K d_prog_13_method_4_8 rfl (pc' := 9) rfl ?_
  refine Jvm.OwnWp.getf K (wd21 hw) Via.refl F_size d_prog_13_method_4_9 (pc' := 12) rfl ?_
  refine Jvm.OwnWp.iconst K (1 : Int32) d_prog_13_method_4_12 (by decide) (pc' := 13) rfl ?_
  refine Jvm.OwnWp.isub K d_prog_13_method_4_13 (pc' := 14) rfl ?_
  refine putf K (wd21 hw) Via.refl F_size E (Or.inl (wd22 hw)) (wd3 hw) (ty := .int) (by decide) rfl rfl ge_q d_prog_13_method_4_14 (pc' := 17) rfl ?_
  intro h12 W12
  have F12_keys_q := (Fld.other W12 F_keys (Or.inr (sn_MinQueue_keys_size hw)))
  have F12_items_q := (Fld.other W12 F_items (Or.inr (sn_MinQueue_items_size hw)))
  have X12_q := (Exa.wr W12 E)
  have V12_ks := (VK.other W12 ne_ks_q)
  have V12_is := (VI.other W12 ne_is_q)
  have P12 := (P0.wr W12 (Or.inl (List.mem_of_getElem? (i := 0) rfl)))
  have F12_size_q := Fld.same W12 F_size
  refine Jvm.OwnWp.aloadN K d_prog_13_method_4_17 rfl rfl (pc' := 18) rfl ?_
  refine Jvm.OwnWp.getf K (wd11 hw) Via.refl F12_keys_q d_prog_13_method_4_18 (pc' := 21) rfl ?_
  refine Jvm.OwnWp.aloadN K d_prog_13_method_4_21 rfl rfl (pc' := 22) rfl ?_
  refine Jvm.OwnWp.getf K (wd21 hw) Via.refl F12_size_q d_prog_13_method_4_22 (pc' := 25) rfl ?_
  refine daload K (i := (n - 1)) V12_ks hs1 (mapAt (getDAt (d := 0) (by rw [hK]; exact hn1))) d_prog_13_method_4_25 (pc' := 26) rfl ?_
  refine Jvm.OwnWp.dstoreN K d_prog_13_method_4_26 (Ls' := #[.val (.ref q), .val (.int (Il.getD 0 0)), .val (.double (Kl.getD (n - 1) 0)), .second, .unset, .unset, .unset]) rfl (pc' := 27) rfl ?_
  refine Jvm.OwnWp.aloadN K d_prog_13_method_4_27 rfl rfl (pc' := 28) rfl ?_
  refine Jvm.OwnWp.getf K (wd14 hw) Via.refl F12_items_q d_prog_13_method_4_28 (pc' := 31) rfl ?_
  refine Jvm.OwnWp.aloadN K d_prog_13_method_4_31 rfl rfl (pc' := 32) rfl ?_
  refine Jvm.OwnWp.getf K (wd21 hw) Via.refl F12_size_q d_prog_13_method_4_32 (pc' := 35) rfl ?_
  refine iaload K (i := (n - 1)) V12_is hs1 (mapAt (getDAt (d := 0) (by rw [hI]; exact hn1))) d_prog_13_method_4_35 (pc' := 36) rfl ?_
  refine Jvm.OwnWp.istore K d_prog_13_method_4_36 (Ls' := #[.val (.ref q), .val (.int (Il.getD 0 0)), .val (.double (Kl.getD (n - 1) 0)), .second, .val (.int (Il.getD (n - 1) 0)), .unset, .unset]) rfl (pc' := 38) rfl ?_
  refine Jvm.OwnWp.iconst K (0 : Int32) d_prog_13_method_4_38 (by decide) (pc' := 39) rfl ?_
  refine Jvm.OwnWp.istore K d_prog_13_method_4_39 (Ls' := #[.val (.ref q), .val (.int (Il.getD 0 0)), .val (.double (Kl.getD (n - 1) 0)), .second, .val (.int (Il.getD (n - 1) 0)), .val (.int (0 : Int32)), .unset]) rfl (pc' := 41) rfl ?_
  generalize Kl.getD (n - 1) 0 = key at *
  generalize Il.getD (n - 1) 0 = item at *
  have loop : ∀ (f i : Nat) (hl : Int32) (o6 : Slot) (K' : List UInt64) (I' : List Int32) (hh : Heap), n - i ≤ f → One o6 → hl.toInt = i → i < 64 → K'.length = 64 → I'.length = 64 → down (n - 1) key item K' I' i = (down (n - 1) key item Kl Il 0) → Keep h0 hh [q, ks, is] → Exa Z hh q "com/example/routeloom/routeloom/MinQueue" → Fld Z hh q "com/example/routeloom/routeloom/MinQueue" "keys" "[D" (.ref ks) → Fld Z hh q "com/example/routeloom/routeloom/MinQueue" "items" "[I" (.ref is) → Fld Z hh q "com/example/routeloom/routeloom/MinQueue" "size" "I" (.int (sz - (1 : Int32))) → DV Z hh ks K' → IV Z hh is I' → Go p l e ({ frames := 0, cells := 0, slots := 0, locals := 0 } : Room) s m #[(.ref q)] below meth c n0 hh 0 0 (mkF m 41 #[.val (.ref q), .val (.int (Il.getD 0 0)), .val (.double key), .second, .val (.int item), .val (.int hl), o6] []) (fun v h => v = some (.int (Il.getD 0 0)) ∧ Keep h0 h [q, ks, is] ∧ Exa Z h q "com/example/routeloom/routeloom/MinQueue" ∧ Fld Z h q "com/example/routeloom/routeloom/MinQueue" "keys" "[D" (.ref ks) ∧ Fld Z h q "com/example/routeloom/routeloom/MinQueue" "items" "[I" (.ref is) ∧ Fld Z h q "com/example/routeloom/routeloom/MinQueue" "size" "I" (.int (sz - 1)) ∧ DV Z h ks (down (n - 1) key item Kl Il 0).1 ∧ IV Z h is (down (n - 1) key item Kl Il 0).2) := by
    intro f
    induction f with
    | zero =>
      intro i hl o6 K' I' hh hf ho6 hi hi64 hK' hI' hup LP LE LF_keys LF_items LF_size LVK LVI
      have hk1 := n_kid1 hi hi64
      refine Jvm.OwnWp.iconst K (2 : Int32) d_prog_13_method_4_41 (by decide) (pc' := 42) rfl ?_
      refine Jvm.OwnWp.iload K d_prog_13_method_4_42 rfl (pc' := 44) rfl ?_
      refine Jvm.OwnWp.imul K d_prog_13_method_4_44 (pc' := 45) rfl ?_
      refine Jvm.OwnWp.iconst K (1 : Int32) d_prog_13_method_4_45 (by decide) (pc' := 46) rfl ?_
      refine Jvm.OwnWp.iadd K d_prog_13_method_4_46 (pc' := 47) rfl ?_
      refine Jvm.OwnWp.aloadN K d_prog_13_method_4_47 rfl rfl (pc' := 48) rfl ?_
      refine Jvm.OwnWp.getf K (wd21 hw) Via.refl LF_size d_prog_13_method_4_48 (pc' := 51) rfl ?_
      refine icY K d_prog_13_method_4_51 (XT.ii_ge_t (fun q => absurd ((n_lt hk1 hs1).mp q) (by omega))) (pc' := 146) (by decide) (by decide) ?_
      have e := hup.symm.trans (down_end (by omega))
      refine Jvm.OwnWp.aloadN K d_prog_13_method_4_146 rfl rfl (pc' := 147) rfl ?_
      refine Jvm.OwnWp.getf K (wd11 hw) Via.refl LF_keys d_prog_13_method_4_147 (pc' := 150) rfl ?_
      refine Jvm.OwnWp.iload K d_prog_13_method_4_150 rfl (pc' := 152) rfl ?_
      refine Jvm.OwnWp.dloadN K d_prog_13_method_4_152 rfl (pc' := 153) rfl ?_
      refine dastore K (i := i) LVK hi (mapLt (by rw [hK']; exact hi64)) ge_ks d_prog_13_method_4_153 (pc' := 154) rfl ?_
      intro h13 W13
      have F13_keys_q := (Fld.other W13 LF_keys (Or.inl (Ne.symm ne_ks_q)))
      have F13_items_q := (Fld.other W13 LF_items (Or.inl (Ne.symm ne_ks_q)))
      have F13_size_q := (Fld.other W13 LF_size (Or.inl (Ne.symm ne_ks_q)))
      have X13_q := (Exa.wr W13 LE)
      have V13_is := (LVI.other W13 ne_is_ks)
      have P13 := (LP.wr W13 (Or.inl (List.mem_of_getElem? (i := 1) rfl)))
      have V13_ks := LVK.set W13
      refine Jvm.OwnWp.aloadN K d_prog_13_method_4_154 rfl rfl (pc' := 155) rfl ?_
      refine Jvm.OwnWp.getf K (wd14 hw) Via.refl F13_items_q d_prog_13_method_4_155 (pc' := 158) rfl ?_
      refine Jvm.OwnWp.iload K d_prog_13_method_4_158 rfl (pc' := 160) rfl ?_
      refine Jvm.OwnWp.iload K d_prog_13_method_4_160 rfl (pc' := 162) rfl ?_
      refine iastore K (i := i) V13_is hi (mapLt (by rw [hI']; exact hi64)) ge_is d_prog_13_method_4_162 (pc' := 163) rfl ?_
      intro h14 W14
      have F14_keys_q := (Fld.other W14 F13_keys_q (Or.inl (Ne.symm ne_is_q)))
      have F14_items_q := (Fld.other W14 F13_items_q (Or.inl (Ne.symm ne_is_q)))
      have F14_size_q := (Fld.other W14 F13_size_q (Or.inl (Ne.symm ne_is_q)))
      have X14_q := (Exa.wr W14 X13_q)
      have V14_ks := (V13_ks.other W14 (Ne.symm ne_is_ks))
      have P14 := (P13.wr W14 (Or.inl (List.mem_of_getElem? (i := 2) rfl)))
      have V14_is := V13_is.set W14
      refine Jvm.OwnWp.iloadN K d_prog_13_method_4_163 rfl (pc' := 164) rfl ?_
      refine retI K rfl d_prog_13_method_4_164 (Nat.le_of_ble_eq_true rfl) (Nat.le_of_ble_eq_true rfl) ?_
      rw [e]
      exact ⟨rfl, P14, X14_q, F14_keys_q, F14_items_q, F14_size_q, V14_ks, V14_is⟩
    | succ f ih =>
      intro i hl o6 K' I' hh hf ho6 hi hi64 hK' hI' hup LP LE LF_keys LF_items LF_size LVK LVI
      have hk1 := n_kid1 hi hi64
      refine Jvm.OwnWp.iconst K (2 : Int32) d_prog_13_method_4_41 (by decide) (pc' := 42) rfl ?_
      refine Jvm.OwnWp.iload K d_prog_13_method_4_42 rfl (pc' := 44) rfl ?_
      refine Jvm.OwnWp.imul K d_prog_13_method_4_44 (pc' := 45) rfl ?_
      refine Jvm.OwnWp.iconst K (1 : Int32) d_prog_13_method_4_45 (by decide) (pc' := 46) rfl ?_
      refine Jvm.OwnWp.iadd K d_prog_13_method_4_46 (pc' := 47) rfl ?_
      refine Jvm.OwnWp.aloadN K d_prog_13_method_4_47 rfl rfl (pc' := 48) rfl ?_
      refine Jvm.OwnWp.getf K (wd21 hw) Via.refl LF_size d_prog_13_method_4_48 (pc' := 51) rfl ?_
      by_cases c1 : (((2 : Int32) * hl) + (1 : Int32)) < (sz - (1 : Int32))
      · refine icN K d_prog_13_method_4_51 (XT.ii_ge_f c1) (pc' := 54) rfl ?_
        have i1 := (n_lt hk1 hs1).mp c1
        have hk2 := n_add1 hk1 (by omega)
        refine Jvm.OwnWp.iconst K (2 : Int32) d_prog_13_method_4_54 (by decide) (pc' := 55) rfl ?_
        refine Jvm.OwnWp.iload K d_prog_13_method_4_55 rfl (pc' := 57) rfl ?_
        refine Jvm.OwnWp.imul K d_prog_13_method_4_57 (pc' := 58) rfl ?_
        refine Jvm.OwnWp.iconst K (1 : Int32) d_prog_13_method_4_58 (by decide) (pc' := 59) rfl ?_
        refine Jvm.OwnWp.iadd K d_prog_13_method_4_59 (pc' := 60) rfl ?_
        refine Jvm.OwnWp.istoreS K d_prog_13_method_4_60 rfl ho6 (Ls' := #[.val (.ref q), .val (.int (Il.getD 0 0)), .val (.double key), .second, .val (.int item), .val (.int hl), .val (.int (((2 : Int32) * hl) + (1 : Int32)))]) rfl (pc' := 62) rfl ?_
        refine Jvm.OwnWp.iload K d_prog_13_method_4_62 rfl (pc' := 64) rfl ?_
        refine Jvm.OwnWp.iconst K (1 : Int32) d_prog_13_method_4_64 (by decide) (pc' := 65) rfl ?_
        refine Jvm.OwnWp.iadd K d_prog_13_method_4_65 (pc' := 66) rfl ?_
        refine Jvm.OwnWp.aloadN K d_prog_13_method_4_66 rfl rfl (pc' := 67) rfl ?_
        refine Jvm.OwnWp.getf K (wd21 hw) Via.refl LF_size d_prog_13_method_4_67 (pc' := 70) rfl ?_
        have join : ∀ cj : Int32, cj.toInt = (kid (n - 1) K' i : Nat) → Go p l e ({ frames := 0, cells := 0, slots := 0, locals := 0 } : Room) s m #[(.ref q)] below meth c n0 hh 0 0 (mkF m 96 #[.val (.ref q), .val (.int (Il.getD 0 0)), .val (.double key), .second, .val (.int item), .val (.int hl), .val (.int cj)] []) (fun v h => v = some (.int (Il.getD 0 0)) ∧ Keep h0 h [q, ks, is] ∧ Exa Z h q "com/example/routeloom/routeloom/MinQueue" ∧ Fld Z h q "com/example/routeloom/routeloom/MinQueue" "keys" "[D" (.ref ks) ∧ Fld Z h q "com/example/routeloom/routeloom/MinQueue" "items" "[I" (.ref is) ∧ Fld Z h q "com/example/routeloom/routeloom/MinQueue" "size" "I" (.int (sz - 1)) ∧ DV Z h ks (down (n - 1) key item Kl Il 0).1 ∧ IV Z h is (down (n - 1) key item Kl Il 0).2) := by
          intro cj hc
          have hkb := kid_bd (n - 1) K' i
          have hc64 : kid (n - 1) K' i < 64 := by omega
          refine Jvm.OwnWp.aloadN K d_prog_13_method_4_96 rfl rfl (pc' := 97) rfl ?_
          refine Jvm.OwnWp.getf K (wd11 hw) Via.refl LF_keys d_prog_13_method_4_97 (pc' := 100) rfl ?_
          refine Jvm.OwnWp.iload K d_prog_13_method_4_100 rfl (pc' := 102) rfl ?_
          refine daload K (i := (kid (n - 1) K' i)) LVK hc (mapAt (getDAt (d := 0) (by rw [hK']; exact hc64))) d_prog_13_method_4_102 (pc' := 103) rfl ?_
          refine Jvm.OwnWp.dloadN K d_prog_13_method_4_103 rfl (pc' := 104) rfl ?_
          refine Jvm.OwnWp.dcmp K d_prog_13_method_4_104 (pc' := 105) rfl ?_
          by_cases c2 : Jvm.OwnWp.dge (FP.dcmp (K'.getD (kid (n - 1) K' i) 0) key)
          · refine ifN K d_prog_13_method_4_105 (dd_l_lt_f c2) (pc' := 108) rfl ?_
            refine goto' K d_prog_13_method_4_108 (pc' := 146) (by decide) (by decide) ?_
            have e := hup.symm.trans (down_stop i1 c2)
            refine Jvm.OwnWp.aloadN K d_prog_13_method_4_146 rfl rfl (pc' := 147) rfl ?_
            refine Jvm.OwnWp.getf K (wd11 hw) Via.refl LF_keys d_prog_13_method_4_147 (pc' := 150) rfl ?_
            refine Jvm.OwnWp.iload K d_prog_13_method_4_150 rfl (pc' := 152) rfl ?_
            refine Jvm.OwnWp.dloadN K d_prog_13_method_4_152 rfl (pc' := 153) rfl ?_
            refine dastore K (i := i) LVK hi (mapLt (by rw [hK']; exact hi64)) ge_ks d_prog_13_method_4_153 (pc' := 154) rfl ?_
            intro h15 W15
            have F15_keys_q := (Fld.other W15 LF_keys (Or.inl (Ne.symm ne_ks_q)))
            have F15_items_q := (Fld.other W15 LF_items (Or.inl (Ne.symm ne_ks_q)))
            have F15_size_q := (Fld.other W15 LF_size (Or.inl (Ne.symm ne_ks_q)))
            have X15_q := (Exa.wr W15 LE)
            have V15_is := (LVI.other W15 ne_is_ks)
            have P15 := (LP.wr W15 (Or.inl (List.mem_of_getElem? (i := 1) rfl)))
            have V15_ks := LVK.set W15
            refine Jvm.OwnWp.aloadN K d_prog_13_method_4_154 rfl rfl (pc' := 155) rfl ?_
            refine Jvm.OwnWp.getf K (wd14 hw) Via.refl F15_items_q d_prog_13_method_4_155 (pc' := 158) rfl ?_
            refine Jvm.OwnWp.iload K d_prog_13_method_4_158 rfl (pc' := 160) rfl ?_
            refine Jvm.OwnWp.iload K d_prog_13_method_4_160 rfl (pc' := 162) rfl ?_
            refine iastore K (i := i) V15_is hi (mapLt (by rw [hI']; exact hi64)) ge_is d_prog_13_method_4_162 (pc' := 163) rfl ?_
            intro h16 W16
            have F16_keys_q := (Fld.other W16 F15_keys_q (Or.inl (Ne.symm ne_is_q)))
            have F16_items_q := (Fld.other W16 F15_items_q (Or.inl (Ne.symm ne_is_q)))
            have F16_size_q := (Fld.other W16 F15_size_q (Or.inl (Ne.symm ne_is_q)))
            have X16_q := (Exa.wr W16 X15_q)
            have V16_ks := (V15_ks.other W16 (Ne.symm ne_is_ks))
            have P16 := (P15.wr W16 (Or.inl (List.mem_of_getElem? (i := 2) rfl)))
            have V16_is := V15_is.set W16
            refine Jvm.OwnWp.iloadN K d_prog_13_method_4_163 rfl (pc' := 164) rfl ?_
            refine retI K rfl d_prog_13_method_4_164 (Nat.le_of_ble_eq_true rfl) (Nat.le_of_ble_eq_true rfl) ?_
            rw [e]
            exact ⟨rfl, P16, X16_q, F16_keys_q, F16_items_q, F16_size_q, V16_ks, V16_is⟩
          · refine ifY K d_prog_13_method_4_105 (dd_l_lt_t c2) (pc' := 111) (by decide) (by decide) ?_
            refine Jvm.OwnWp.aloadN K d_prog_13_method_4_111 rfl rfl (pc' := 112) rfl ?_
            refine Jvm.OwnWp.getf K (wd11 hw) Via.refl LF_keys d_prog_13_method_4_112 (pc' := 115) rfl ?_
            refine Jvm.OwnWp.iload K d_prog_13_method_4_115 rfl (pc' := 117) rfl ?_
            refine Jvm.OwnWp.aloadN K d_prog_13_method_4_117 rfl rfl (pc' := 118) rfl ?_
            refine Jvm.OwnWp.getf K (wd11 hw) Via.refl LF_keys d_prog_13_method_4_118 (pc' := 121) rfl ?_
            refine Jvm.OwnWp.iload K d_prog_13_method_4_121 rfl (pc' := 123) rfl ?_
            refine daload K (i := (kid (n - 1) K' i)) LVK hc (mapAt (getDAt (d := 0) (by rw [hK']; exact hc64))) d_prog_13_method_4_123 (pc' := 124) rfl ?_
            refine dastore K (i := i) LVK hi (mapLt (by rw [hK']; exact hi64)) ge_ks d_prog_13_method_4_124 (pc' := 125) rfl ?_
            intro h17 W17
            have F17_keys_q := (Fld.other W17 LF_keys (Or.inl (Ne.symm ne_ks_q)))
            have F17_items_q := (Fld.other W17 LF_items (Or.inl (Ne.symm ne_ks_q)))
            have F17_size_q := (Fld.other W17 LF_size (Or.inl (Ne.symm ne_ks_q)))
            have X17_q := (Exa.wr W17 LE)
            have V17_is := (LVI.other W17 ne_is_ks)
            have P17 := (LP.wr W17 (Or.inl (List.mem_of_getElem? (i := 1) rfl)))
            have V17_ks := LVK.set W17
            refine Jvm.OwnWp.aloadN K d_prog_13_method_4_125 rfl rfl (pc' := 126) rfl ?_
            refine Jvm.OwnWp.getf K (wd14 hw) Via.refl F17_items_q d_prog_13_method_4_126 (pc' := 129) rfl ?_
            refine Jvm.OwnWp.iload K d_prog_13_method_4_129 rfl (pc' := 131) rfl ?_
            refine Jvm.OwnWp.aloadN K d_prog_13_method_4_131 rfl rfl (pc' := 132) rfl ?_
            refine Jvm.OwnWp.getf K (wd14 hw) Via.refl F17_items_q d_prog_13_method_4_132 (pc' := 135) rfl ?_
            refine Jvm.OwnWp.iload K d_prog_13_method_4_135 rfl (pc' := 137) rfl ?_
            refine iaload K (i := (kid (n - 1) K' i)) V17_is hc (mapAt (getDAt (d := 0) (by rw [hI']; exact hc64))) d_prog_13_method_4_137 (pc' := 138) rfl ?_
            refine iastore K (i := i) V17_is hi (mapLt (by rw [hI']; exact hi64)) ge_is d_prog_13_method_4_138 (pc' := 139) rfl ?_
            intro h18 W18
            have F18_keys_q := (Fld.other W18 F17_keys_q (Or.inl (Ne.symm ne_is_q)))
            have F18_items_q := (Fld.other W18 F17_items_q (Or.inl (Ne.symm ne_is_q)))
            have F18_size_q := (Fld.other W18 F17_size_q (Or.inl (Ne.symm ne_is_q)))
            have X18_q := (Exa.wr W18 X17_q)
            have V18_ks := (V17_ks.other W18 (Ne.symm ne_is_ks))
            have P18 := (P17.wr W18 (Or.inl (List.mem_of_getElem? (i := 2) rfl)))
            have V18_is := V17_is.set W18
            refine Jvm.OwnWp.iload K d_prog_13_method_4_139 rfl (pc' := 141) rfl ?_
            refine Jvm.OwnWp.istore K d_prog_13_method_4_141 (Ls' := #[.val (.ref q), .val (.int (Il.getD 0 0)), .val (.double key), .second, .val (.int item), .val (.int cj), .val (.int cj)]) rfl (pc' := 143) rfl ?_
            refine goto' K d_prog_13_method_4_143 (pc' := 41) (by decide) (by decide) ?_
            exact ih _ _ _ _ _ _ (by omega) (One.val rfl) hc hc64 (by simpa using hK') (by simpa using hI') ((down_go i1 c2).symm.trans hup) P18 X18_q F18_keys_q F18_items_q F18_size_q V18_ks V18_is
        by_cases c3 : ((((2 : Int32) * hl) + (1 : Int32)) + (1 : Int32)) < (sz - (1 : Int32))
        · refine icN K d_prog_13_method_4_70 (XT.ii_ge_f c3) (pc' := 73) rfl ?_
          have i2 := (n_lt hk2 hs1).mp c3
          refine Jvm.OwnWp.aloadN K d_prog_13_method_4_73 rfl rfl (pc' := 74) rfl ?_
          refine Jvm.OwnWp.getf K (wd11 hw) Via.refl LF_keys d_prog_13_method_4_74 (pc' := 77) rfl ?_
          refine Jvm.OwnWp.iload K d_prog_13_method_4_77 rfl (pc' := 79) rfl ?_
          refine Jvm.OwnWp.iconst K (1 : Int32) d_prog_13_method_4_79 (by decide) (pc' := 80) rfl ?_
          refine Jvm.OwnWp.iadd K d_prog_13_method_4_80 (pc' := 81) rfl ?_
          refine daload K (i := (2 * i + 2)) LVK hk2 (mapAt (getDAt (d := 0) (by rw [hK']; omega))) d_prog_13_method_4_81 (pc' := 82) rfl ?_
          refine Jvm.OwnWp.aloadN K d_prog_13_method_4_82 rfl rfl (pc' := 83) rfl ?_
          refine Jvm.OwnWp.getf K (wd11 hw) Via.refl LF_keys d_prog_13_method_4_83 (pc' := 86) rfl ?_
          refine Jvm.OwnWp.iload K d_prog_13_method_4_86 rfl (pc' := 88) rfl ?_
          refine daload K (i := (2 * i + 1)) LVK hk1 (mapAt (getDAt (d := 0) (by rw [hK']; omega))) d_prog_13_method_4_88 (pc' := 89) rfl ?_
          refine Jvm.OwnWp.dcmp K d_prog_13_method_4_89 (pc' := 90) rfl ?_
          by_cases c4 : FP.dcmp (K'.getD (2 * i + 2) 0) (K'.getD (2 * i + 1) 0) = some .lt
          · refine ifN K d_prog_13_method_4_90 (dd_g_ge_f c4) (pc' := 93) rfl ?_
            refine Jvm.OwnWp.iinc K (1 : Int32) d_prog_13_method_4_93 (by decide) rfl (Ls' := #[.val (.ref q), .val (.int (Il.getD 0 0)), .val (.double key), .second, .val (.int item), .val (.int hl), .val (.int ((((2 : Int32) * hl) + (1 : Int32)) + (1 : Int32)))]) rfl (pc' := 96) rfl ?_
            exact join _ (by rw [hk2]; unfold kid; rw [if_pos ⟨i2, c4⟩])
          · refine ifY K d_prog_13_method_4_90 (dd_g_ge_t c4) (pc' := 96) (by decide) (by decide) ?_
            exact join _ (by rw [hk1]; unfold kid; rw [if_neg (fun q => c4 q.2)])
        · refine icY K d_prog_13_method_4_70 (XT.ii_ge_t c3) (pc' := 96) (by decide) (by decide) ?_
          exact join _ (by rw [hk1]; unfold kid; rw [if_neg (fun q => c3 ((n_lt hk2 hs1).mpr q.1))])
      · refine icY K d_prog_13_method_4_51 (XT.ii_ge_t c1) (pc' := 146) (by decide) (by decide) ?_
        have e := hup.symm.trans (down_end (fun q => c1 ((n_lt hk1 hs1).mpr q)))
        refine Jvm.OwnWp.aloadN K d_prog_13_method_4_146 rfl rfl (pc' := 147) rfl ?_
        refine Jvm.OwnWp.getf K (wd11 hw) Via.refl LF_keys d_prog_13_method_4_147 (pc' := 150) rfl ?_
        refine Jvm.OwnWp.iload K d_prog_13_method_4_150 rfl (pc' := 152) rfl ?_
        refine Jvm.OwnWp.dloadN K d_prog_13_method_4_152 rfl (pc' := 153) rfl ?_
        refine dastore K (i := i) LVK hi (mapLt (by rw [hK']; exact hi64)) ge_ks d_prog_13_method_4_153 (pc' := 154) rfl ?_
        intro h19 W19
        have F19_keys_q := (Fld.other W19 LF_keys (Or.inl (Ne.symm ne_ks_q)))
        have F19_items_q := (Fld.other W19 LF_items (Or.inl (Ne.symm ne_ks_q)))
        have F19_size_q := (Fld.other W19 LF_size (Or.inl (Ne.symm ne_ks_q)))
        have X19_q := (Exa.wr W19 LE)
        have V19_is := (LVI.other W19 ne_is_ks)
        have P19 := (LP.wr W19 (Or.inl (List.mem_of_getElem? (i := 1) rfl)))
        have V19_ks := LVK.set W19
        refine Jvm.OwnWp.aloadN K d_prog_13_method_4_154 rfl rfl (pc' := 155) rfl ?_
        refine Jvm.OwnWp.getf K (wd14 hw) Via.refl F19_items_q d_prog_13_method_4_155 (pc' := 158) rfl ?_
        refine Jvm.OwnWp.iload K d_prog_13_method_4_158 rfl (pc' := 160) rfl ?_
        refine Jvm.OwnWp.iload K d_prog_13_method_4_160 rfl (pc' := 162) rfl ?_
        refine iastore K (i := i) V19_is hi (mapLt (by rw [hI']; exact hi64)) ge_is d_prog_13_method_4_162 (pc' := 163) rfl ?_
        intro h20 W20
        have F20_keys_q := (Fld.other W20 F19_keys_q (Or.inl (Ne.symm ne_is_q)))
        have F20_items_q := (Fld.other W20 F19_items_q (Or.inl (Ne.symm ne_is_q)))
        have F20_size_q := (Fld.other W20 F19_size_q (Or.inl (Ne.symm ne_is_q)))
        have X20_q := (Exa.wr W20 X19_q)
        have V20_ks := (V19_ks.other W20 (Ne.symm ne_is_ks))
        have P20 := (P19.wr W20 (Or.inl (List.mem_of_getElem? (i := 2) rfl)))
        have V20_is := V19_is.set W20
        refine Jvm.OwnWp.iloadN K d_prog_13_method_4_163 rfl (pc' := 164) rfl ?_
        refine retI K rfl d_prog_13_method_4_164 (Nat.le_of_ble_eq_true rfl) (Nat.le_of_ble_eq_true rfl) ?_
        rw [e]
        exact ⟨rfl, P20, X20_q, F20_keys_q, F20_items_q, F20_size_q, V20_ks, V20_is⟩
  exact loop _ 0 0 .unset Kl Il _ (Nat.le_refl _) One.u (by decide) (by decide) hK hI rfl P12 X12_q F12_keys_q F12_items_q F12_size_q V12_ks V12_is
/-! the queue's sifts keep the heap's order -/
section Order
open Jvm.OwnHeap
variable (κ : Int32 → Int)
def Good (n : Nat) (K : List UInt64) (I : List Int32) : Prop := ∀ i, i < n → Num (K.getD i 0) ∧ kv (K.getD i 0) = κ (I.getD i 0)
def Heap' (n : Nat) (I : List Int32) : Prop := ∀ i, 0 < i → i < n → κ (I.getD ((i - 1) / 2) 0) ≤ κ (I.getD i 0)
theorem up_spec {key : UInt64} {item : Int32} {n : Nat} : ∀ (hole : Nat) (K : List UInt64) (I : List Int32), hole < n → n ≤ K.length → n ≤ I.length → Good κ n (K.set hole key) (I.set hole item) →
    (∀ i, 0 < i → i < n → i ≠ hole → κ ((I.set hole item).getD ((i - 1) / 2) 0) ≤ κ ((I.set hole item).getD i 0)) →
    (0 < hole → ∀ i, i < n → 0 < i → (i - 1) / 2 = hole → κ ((I.set hole item).getD ((hole - 1) / 2) 0) ≤ κ ((I.set hole item).getD i 0)) →
    Good κ n (up key item K I hole).1 (up key item K I hole).2 ∧ Heap' κ n (up key item K I hole).2 ∧ ((up key item K I hole).2.take n).Perm ((I.set hole item).take n) := by
  intro hole
  induction hole using Nat.strongRecOn with
  | _ hole ih =>
    intro K I hh hK hI G H2 H3
    have gI := gs (l := I) (i := hole) (by omega) item 0
    have gK := gs (l := K) (i := hole) (by omega) key 0
    by_cases h0 : 0 < hole
    · have hp : (hole - 1) / 2 ≠ hole := by omega
      have hpn : (hole - 1) / 2 < n := by omega
      have G0 := G hole hh
      rw [gK, if_pos rfl, gI, if_pos rfl] at G0
      have G1 := G _ hpn
      rw [gK, if_neg hp, gI, if_neg hp] at G1
      by_cases c : Jvm.FP.dcmp (K.getD ((hole - 1) / 2) 0) key = some .gt
      · rw [up_go h0 c]
        have c' := (cmp_gt G1.1 G0.1).mp c
        rw [G1.2, G0.2] at c'
        have gI1 := gs (l := I) (i := hole) (by omega) (I.getD ((hole - 1) / 2) 0) 0
        have gK1 := gs (l := K) (i := hole) (by omega) (K.getD ((hole - 1) / 2) 0) 0
        have gI2 := gs (l := I.set hole (I.getD ((hole - 1) / 2) 0)) (i := (hole - 1) / 2) (by rw [List.length_set]; omega) item 0
        have gK2 := gs (l := K.set hole (K.getD ((hole - 1) / 2) 0)) (i := (hole - 1) / 2) (by rw [List.length_set]; omega) key 0
        simp only [gI1] at gI2
        simp only [gK1] at gK2
        have r := ih ((hole - 1) / 2) (by omega) (K.set hole (K.getD ((hole - 1) / 2) 0)) (I.set hole (I.getD ((hole - 1) / 2) 0)) hpn (by rw [List.length_set]; exact hK) (by rw [List.length_set]; exact hI)
        obtain ⟨r1, r2, r3⟩ := r
          (by
            intro i hi
            have Gi := G i hi
            rw [gK, gI] at Gi
            rw [gK2, gI2]
            by_cases e1 : i = (hole - 1) / 2
            · rw [if_pos e1, if_pos e1]; exact G0
            · rw [if_neg e1, if_neg e1]
              by_cases e2 : i = hole
              · rw [if_pos e2, if_pos e2]; exact G1
              · rw [if_neg e2, if_neg e2]; rw [if_neg e2, if_neg e2] at Gi; exact Gi)
          (by
            intro i i0 hi ne
            rw [gI2, gI2, if_neg ne]
            by_cases e2 : i = hole
            · subst e2; rw [if_pos rfl, if_pos rfl]; omega
            · rw [if_neg e2]
              have Hi := H2 i i0 hi e2
              rw [gI, gI, if_neg e2] at Hi
              by_cases e3 : (i - 1) / 2 = (hole - 1) / 2
              · rw [if_pos e3]
                have e4 : (i - 1) / 2 ≠ hole := by omega
                rw [if_neg e4, e3] at Hi
                omega
              · rw [if_neg e3]
                by_cases e4 : (i - 1) / 2 = hole
                · rw [if_pos e4]
                  have H := H3 h0 i hi i0 e4
                  rw [gI, gI, if_neg hp, if_neg e2] at H
                  exact H
                · rw [if_neg e4]; rw [if_neg e4] at Hi; exact Hi)
          (by
            intro p0 i hi i0 ep
            have hpp : ((hole - 1) / 2 - 1) / 2 ≠ (hole - 1) / 2 := by omega
            have hpp2 : ((hole - 1) / 2 - 1) / 2 ≠ hole := by omega
            rw [gI2, gI2, if_neg hpp, if_neg hpp2]
            have Hp := H2 ((hole - 1) / 2) p0 hpn hp
            rw [gI, gI, if_neg hpp2, if_neg hp] at Hp
            have e1 : i ≠ (hole - 1) / 2 := by omega
            rw [if_neg e1]
            by_cases e2 : i = hole
            · rw [if_pos e2]; exact Hp
            · rw [if_neg e2]
              have Hi := H2 i i0 hi e2
              have e4 : (i - 1) / 2 ≠ hole := by omega
              rw [gI, gI, if_neg e2, if_neg e4, ep] at Hi
              omega)
        refine ⟨r1, r2, r3.trans ?_⟩
        have e := takeSwap (I.set hole item) 0 (n := n) (i := hole) (j := (hole - 1) / 2) (by rw [List.length_set]; exact hI) hh hpn
        rw [List.set_set, gI, if_neg hp, gI, if_pos rfl] at e
        exact e
      · rw [up_stop h0 c]
        have c' : κ (I.getD ((hole - 1) / 2) 0) ≤ κ item := by
          rw [← G1.2, ← G0.2]; exact Int.not_lt.mp (fun q => c ((cmp_gt G1.1 G0.1).mpr q))
        refine ⟨G, fun i i0 hi => ?_, List.Perm.refl _⟩
        by_cases e : i = hole
        · subst e; rw [gI, gI, if_pos rfl, if_neg hp]; exact c'
        · exact H2 i i0 hi e
    · rw [up_zero h0]
      exact ⟨G, fun i i0 hi => H2 i i0 hi (by omega), List.Perm.refl _⟩
theorem down_spec {key : UInt64} {item : Int32} {n : Nat} : ∀ (f hole : Nat) (K : List UInt64) (I : List Int32), n - hole ≤ f → hole < n → n ≤ K.length → n ≤ I.length → Good κ n (K.set hole key) (I.set hole item) →
    (∀ i, 0 < i → i < n → (i - 1) / 2 ≠ hole → κ ((I.set hole item).getD ((i - 1) / 2) 0) ≤ κ ((I.set hole item).getD i 0)) →
    (0 < hole → ∀ i, i < n → 0 < i → (i - 1) / 2 = hole → κ ((I.set hole item).getD ((hole - 1) / 2) 0) ≤ κ ((I.set hole item).getD i 0)) →
    Good κ n (down n key item K I hole).1 (down n key item K I hole).2 ∧ Heap' κ n (down n key item K I hole).2 ∧ ((down n key item K I hole).2.take n).Perm ((I.set hole item).take n) := by
  intro f
  induction f with
  | zero => intro hole K I hf hh; omega
  | succ f ih =>
    intro hole K I hf hh hK hI G H2 H3
    have gI := gs (l := I) (i := hole) (by omega) item 0
    have gK := gs (l := K) (i := hole) (by omega) key 0
    by_cases h0 : 2 * hole + 1 < n
    · have hb := kid_bd n K hole
      have hcn : kid n K hole < n := by omega
      have hch : kid n K hole ≠ hole := by omega
      have G0 := G hole hh
      rw [gK, if_pos rfl, gI, if_pos rfl] at G0
      have Gn : ∀ i, i < n → i ≠ hole → Num (K.getD i 0) ∧ kv (K.getD i 0) = κ (I.getD i 0) := fun i hi ne => by
        have := G i hi; rwa [gK, if_neg ne, gI, if_neg ne] at this
      have G1 := Gn _ hcn hch
      -- the chosen child is the least
      have least : ∀ i, i < n → 0 < i → (i - 1) / 2 = hole → κ (I.getD (kid n K hole) 0) ≤ κ (I.getD i 0) := by
        intro i hi i0 ei
        have hi2 : i = 2 * hole + 1 ∨ i = 2 * hole + 2 := by omega
        have ga := Gn (2 * hole + 1) h0 (by omega)
        unfold kid
        split
        · rename_i q
          have gb := Gn (2 * hole + 2) q.1 (by omega)
          have := (cmp_lt gb.1 ga.1).mp q.2
          rw [gb.2, ga.2] at this
          rcases hi2 with rfl | rfl <;> omega
        · rename_i q
          rcases hi2 with rfl | rfl
          · omega
          · have gb := Gn (2 * hole + 2) hi (by omega)
            have := mt (cmp_lt gb.1 ga.1).mpr (fun z => q ⟨hi, z⟩)
            rw [gb.2, ga.2] at this
            omega
      by_cases c : Jvm.OwnWp.dge (Jvm.FP.dcmp (K.getD (kid n K hole) 0) key)
      · rw [down_stop h0 c]
        have c' := (cmp_ge G1.1 G0.1).mp c
        rw [G1.2, G0.2] at c'
        refine ⟨G, fun i i0 hi => ?_, List.Perm.refl _⟩
        by_cases e : (i - 1) / 2 = hole
        · have := least i hi i0 e
          rw [gI, gI, if_pos e, if_neg (by omega)]; omega
        · exact H2 i i0 hi e
      · rw [down_go h0 c]
        have c' := mt (cmp_ge G1.1 G0.1).mpr c
        rw [G1.2, G0.2] at c'
        have gI1 := gs (l := I) (i := hole) (by omega) (I.getD (kid n K hole) 0) 0
        have gK1 := gs (l := K) (i := hole) (by omega) (K.getD (kid n K hole) 0) 0
        have gI2 := gs (l := I.set hole (I.getD (kid n K hole) 0)) (i := kid n K hole) (by rw [List.length_set]; omega) item 0
        have gK2 := gs (l := K.set hole (K.getD (kid n K hole) 0)) (i := kid n K hole) (by rw [List.length_set]; omega) key 0
        simp only [gI1] at gI2
        simp only [gK1] at gK2
        have r := ih (kid n K hole) (K.set hole (K.getD (kid n K hole) 0)) (I.set hole (I.getD (kid n K hole) 0)) (by omega) hcn (by rw [List.length_set]; exact hK) (by rw [List.length_set]; exact hI)
        obtain ⟨r1, r2, r3⟩ := r
          (by
            intro i hi
            rw [gK2, gI2]
            by_cases e1 : i = kid n K hole
            · rw [if_pos e1, if_pos e1]; exact G0
            · rw [if_neg e1, if_neg e1]
              by_cases e2 : i = hole
              · rw [if_pos e2, if_pos e2]; exact G1
              · rw [if_neg e2, if_neg e2]; exact Gn i hi e2)
          (by
            intro i i0 hi ne
            rw [gI2, gI2, if_neg ne]
            by_cases e1 : i = kid n K hole
            · rw [if_pos e1]
              have e3 : (i - 1) / 2 = hole := by omega
              rw [if_pos e3]; omega
            · rw [if_neg e1]
              by_cases e3 : (i - 1) / 2 = hole
              · rw [if_pos e3, if_neg (by omega)]; exact least i hi i0 e3
              · rw [if_neg e3]
                have Hi := H2 i i0 hi e3
                rw [gI, gI, if_neg e3] at Hi
                by_cases e2 : i = hole
                · rw [if_pos e2]
                  subst e2
                  have H := H3 i0 (kid n K i) hcn (by omega) (by omega)
                  rw [gI, gI, if_neg e3, if_neg hch] at H
                  exact H
                · rw [if_neg e2]; rw [if_neg e2] at Hi; exact Hi)
          (by
            intro p0 i hi i0 ep
            have e5 : (kid n K hole - 1) / 2 = hole := by omega
            rw [e5, gI2, gI2, if_neg (fun q => hch q.symm), if_pos rfl, if_neg (by omega), if_neg (by omega)]
            have Hi := H2 i i0 hi (by omega)
            rw [gI, gI, if_neg (by omega), if_neg (by omega), ep] at Hi
            exact Hi)
        refine ⟨r1, r2, r3.trans ?_⟩
        have e := takeSwap (I.set hole item) 0 (n := n) (i := hole) (j := kid n K hole) (by rw [List.length_set]; exact hI) hh hcn
        rw [List.set_set, gI, if_neg hch, gI, if_pos rfl] at e
        exact e
    · rw [down_end h0]
      exact ⟨G, fun i i0 hi => H2 i i0 hi (by omega), List.Perm.refl _⟩
end Order

/-! the rounds of the law -/
section Rounds
open Jvm.OwnHeap
theorem add_spec (κ : Int32 → Int) {key : UInt64} {item : Int32} {n : Nat} {K : List UInt64} {I : List Int32} (hn : n < 64) (hK : K.length = 64) (hI : I.length = 64) (G : Good κ n K I) (H : Heap' κ n I) (nk : Num key) (ek : kv key = κ item) :
    Good κ (n + 1) (up key item K I n).1 (up key item K I n).2 ∧ Heap' κ (n + 1) (up key item K I n).2 ∧ ((up key item K I n).2.take (n + 1)).Perm (item :: I.take n) := by
  have gI := gs (l := I) (i := n) (by omega) item 0
  have gK := gs (l := K) (i := n) (by omega) key 0
  obtain ⟨a, b, c⟩ := up_spec κ (key := key) (item := item) (n := n + 1) n K I (by omega) (by omega) (by omega)
    (by
      intro i hi
      rw [gK, gI]
      by_cases e : i = n
      · rw [if_pos e, if_pos e]; exact ⟨nk, ek⟩
      · rw [if_neg e, if_neg e]; exact G i (by omega))
    (by
      intro i i0 hi ne
      rw [gI, gI, if_neg ne, if_neg (by omega)]; exact H i i0 (by omega))
    (by intro n0 i hi i0 ei; omega)
  refine ⟨a, b, c.trans ?_⟩
  have e : (I.set n item).take (n + 1) = I.take n ++ [item] := by
    rw [List.set_eq_take_append_cons_drop, if_pos (by omega), List.take_append, List.length_take, Nat.min_eq_left (by omega), List.take_take]
    simp
  rw [e]
  exact List.perm_append_comm
theorem root (κ : Int32 → Int) {n : Nat} {I : List Int32} (H : Heap' κ n I) : ∀ i, i < n → κ (I.getD 0 0) ≤ κ (I.getD i 0) := by
  intro i
  induction i using Nat.strongRecOn with
  | _ i ih =>
    intro hi
    by_cases h : i = 0
    · subst h; exact Int.le_refl _
    · exact Int.le_trans (ih ((i - 1) / 2) (by omega) (by omega)) (H i (by omega) hi)
theorem rem_spec (κ : Int32 → Int) {n : Nat} {K : List UInt64} {I : List Int32} (h0 : 0 < n) (hn : n ≤ 64) (hK : K.length = 64) (hI : I.length = 64) (G : Good κ n K I) (H : Heap' κ n I) :
    Good κ (n - 1) (down (n - 1) (K.getD (n - 1) 0) (I.getD (n - 1) 0) K I 0).1 (down (n - 1) (K.getD (n - 1) 0) (I.getD (n - 1) 0) K I 0).2 ∧ Heap' κ (n - 1) (down (n - 1) (K.getD (n - 1) 0) (I.getD (n - 1) 0) K I 0).2 ∧
      (I.take n).Perm (I.getD 0 0 :: (down (n - 1) (K.getD (n - 1) 0) (I.getD (n - 1) 0) K I 0).2.take (n - 1)) ∧ ∀ x ∈ I.take n, κ (I.getD 0 0) ≤ κ x := by
  have hmin : ∀ x ∈ I.take n, κ (I.getD 0 0) ≤ κ x := by
    intro x hx
    obtain ⟨i, hi, e⟩ := List.getElem_of_mem hx
    rw [List.length_take] at hi
    have := root κ H i (by omega)
    rw [List.getElem_take] at e
    rw [gi I i 0 (by omega), e] at this
    exact this
  have hp : (I.take n).Perm (I.getD 0 0 :: (I.set 0 (I.getD (n - 1) 0)).take (n - 1)) := by
    have e := takeSwap I 0 (n := n) (i := 0) (j := n - 1) (by omega) h0 (by omega)
    refine e.symm.trans ?_
    have e2 : ((I.set 0 (I.getD (n - 1) 0)).set (n - 1) (I.getD 0 0)).take n = (I.set 0 (I.getD (n - 1) 0)).take (n - 1) ++ [I.getD 0 0] := by
      rw [List.set_eq_take_append_cons_drop (i := n - 1), if_pos (by rw [List.length_set]; omega), List.take_append, List.length_take, List.length_set, Nat.min_eq_left (by omega), List.take_take, Nat.min_eq_right (by omega), show n - (n - 1) = 1 by omega]
      simp
    rw [e2]
    exact List.perm_append_comm
  by_cases h1 : n - 1 = 0
  · rw [h1] at hp ⊢
    refine ⟨fun i hi => by omega, fun i _ hi => by omega, by simpa using hp, hmin⟩
  · have gI := gs (l := I) (i := 0) (by omega) (I.getD (n - 1) 0) 0
    have gK := gs (l := K) (i := 0) (by omega) (K.getD (n - 1) 0) 0
    obtain ⟨a, b, c⟩ := down_spec κ (key := K.getD (n - 1) 0) (item := I.getD (n - 1) 0) (n := n - 1) _ 0 K I (Nat.le_refl _) (by omega) (by omega) (by omega)
      (by
        intro i hi
        rw [gK, gI]
        by_cases e : i = 0
        · rw [if_pos e, if_pos e]; exact G (n - 1) (by omega)
        · rw [if_neg e, if_neg e]; exact G i (by omega))
      (by
        intro i i0 hi ne
        rw [gI, gI, if_neg ne, if_neg (show ¬ i = 0 by omega)]; exact H i i0 (by omega))
      (by intro q; omega)
    exact ⟨a, b, hp.trans (List.Perm.cons _ c.symm), hmin⟩
/-- the least key among those present, as the law's own helper finds it -/
def mpr : List UInt64 → List Int32 → UInt64 → UInt64
  | x :: xs, b :: bs, m => mpr xs bs (if b = 0 then m else if FP.dcmp x m = some .lt then x else m)
  | _, _, m => m
theorem mpr_spec : ∀ (xs : List UInt64) (bs : List Int32) (m : UInt64), (∀ x ∈ xs, Num x) → Num m → xs.length = bs.length →
    Num (mpr xs bs m) ∧ kv (mpr xs bs m) ≤ kv m ∧ (∀ j, j < xs.length → bs.getD j 0 ≠ 0 → kv (mpr xs bs m) ≤ kv (xs.getD j 0)) ∧ (kv (mpr xs bs m) = kv m ∨ ∃ j, j < xs.length ∧ bs.getD j 0 ≠ 0 ∧ kv (mpr xs bs m) = kv (xs.getD j 0)) := by
  intro xs
  induction xs with
  | nil => intro bs m hx hm hl; exact ⟨by unfold mpr; exact hm, by unfold mpr; exact Int.le_refl _, fun j hj => absurd hj (Nat.not_lt_zero _), Or.inl (by unfold mpr; rfl)⟩
  | cons x xs ih =>
    intro bs m hx hm hl
    cases bs with
    | nil => simp at hl
    | cons b bs =>
      have hx0 := hx x (List.mem_cons_self ..)
      have hxs : ∀ y ∈ xs, Num y := fun y hy => hx y (List.mem_cons_of_mem _ hy)
      have hl' : xs.length = bs.length := by simpa using hl
      show Num (mpr xs bs (if b = 0 then m else if FP.dcmp x m = some .lt then x else m)) ∧ kv (mpr xs bs (if b = 0 then m else if FP.dcmp x m = some .lt then x else m)) ≤ kv m ∧ (∀ j, j < (x :: xs).length → (b :: bs).getD j 0 ≠ 0 → kv (mpr xs bs (if b = 0 then m else if FP.dcmp x m = some .lt then x else m)) ≤ kv ((x :: xs).getD j 0)) ∧ (kv (mpr xs bs (if b = 0 then m else if FP.dcmp x m = some .lt then x else m)) = kv m ∨ ∃ j, j < (x :: xs).length ∧ (b :: bs).getD j 0 ≠ 0 ∧ kv (mpr xs bs (if b = 0 then m else if FP.dcmp x m = some .lt then x else m)) = kv ((x :: xs).getD j 0))
      have hm2 : ∃ m2, (if b = 0 then m else if FP.dcmp x m = some .lt then x else m) = m2 ∧ Num m2 ∧ kv m2 ≤ kv m ∧ (b ≠ 0 → kv m2 ≤ kv x) ∧ (kv m2 = kv m ∨ (b ≠ 0 ∧ kv m2 = kv x)) := by
        by_cases hb : b = 0
        · exact ⟨m, by rw [if_pos hb], hm, Int.le_refl _, fun q => absurd hb q, Or.inl rfl⟩
        · by_cases hc : FP.dcmp x m = some .lt
          · have := (cmp_lt hx0 hm).mp hc
            exact ⟨x, by rw [if_neg hb, if_pos hc], hx0, by omega, fun _ => Int.le_refl _, Or.inr ⟨hb, rfl⟩⟩
          · have := mt (cmp_lt hx0 hm).mpr hc
            exact ⟨m, by rw [if_neg hb, if_neg hc], hm, Int.le_refl _, fun _ => by omega, Or.inl rfl⟩
      obtain ⟨m2, e2, n2, l2, lx, o2⟩ := hm2
      rw [e2]
      obtain ⟨a1, a2, a3, a4⟩ := ih bs m2 hxs n2 hl'
      refine ⟨a1, by omega, fun j hj hb => ?_, ?_⟩
      · cases j with
        | zero => have := lx (by simpa using hb); simp; omega
        | succ j => have := a3 j (by simpa using hj) (by simpa using hb); simpa using this
      · rcases a4 with q | ⟨j, j1, j2, j3⟩
        · rcases o2 with o | ⟨o1, o3⟩
          · exact Or.inl (q.trans o)
          · exact Or.inr ⟨0, by simp, by simpa using o1, by simpa using q.trans o3⟩
        · exact Or.inr ⟨j + 1, by simpa using j1, by simpa using j2, by simpa using j3⟩
/-- the key of an item of the law's -/
def κof (base : Int32) (xs : List UInt64) (r : Int32) : Int := kv (xs.getD (r - base).toNatClampNeg 0)
theorem sub_base (base : Int32) (j : Int32) : base + j - base = j := by
  rw [Int32.add_comm, Int32.add_sub_cancel]
theorem nat32 {j : Nat} (h : j < 5) : (Int32.ofNat j).toInt = j ∧ (Int32.ofNat j).toNatClampNeg = j := by
  have e : (Int32.ofNat j).toInt = j := Int32.toInt_ofNat_of_lt (by omega)
  exact ⟨e, by simp [Int32.toNatClampNeg, e]⟩
theorem κof_item (base : Int32) (xs : List UInt64) {j : Nat} (h : j < 5) : κof base xs (base + Int32.ofNat j) = kv (xs.getD j 0) := by
  unfold κof; rw [sub_base, (nat32 h).2]
/-- how the queue and the law's marks stand together -/
def Inv (base : Int32) (xs : List UInt64) (n : Nat) (K : List UInt64) (I : List Int32) (S : List Nat) : Prop :=
  Good (κof base xs) n K I ∧ Heap' (κof base xs) n I ∧ (I.take n).Perm (S.map fun j => base + Int32.ofNat j) ∧ S.Nodup ∧ ∀ j ∈ S, j < 5
def Marks (bs : List Int32) (S : List Nat) : Prop := bs.length = 5 ∧ ∀ j, j < 5 → bs.getD j 0 = if j ∈ S then 1 else 0
theorem inv_add {base : Int32} {xs : List UInt64} {n : Nat} {K : List UInt64} {I : List Int32} {S : List Nat} {j : Nat} (h : Inv base xs n K I S) (hn : n < 5) (hK : K.length = 64) (hI : I.length = 64) (hj : j < 5) (hjS : j ∉ S) (hx : Num (xs.getD j 0)) {key : UInt64} (hk : key = xs.getD j 0) {item : Int32} (hi : item = base + Int32.ofNat j) :
    Inv base xs (n + 1) (up key item K I n).1 (up key item K I n).2 (j :: S) := by
  obtain ⟨G, H, P, N, B⟩ := h
  subst hk hi
  obtain ⟨a, b, c⟩ := add_spec (κof base xs) (key := xs.getD j 0) (item := base + Int32.ofNat j) (by omega) hK hI G H hx (κof_item base xs hj).symm
  exact ⟨a, b, c.trans (List.Perm.cons _ P), List.nodup_cons.mpr ⟨hjS, N⟩, fun i hi => (List.mem_cons.mp hi).elim (fun e => e ▸ hj) (B i)⟩
theorem inv_rem {base : Int32} {xs : List UInt64} {n : Nat} {K : List UInt64} {I : List Int32} {S : List Nat} {bs : List Int32} {m0 : UInt64} (h : Inv base xs n K I S) (h0 : 0 < n) (hn : n ≤ 5) (hK : K.length = 64) (hI : I.length = 64) (M : Marks bs S) (hxl : xs.length = 5) (hx : ∀ x ∈ xs, Num x) (hm : Num m0) (hm0 : ∀ x ∈ xs, kv x < kv m0) :
    ∃ j : Nat, j < 5 ∧ (I.getD 0 0 - base).toInt = (j : Int) ∧ bs.getD j 0 = 1 ∧ FP.dcmp (xs.getD j 0) (mpr xs bs m0) = some .eq ∧ Marks (bs.set j 0) (S.erase j) ∧
      Inv base xs (n - 1) (down (n - 1) (K.getD (n - 1) 0) (I.getD (n - 1) 0) K I 0).1 (down (n - 1) (K.getD (n - 1) 0) (I.getD (n - 1) 0) K I 0).2 (S.erase j) := by
  obtain ⟨G, H, P, N, B⟩ := h
  obtain ⟨a, b, c, d⟩ := rem_spec (κof base xs) h0 (by omega) hK hI G H
  have hr : I.getD 0 0 ∈ I.take n := c.mem_iff.mpr (List.mem_cons_self ..)
  obtain ⟨j, hjS, ej⟩ := List.mem_map.mp (P.mem_iff.mp hr)
  have hj := B j hjS
  have mem_of : ∀ i, i < 5 → xs.getD i 0 ∈ xs := fun i hi => by rw [gi xs i 0 (by omega)]; exact List.getElem_mem _
  obtain ⟨s1, s2, s3, s4⟩ := mpr_spec xs bs m0 hx hm (by rw [hxl, M.1])
  have hb1 : bs.getD j 0 = 1 := by rw [M.2 j hj, if_pos hjS]
  have kmin : ∀ i ∈ S, kv (xs.getD j 0) ≤ kv (xs.getD i 0) := fun i hi => by
    have := d _ (P.mem_iff.mpr (List.mem_map.mpr ⟨i, hi, rfl⟩))
    rw [← ej, κof_item base xs hj, κof_item base xs (B i hi)] at this
    exact this
  have hkv : kv (xs.getD j 0) = kv (mpr xs bs m0) := by
    have l1 := s3 j (by omega) (by rw [hb1]; decide)
    rcases s4 with q | ⟨i, i1, i2, i3⟩
    · have := hm0 _ (mem_of j hj); omega
    · have hiS : i ∈ S := by
        by_cases e : i ∈ S
        · exact e
        · rw [M.2 i (by omega), if_neg e] at i2; exact absurd rfl i2
      have := kmin i hiS; omega
  refine ⟨j, hj, by rw [← ej, sub_base, (nat32 hj).1], hb1, (cmp_eq (hx _ (mem_of j hj)) s1).mpr hkv, ⟨by rw [List.length_set]; exact M.1, fun i hi => ?_⟩, a, b, ?_, N.erase j, fun i hi => B i (List.mem_of_mem_erase hi)⟩
  · rw [gs (l := bs) (i := j) (by rw [M.1]; exact hj)]
    by_cases e : i = j
    · subst e; rw [if_pos rfl, if_neg (fun q => absurd rfl ((List.Nodup.mem_erase_iff N).mp q).1)]
    · rw [if_neg e, M.2 i hi]
      by_cases e2 : i ∈ S
      · rw [if_pos e2, if_pos ((List.Nodup.mem_erase_iff N).mpr ⟨e, e2⟩)]
      · rw [if_neg e2, if_neg (fun q => e2 (List.mem_of_mem_erase q))]
  · have e1 := (List.perm_cons_erase hjS).map fun j => base + Int32.ofNat j
    rw [List.map_cons, ej] at e1
    exact (c.symm.trans (P.trans e1)).cons_inv
end Rounds

theorem own_five {bs : List Int32} (h : bs.length = 5) : ∃ b0 b1 b2 b3 b4, bs = [b0, b1, b2, b3, b4] := by
  match bs, h with
  | [b0, b1, b2, b3, b4], _ => exact ⟨b0, b1, b2, b3, b4, rfl⟩
theorem own_k100 : Jvm.FP.Core.DInt 100 4636737291354636288 := by
  show Jvm.FP.Core.DInt (100 : Int32).toInt _
  rw [show (4636737291354636288 : UInt64) = Jvm.FP.Core.i2d 100 by decide +kernel]; exact Jvm.FP.Core.i2d_int 100
theorem own_key (x : Int32) : Jvm.OwnHeap.Num (FP.i2d (x % 9)) ∧ Jvm.OwnHeap.kv (FP.i2d (x % 9)) < Jvm.OwnHeap.kv 4636737291354636288 := by
  have h := Jvm.FP.Core.i2d_int (x % 9)
  refine ⟨Jvm.OwnHeap.num_int h, ?_⟩
  show Jvm.OwnHeap.kv (Jvm.FP.Core.i2d (x % 9)) < _
  rw [Jvm.OwnHeap.kv_int h, Jvm.OwnHeap.kv_int own_k100]
  have hp : (0 : Int) < (Jvm.FP.Core.one64 : Int) := by have := Jvm.FP.Core.one64_pos; omega
  have hr := c_iremV x 9
  have h9 : (9 : Int32).toInt = 9 := by decide
  have hb : (x % 9).toInt < 100 := by
    by_cases q : 0 ≤ x.toInt
    · have := (hr.1 q (by rw [h9]; decide)).2.1; omega
    · have := (hr.2 (by omega) (by rw [h9]; decide)).2; omega
  exact Int.mul_lt_mul_of_pos_right hb hp
set_option maxRecDepth 65536 in
set_option maxHeartbeats 40000000 in
theorem c_minp (l : Launch) (Z : State) (a0 : Array Value) (hw : ∀ d ∈ tables_1, d.before a0 Z = true) (ws : List Jvm.Cond) (kd zb : Addr) (x0 x1 x2 x3 x4 : UInt64) (b0 b1 b2 b3 b4 : Int32) (h0 : Heap) (n0 : Nat) (Z0 : n0 ≤ h0.size) (VK : DV Z h0 kd [x0, x1, x2, x3, x4]) (VZ : ZV Z h0 zb [b0, b1, b2, b3, b4]) :
    Ctr l Z (⟨"com/example/routeloom/routeloom/MinQueueRemoveMinPinLaw", "minPresent", "([D[Z)D"⟩ : MethodName) method_2_code 4 (some .double) ws ({ frames := 0, cells := 0, slots := 0, locals := 0 } : Room) n0 #[(.ref kd), (.ref zb)] h0 (fun v h => v = some (.double (mpr [x0, x1, x2, x3, x4] [b0, b1, b2, b3, b4] 4636737291354636288)) ∧ h0 = h) := by
  refine ctr (own := "com/example/routeloom/routeloom/MinQueueRemoveMinPinLaw") (nm := "minPresent") rfl rfl (Ls := #[.val (.ref kd), .val (.ref zb), .unset, .unset]) (plainFor_of_name pn1) (fun m => by first | (simp [entryFrame, mkF, argsToLocals, Value.category]; done) | rfl) ?_
  intro p e s m below meth c K eh
  refine Jvm.OwnWp.ldc2D K (wd35 hw) d_method_2_0 (pc' := 3) rfl ?_
  refine Jvm.OwnWp.dstoreN K d_method_2_3 (Ls' := #[.val (.ref kd), .val (.ref zb), .val (.double (4636737291354636288 : UInt64)), .second]) rfl (pc' := 4) rfl ?_
  have J5 : ∀ m5 : UInt64, mpr [] [] m5 = (mpr [x0, x1, x2, x3, x4] [b0, b1, b2, b3, b4] 4636737291354636288) → Go p l e ({ frames := 0, cells := 0, slots := 0, locals := 0 } : Room) s m #[(.ref kd), (.ref zb)] below meth c n0 h0 0 0 (mkF m 94 #[.val (.ref kd), .val (.ref zb), .val (.double m5), .second] []) (fun v h => v = some (.double (mpr [x0, x1, x2, x3, x4] [b0, b1, b2, b3, b4] 4636737291354636288)) ∧ h0 = h) := by
    intro m5 e5
    refine Jvm.OwnWp.dloadN K d_method_2_94 rfl (pc' := 95) rfl ?_
    refine retD K rfl d_method_2_95 (Nat.le_of_ble_eq_true rfl) (Nat.le_of_ble_eq_true rfl) ?_
    exact ⟨by rw [← e5]; rfl, rfl⟩
  have J4 : ∀ m4 : UInt64, mpr [x4] [b4] m4 = (mpr [x0, x1, x2, x3, x4] [b0, b1, b2, b3, b4] 4636737291354636288) → Go p l e ({ frames := 0, cells := 0, slots := 0, locals := 0 } : Room) s m #[(.ref kd), (.ref zb)] below meth c n0 h0 0 0 (mkF m 76 #[.val (.ref kd), .val (.ref zb), .val (.double m4), .second] []) (fun v h => v = some (.double (mpr [x0, x1, x2, x3, x4] [b0, b1, b2, b3, b4] 4636737291354636288)) ∧ h0 = h) := by
    intro m4 e4
    refine Jvm.OwnWp.aloadN K d_method_2_76 rfl rfl (pc' := 77) rfl ?_
    refine Jvm.OwnWp.iconst K (4 : Int32) d_method_2_77 (by decide) (pc' := 78) rfl ?_
    refine zaload K (i := 4) VZ (by decide) (mapAt rfl) d_method_2_78 (pc' := 79) rfl ?_
    by_cases c1 : b4 = 0
    · refine ifY K d_method_2_79 (XT.i0_eq_t c1) (pc' := 94) (by decide) (by decide) ?_
      exact J5 m4 (by rw [← e4]; show _ = mpr [] [] (if b4 = 0 then m4 else _); rw [if_pos c1])
    · refine ifN K d_method_2_79 (XT.i0_eq_f c1) (pc' := 82) rfl ?_
      refine Jvm.OwnWp.aloadN K d_method_2_82 rfl rfl (pc' := 83) rfl ?_
      refine Jvm.OwnWp.iconst K (4 : Int32) d_method_2_83 (by decide) (pc' := 84) rfl ?_
      refine daload K (i := 4) VK (by decide) (mapAt rfl) d_method_2_84 (pc' := 85) rfl ?_
      refine Jvm.OwnWp.dloadN K d_method_2_85 rfl (pc' := 86) rfl ?_
      refine Jvm.OwnWp.dcmp K d_method_2_86 (pc' := 87) rfl ?_
      by_cases c2 : FP.dcmp x4 m4 = some .lt
      · refine ifN K d_method_2_87 (dd_g_ge_f c2) (pc' := 90) rfl ?_
        refine Jvm.OwnWp.aloadN K d_method_2_90 rfl rfl (pc' := 91) rfl ?_
        refine Jvm.OwnWp.iconst K (4 : Int32) d_method_2_91 (by decide) (pc' := 92) rfl ?_
        refine daload K (i := 4) VK (by decide) (mapAt rfl) d_method_2_92 (pc' := 93) rfl ?_
        refine Jvm.OwnWp.dstoreN K d_method_2_93 (Ls' := #[.val (.ref kd), .val (.ref zb), .val (.double x4), .second]) rfl (pc' := 94) rfl ?_
        exact J5 x4 (by rw [← e4]; show _ = mpr [] [] (if b4 = 0 then m4 else if FP.dcmp x4 m4 = some .lt then x4 else m4); rw [if_neg c1, if_pos c2])
      · refine ifY K d_method_2_87 (dd_g_ge_t c2) (pc' := 94) (by decide) (by decide) ?_
        exact J5 m4 (by rw [← e4]; show _ = mpr [] [] (if b4 = 0 then m4 else if FP.dcmp x4 m4 = some .lt then x4 else m4); rw [if_neg c1, if_neg c2])
  have J3 : ∀ m3 : UInt64, mpr [x3, x4] [b3, b4] m3 = (mpr [x0, x1, x2, x3, x4] [b0, b1, b2, b3, b4] 4636737291354636288) → Go p l e ({ frames := 0, cells := 0, slots := 0, locals := 0 } : Room) s m #[(.ref kd), (.ref zb)] below meth c n0 h0 0 0 (mkF m 58 #[.val (.ref kd), .val (.ref zb), .val (.double m3), .second] []) (fun v h => v = some (.double (mpr [x0, x1, x2, x3, x4] [b0, b1, b2, b3, b4] 4636737291354636288)) ∧ h0 = h) := by
    intro m3 e3
    refine Jvm.OwnWp.aloadN K d_method_2_58 rfl rfl (pc' := 59) rfl ?_
    refine Jvm.OwnWp.iconst K (3 : Int32) d_method_2_59 (by decide) (pc' := 60) rfl ?_
    refine zaload K (i := 3) VZ (by decide) (mapAt rfl) d_method_2_60 (pc' := 61) rfl ?_
    by_cases c1 : b3 = 0
    · refine ifY K d_method_2_61 (XT.i0_eq_t c1) (pc' := 76) (by decide) (by decide) ?_
      exact J4 m3 (by rw [← e3]; show _ = mpr [x4] [b4] (if b3 = 0 then m3 else _); rw [if_pos c1])
    · refine ifN K d_method_2_61 (XT.i0_eq_f c1) (pc' := 64) rfl ?_
      refine Jvm.OwnWp.aloadN K d_method_2_64 rfl rfl (pc' := 65) rfl ?_
      refine Jvm.OwnWp.iconst K (3 : Int32) d_method_2_65 (by decide) (pc' := 66) rfl ?_
      refine daload K (i := 3) VK (by decide) (mapAt rfl) d_method_2_66 (pc' := 67) rfl ?_
      refine Jvm.OwnWp.dloadN K d_method_2_67 rfl (pc' := 68) rfl ?_
      refine Jvm.OwnWp.dcmp K d_method_2_68 (pc' := 69) rfl ?_
      by_cases c2 : FP.dcmp x3 m3 = some .lt
      · refine ifN K d_method_2_69 (dd_g_ge_f c2) (pc' := 72) rfl ?_
        refine Jvm.OwnWp.aloadN K d_method_2_72 rfl rfl (pc' := 73) rfl ?_
        refine Jvm.OwnWp.iconst K (3 : Int32) d_method_2_73 (by decide) (pc' := 74) rfl ?_
        refine daload K (i := 3) VK (by decide) (mapAt rfl) d_method_2_74 (pc' := 75) rfl ?_
        refine Jvm.OwnWp.dstoreN K d_method_2_75 (Ls' := #[.val (.ref kd), .val (.ref zb), .val (.double x3), .second]) rfl (pc' := 76) rfl ?_
        exact J4 x3 (by rw [← e3]; show _ = mpr [x4] [b4] (if b3 = 0 then m3 else if FP.dcmp x3 m3 = some .lt then x3 else m3); rw [if_neg c1, if_pos c2])
      · refine ifY K d_method_2_69 (dd_g_ge_t c2) (pc' := 76) (by decide) (by decide) ?_
        exact J4 m3 (by rw [← e3]; show _ = mpr [x4] [b4] (if b3 = 0 then m3 else if FP.dcmp x3 m3 = some .lt then x3 else m3); rw [if_neg c1, if_neg c2])
  have J2 : ∀ m2 : UInt64, mpr [x2, x3, x4] [b2, b3, b4] m2 = (mpr [x0, x1, x2, x3, x4] [b0, b1, b2, b3, b4] 4636737291354636288) → Go p l e ({ frames := 0, cells := 0, slots := 0, locals := 0 } : Room) s m #[(.ref kd), (.ref zb)] below meth c n0 h0 0 0 (mkF m 40 #[.val (.ref kd), .val (.ref zb), .val (.double m2), .second] []) (fun v h => v = some (.double (mpr [x0, x1, x2, x3, x4] [b0, b1, b2, b3, b4] 4636737291354636288)) ∧ h0 = h) := by
    intro m2 e2
    refine Jvm.OwnWp.aloadN K d_method_2_40 rfl rfl (pc' := 41) rfl ?_
    refine Jvm.OwnWp.iconst K (2 : Int32) d_method_2_41 (by decide) (pc' := 42) rfl ?_
    refine zaload K (i := 2) VZ (by decide) (mapAt rfl) d_method_2_42 (pc' := 43) rfl ?_
    by_cases c1 : b2 = 0
    · refine ifY K d_method_2_43 (XT.i0_eq_t c1) (pc' := 58) (by decide) (by decide) ?_
      exact J3 m2 (by rw [← e2]; show _ = mpr [x3, x4] [b3, b4] (if b2 = 0 then m2 else _); rw [if_pos c1])
    · refine ifN K d_method_2_43 (XT.i0_eq_f c1) (pc' := 46) rfl ?_
      refine Jvm.OwnWp.aloadN K d_method_2_46 rfl rfl (pc' := 47) rfl ?_
      refine Jvm.OwnWp.iconst K (2 : Int32) d_method_2_47 (by decide) (pc' := 48) rfl ?_
      refine daload K (i := 2) VK (by decide) (mapAt rfl) d_method_2_48 (pc' := 49) rfl ?_
      refine Jvm.OwnWp.dloadN K d_method_2_49 rfl (pc' := 50) rfl ?_
      refine Jvm.OwnWp.dcmp K d_method_2_50 (pc' := 51) rfl ?_
      by_cases c2 : FP.dcmp x2 m2 = some .lt
      · refine ifN K d_method_2_51 (dd_g_ge_f c2) (pc' := 54) rfl ?_
        refine Jvm.OwnWp.aloadN K d_method_2_54 rfl rfl (pc' := 55) rfl ?_
        refine Jvm.OwnWp.iconst K (2 : Int32) d_method_2_55 (by decide) (pc' := 56) rfl ?_
        refine daload K (i := 2) VK (by decide) (mapAt rfl) d_method_2_56 (pc' := 57) rfl ?_
        refine Jvm.OwnWp.dstoreN K d_method_2_57 (Ls' := #[.val (.ref kd), .val (.ref zb), .val (.double x2), .second]) rfl (pc' := 58) rfl ?_
        exact J3 x2 (by rw [← e2]; show _ = mpr [x3, x4] [b3, b4] (if b2 = 0 then m2 else if FP.dcmp x2 m2 = some .lt then x2 else m2); rw [if_neg c1, if_pos c2])
      · refine ifY K d_method_2_51 (dd_g_ge_t c2) (pc' := 58) (by decide) (by decide) ?_
        exact J3 m2 (by rw [← e2]; show _ = mpr [x3, x4] [b3, b4] (if b2 = 0 then m2 else if FP.dcmp x2 m2 = some .lt then x2 else m2); rw [if_neg c1, if_neg c2])
  have J1 : ∀ m1 : UInt64, mpr [x1, x2, x3, x4] [b1, b2, b3, b4] m1 = (mpr [x0, x1, x2, x3, x4] [b0, b1, b2, b3, b4] 4636737291354636288) → Go p l e ({ frames := 0, cells := 0, slots := 0, locals := 0 } : Room) s m #[(.ref kd), (.ref zb)] below meth c n0 h0 0 0 (mkF m 22 #[.val (.ref kd), .val (.ref zb), .val (.double m1), .second] []) (fun v h => v = some (.double (mpr [x0, x1, x2, x3, x4] [b0, b1, b2, b3, b4] 4636737291354636288)) ∧ h0 = h) := by
    intro m1 e1
    refine Jvm.OwnWp.aloadN K d_method_2_22 rfl rfl (pc' := 23) rfl ?_
    refine Jvm.OwnWp.iconst K (1 : Int32) d_method_2_23 (by decide) (pc' := 24) rfl ?_
    refine zaload K (i := 1) VZ (by decide) (mapAt rfl) d_method_2_24 (pc' := 25) rfl ?_
    by_cases c1 : b1 = 0
    · refine ifY K d_method_2_25 (XT.i0_eq_t c1) (pc' := 40) (by decide) (by decide) ?_
      exact J2 m1 (by rw [← e1]; show _ = mpr [x2, x3, x4] [b2, b3, b4] (if b1 = 0 then m1 else _); rw [if_pos c1])
    · refine ifN K d_method_2_25 (XT.i0_eq_f c1) (pc' := 28) rfl ?_
      refine Jvm.OwnWp.aloadN K d_method_2_28 rfl rfl (pc' := 29) rfl ?_
      refine Jvm.OwnWp.iconst K (1 : Int32) d_method_2_29 (by decide) (pc' := 30) rfl ?_
      refine daload K (i := 1) VK (by decide) (mapAt rfl) d_method_2_30 (pc' := 31) rfl ?_
      refine Jvm.OwnWp.dloadN K d_method_2_31 rfl (pc' := 32) rfl ?_
      refine Jvm.OwnWp.dcmp K d_method_2_32 (pc' := 33) rfl ?_
      by_cases c2 : FP.dcmp x1 m1 = some .lt
      · refine ifN K d_method_2_33 (dd_g_ge_f c2) (pc' := 36) rfl ?_
        refine Jvm.OwnWp.aloadN K d_method_2_36 rfl rfl (pc' := 37) rfl ?_
        refine Jvm.OwnWp.iconst K (1 : Int32) d_method_2_37 (by decide) (pc' := 38) rfl ?_
        refine daload K (i := 1) VK (by decide) (mapAt rfl) d_method_2_38 (pc' := 39) rfl ?_
        refine Jvm.OwnWp.dstoreN K d_method_2_39 (Ls' := #[.val (.ref kd), .val (.ref zb), .val (.double x1), .second]) rfl (pc' := 40) rfl ?_
        exact J2 x1 (by rw [← e1]; show _ = mpr [x2, x3, x4] [b2, b3, b4] (if b1 = 0 then m1 else if FP.dcmp x1 m1 = some .lt then x1 else m1); rw [if_neg c1, if_pos c2])
      · refine ifY K d_method_2_33 (dd_g_ge_t c2) (pc' := 40) (by decide) (by decide) ?_
        exact J2 m1 (by rw [← e1]; show _ = mpr [x2, x3, x4] [b2, b3, b4] (if b1 = 0 then m1 else if FP.dcmp x1 m1 = some .lt then x1 else m1); rw [if_neg c1, if_neg c2])
  have J0 : ∀ m0 : UInt64, mpr [x0, x1, x2, x3, x4] [b0, b1, b2, b3, b4] m0 = (mpr [x0, x1, x2, x3, x4] [b0, b1, b2, b3, b4] 4636737291354636288) → Go p l e ({ frames := 0, cells := 0, slots := 0, locals := 0 } : Room) s m #[(.ref kd), (.ref zb)] below meth c n0 h0 0 0 (mkF m 4 #[.val (.ref kd), .val (.ref zb), .val (.double m0), .second] []) (fun v h => v = some (.double (mpr [x0, x1, x2, x3, x4] [b0, b1, b2, b3, b4] 4636737291354636288)) ∧ h0 = h) := by
    intro m0 e0
    refine Jvm.OwnWp.aloadN K d_method_2_4 rfl rfl (pc' := 5) rfl ?_
    refine Jvm.OwnWp.iconst K (0 : Int32) d_method_2_5 (by decide) (pc' := 6) rfl ?_
    refine zaload K (i := 0) VZ (by decide) (mapAt rfl) d_method_2_6 (pc' := 7) rfl ?_
    by_cases c1 : b0 = 0
    · refine ifY K d_method_2_7 (XT.i0_eq_t c1) (pc' := 22) (by decide) (by decide) ?_
      exact J1 m0 (by rw [← e0]; show _ = mpr [x1, x2, x3, x4] [b1, b2, b3, b4] (if b0 = 0 then m0 else _); rw [if_pos c1])
    · refine ifN K d_method_2_7 (XT.i0_eq_f c1) (pc' := 10) rfl ?_
      refine Jvm.OwnWp.aloadN K d_method_2_10 rfl rfl (pc' := 11) rfl ?_
      refine Jvm.OwnWp.iconst K (0 : Int32) d_method_2_11 (by decide) (pc' := 12) rfl ?_
      refine daload K (i := 0) VK (by decide) (mapAt rfl) d_method_2_12 (pc' := 13) rfl ?_
      refine Jvm.OwnWp.dloadN K d_method_2_13 rfl (pc' := 14) rfl ?_
      refine Jvm.OwnWp.dcmp K d_method_2_14 (pc' := 15) rfl ?_
      by_cases c2 : FP.dcmp x0 m0 = some .lt
      · refine ifN K d_method_2_15 (dd_g_ge_f c2) (pc' := 18) rfl ?_
        refine Jvm.OwnWp.aloadN K d_method_2_18 rfl rfl (pc' := 19) rfl ?_
        refine Jvm.OwnWp.iconst K (0 : Int32) d_method_2_19 (by decide) (pc' := 20) rfl ?_
        refine daload K (i := 0) VK (by decide) (mapAt rfl) d_method_2_20 (pc' := 21) rfl ?_
        refine Jvm.OwnWp.dstoreN K d_method_2_21 (Ls' := #[.val (.ref kd), .val (.ref zb), .val (.double x0), .second]) rfl (pc' := 22) rfl ?_
        exact J1 x0 (by rw [← e0]; show _ = mpr [x1, x2, x3, x4] [b1, b2, b3, b4] (if b0 = 0 then m0 else if FP.dcmp x0 m0 = some .lt then x0 else m0); rw [if_neg c1, if_pos c2])
      · refine ifY K d_method_2_15 (dd_g_ge_t c2) (pc' := 22) (by decide) (by decide) ?_
        exact J1 m0 (by rw [← e0]; show _ = mpr [x1, x2, x3, x4] [b1, b2, b3, b4] (if b0 = 0 then m0 else if FP.dcmp x0 m0 = some .lt then x0 else m0); rw [if_neg c1, if_neg c2])
  exact J0 _ rfl
set_option maxRecDepth 65536 in
set_option maxHeartbeats 40000000 in
theorem c_step (l : Launch) (Z : State) (a0 : Array Value) (hw : ∀ d ∈ tables_1, d.before a0 Z = true) (ws : List Jvm.Cond) (r base : Int32) (kd zb : Addr) (x0 x1 x2 x3 x4 : UInt64) (bs : List Int32) (i : Nat) (h0 : Heap) (n0 : Nat) (Z0 : n0 ≤ h0.size) (hbs : bs.length = 5) (hi : (r - base).toInt = (i : Int)) (i5 : i < 5) (hb1 : bs.getD i 0 = 1) (hc : FP.dcmp ([x0, x1, x2, x3, x4].getD i 0) (mpr [x0, x1, x2, x3, x4] bs 4636737291354636288) = some .eq) (VK : DV Z h0 kd [x0, x1, x2, x3, x4]) (VZ : ZV Z h0 zb bs) (ne_kd_zb : kd ≠ zb) (ge_zb : n0 ≤ zb) :
    Ctr l Z (⟨"com/example/routeloom/routeloom/MinQueueRemoveMinPinLaw", "step", "(II[D[Z)Z"⟩ : MethodName) method_3_code 7 (some .boolean) ws ({ frames := 1, cells := 0, slots := 0, locals := 15 } : Room) n0 #[(.int r), (.int base), (.ref kd), (.ref zb)] h0 (fun v h => v = some (.int 1) ∧ Keep h0 h [zb] ∧ ZV Z h zb (bs.set i 0)) := by
  refine ctr (own := "com/example/routeloom/routeloom/MinQueueRemoveMinPinLaw") (nm := "step") rfl rfl (Ls := #[.val (.int r), .val (.int base), .val (.ref kd), .val (.ref zb), .unset, .unset, .unset]) (plainFor_of_name pn1) (fun m => by first | (simp [entryFrame, mkF, argsToLocals, Value.category]; done) | rfl) ?_
  intro p e s m below meth c K eh
  have P0 := Keep.refl h0 [zb]
  refine Jvm.OwnWp.iloadN K d_method_3_0 rfl (pc' := 1) rfl ?_
  refine Jvm.OwnWp.iloadN K d_method_3_1 rfl (pc' := 2) rfl ?_
  refine Jvm.OwnWp.isub K d_method_3_2 (pc' := 3) rfl ?_
  refine Jvm.OwnWp.istore K d_method_3_3 (Ls' := #[.val (.int r), .val (.int base), .val (.ref kd), .val (.ref zb), .val (.int (r - base)), .unset, .unset]) rfl (pc' := 5) rfl ?_
  refine Jvm.OwnWp.iload K d_method_3_5 rfl (pc' := 7) rfl ?_
  refine ifN K d_method_3_7 (XT.i0_lt_f (by rw [Int32.lt_iff_toInt_lt, hi]; simp)) (pc' := 10) rfl ?_
  refine Jvm.OwnWp.iload K d_method_3_10 rfl (pc' := 12) rfl ?_
  refine Jvm.OwnWp.iconst K (4 : Int32) d_method_3_12 (by decide) (pc' := 13) rfl ?_
  refine icY K d_method_3_13 (XT.ii_le_t (by rw [Int32.lt_iff_toInt_lt, hi]; simp; omega)) (pc' := 18) (by decide) (by decide) ?_
  refine Jvm.OwnWp.aloadN K d_method_3_18 rfl rfl (pc' := 19) rfl ?_
  refine Jvm.OwnWp.iload K d_method_3_19 rfl (pc' := 21) rfl ?_
  refine zaload K (i := i) VZ hi (mapAt (x := 1) (by rw [getDAt (d := 0) (by rw [hbs]; exact i5), hb1])) d_method_3_21 (pc' := 22) rfl ?_
  refine ifY K d_method_3_22 (by decide) (pc' := 27) (by decide) (by decide) ?_
  refine Jvm.OwnWp.aloadN K d_method_3_27 rfl rfl (pc' := 28) rfl ?_
  refine Jvm.OwnWp.aloadN K d_method_3_28 rfl rfl (pc' := 29) rfl ?_
  obtain ⟨b0, b1, b2, b3, b4, rfl⟩ := own_five hbs
  refine callStatic K (y := (⟨"com/example/routeloom/routeloom/MinQueueRemoveMinPinLaw", "minPresent", "([D[Z)D"⟩ : MethodName)) (argsL := [(.ref kd), (.ref zb)]) (S := []) (wd32 hw) (wd33 hw) (wd30 hw) (wd34 hw) (by decide) (c_minp l Z a0 hw [] kd zb x0 x1 x2 x3 x4 b0 b1 b2 b3 b4 h0 n0 Z0 VK VZ) (lenOf pd0 rfl) d_method_3_29 rfl (Nat.le_of_ble_eq_true rfl) (Nat.le_of_ble_eq_true rfl) (Nat.le_of_ble_eq_true rfl) (Nat.le_of_ble_eq_true rfl) rfl (pc' := 32) rfl ?_
  rintro v21 h21 ⟨rfl, rfl⟩
  show Go _ _ _ _ _ _ _ _ _ _ _ h0 0 0 (mkF m 32 #[.val (.int r), .val (.int base), .val (.ref kd), .val (.ref zb), .val (.int (r - base)), .unset, .unset] [(.double (mpr [x0, x1, x2, x3, x4] [b0, b1, b2, b3, b4] 4636737291354636288))]) _
  refine Jvm.OwnWp.dstore K d_method_3_32 (Ls' := #[.val (.int r), .val (.int base), .val (.ref kd), .val (.ref zb), .val (.int (r - base)), .val (.double (mpr [x0, x1, x2, x3, x4] [b0, b1, b2, b3, b4] 4636737291354636288)), .second]) rfl (pc' := 34) rfl ?_
  refine Jvm.OwnWp.aloadN K d_method_3_34 rfl rfl (pc' := 35) rfl ?_
  refine Jvm.OwnWp.iload K d_method_3_35 rfl (pc' := 37) rfl ?_
  refine Jvm.OwnWp.iconst K (0 : Int32) d_method_3_37 (by decide) (pc' := 38) rfl ?_
  refine zastore K (i := i) VZ hi (mapLt (by simpa using i5)) ge_zb d_method_3_38 (pc' := 39) rfl ?_
  intro h22 W22
  have V22_kd := (VK.other W22 ne_kd_zb)
  have P22 := (P0.wr W22 (Or.inl (List.mem_of_getElem? (i := 0) rfl)))
  have V22_zb := VZ.set W22
  refine Jvm.OwnWp.aloadN K d_method_3_39 rfl rfl (pc' := 40) rfl ?_
  refine Jvm.OwnWp.iload K d_method_3_40 rfl (pc' := 42) rfl ?_
  refine daload K (i := i) V22_kd hi (mapAt (getDAt (d := 0) (by simpa using i5))) d_method_3_42 (pc' := 43) rfl ?_
  refine Jvm.OwnWp.dload K d_method_3_43 rfl (pc' := 45) rfl ?_
  refine Jvm.OwnWp.dcmp K d_method_3_45 (pc' := 46) rfl ?_
  refine ifN K d_method_3_46 (dd_l_ne_f hc) (pc' := 49) rfl ?_
  refine Jvm.OwnWp.iconst K (1 : Int32) d_method_3_49 (by decide) (pc' := 50) rfl ?_
  refine goto' K d_method_3_50 (pc' := 54) (by decide) (by decide) ?_
  refine retB K (t := .boolean) rfl (by simp) d_method_3_54 (Nat.le_of_ble_eq_true rfl) (Nat.le_of_ble_eq_true rfl) ?_
  exact ⟨rfl, P22, V22_zb⟩
set_option maxRecDepth 65536 in
set_option maxHeartbeats 40000000 in
theorem c_law (l : Launch) (Z : State) (a0 : Array Value) (hw : ∀ d ∈ tables_1, d.before a0 Z = true) (ws : List Jvm.Cond) (p0 p1 p2 p3 p4 p5 : Int32) (h0 : Heap) (n0 : Nat) (Z0 : n0 ≤ h0.size) :
    Ctr l Z x code maxLocals ret ws room_1 n0 #[(.int p0), (.int p1), (.int p2), (.int p3), (.int p4), (.int p5)] h0 (fun v h => v = some (.int 1)) := by
  refine ctr (own := "com/example/routeloom/routeloom/MinQueueRemoveMinPinLaw") (nm := "law") rfl rfl (Ls := #[.val (.int p0), .val (.int p1), .val (.int p2), .val (.int p3), .val (.int p4), .val (.int p5), .unset, .unset, .unset, .unset, .unset, .unset, .unset, .unset]) (plainFor_of_name pn1) (fun m => by first | (simp [entryFrame, mkF, argsToLocals, Value.category, maxLocals]; done) | rfl) ?_
  intro p e s m below meth c K eh
  have P0 := Keep.refl h0 []
  obtain ⟨nm0, lt0⟩ := own_key p0
  obtain ⟨nm1, lt1⟩ := own_key p1
  obtain ⟨nm2, lt2⟩ := own_key p2
  obtain ⟨nm3, lt3⟩ := own_key p3
  obtain ⟨nm4, lt4⟩ := own_key p4
  refine Jvm.OwnWp.iconst K (5 : Int32) at_0 (by decide) (pc' := 1) rfl ?_
  refine newArr K (aty := ArrayType.double) (N := 5) (wd0 hw) (by decide) (by decide) at_1 (Nat.le_of_ble_eq_true rfl) (Nat.le_of_ble_eq_true rfl) (pc' := 3) rfl ?_
  intro h23 b23 g23 E23 A23
  have lt_b23 : h0.size ≤ b23 := Nat.le_trans P0.1 (Nat.le_of_eq g23.symm)
  have ge_b23 : n0 ≤ b23 := Nat.le_trans Z0 lt_b23
  have P23 := (P0.ext E23)
  have A23 := DV.new A23
  refine Jvm.OwnWp.astore K at_3 rfl (Ls' := #[.val (.int p0), .val (.int p1), .val (.int p2), .val (.int p3), .val (.int p4), .val (.int p5), .val (.ref b23), .unset, .unset, .unset, .unset, .unset, .unset, .unset]) rfl (pc' := 5) rfl ?_
  refine Jvm.OwnWp.aload K at_5 rfl rfl (pc' := 7) rfl ?_
  refine Jvm.OwnWp.iconst K (0 : Int32) at_7 (by decide) (pc' := 8) rfl ?_
  refine Jvm.OwnWp.iloadN K at_8 rfl (pc' := 9) rfl ?_
  refine Jvm.OwnWp.bipush K (9 : Int32) at_9 (by decide) (pc' := 11) rfl ?_
  refine Jvm.OwnWp.irem K at_11 (by decide) (pc' := 12) rfl ?_
  refine Jvm.OwnWp.i2d K at_12 (pc' := 13) rfl ?_
  generalize FP.i2d (p0 % 9) = X0 at *
  refine dastore K (i := 0) A23 (by decide) (mapLt (by simp)) ge_b23 at_13 (pc' := 14) rfl ?_
  intro h24 W24
  have P24 := (P23.wr W24 (Or.inr lt_b23))
  have V24_b23 := A23.set W24
  refine Jvm.OwnWp.aload K at_14 rfl rfl (pc' := 16) rfl ?_
  refine Jvm.OwnWp.iconst K (1 : Int32) at_16 (by decide) (pc' := 17) rfl ?_
  refine Jvm.OwnWp.iloadN K at_17 rfl (pc' := 18) rfl ?_
  refine Jvm.OwnWp.bipush K (9 : Int32) at_18 (by decide) (pc' := 20) rfl ?_
  refine Jvm.OwnWp.irem K at_20 (by decide) (pc' := 21) rfl ?_
  refine Jvm.OwnWp.i2d K at_21 (pc' := 22) rfl ?_
  generalize FP.i2d (p1 % 9) = X1 at *
  refine dastore K (i := 1) V24_b23 (by decide) (mapLt (by simp)) ge_b23 at_22 (pc' := 23) rfl ?_
  intro h25 W25
  have P25 := (P24.wr W25 (Or.inr lt_b23))
  have V25_b23 := V24_b23.set W25
  refine Jvm.OwnWp.aload K at_23 rfl rfl (pc' := 25) rfl ?_
  refine Jvm.OwnWp.iconst K (2 : Int32) at_25 (by decide) (pc' := 26) rfl ?_
  refine Jvm.OwnWp.iloadN K at_26 rfl (pc' := 27) rfl ?_
  refine Jvm.OwnWp.bipush K (9 : Int32) at_27 (by decide) (pc' := 29) rfl ?_
  refine Jvm.OwnWp.irem K at_29 (by decide) (pc' := 30) rfl ?_
  refine Jvm.OwnWp.i2d K at_30 (pc' := 31) rfl ?_
  generalize FP.i2d (p2 % 9) = X2 at *
  refine dastore K (i := 2) V25_b23 (by decide) (mapLt (by simp)) ge_b23 at_31 (pc' := 32) rfl ?_
  intro h26 W26
  have P26 := (P25.wr W26 (Or.inr lt_b23))
  have V26_b23 := V25_b23.set W26
  refine Jvm.OwnWp.aload K at_32 rfl rfl (pc' := 34) rfl ?_
  refine Jvm.OwnWp.iconst K (3 : Int32) at_34 (by decide) (pc' := 35) rfl ?_
  refine Jvm.OwnWp.iloadN K at_35 rfl (pc' := 36) rfl ?_
  refine Jvm.OwnWp.bipush K (9 : Int32) at_36 (by decide) (pc' := 38) rfl ?_
  refine Jvm.OwnWp.irem K at_38 (by decide) (pc' := 39) rfl ?_
  refine Jvm.OwnWp.i2d K at_39 (pc' := 40) rfl ?_
  generalize FP.i2d (p3 % 9) = X3 at *
  refine dastore K (i := 3) V26_b23 (by decide) (mapLt (by simp)) ge_b23 at_40 (pc' := 41) rfl ?_
  intro h27 W27
  have P27 := (P26.wr W27 (Or.inr lt_b23))
  have V27_b23 := V26_b23.set W27
  refine Jvm.OwnWp.aload K at_41 rfl rfl (pc' := 43) rfl ?_
  refine Jvm.OwnWp.iconst K (4 : Int32) at_43 (by decide) (pc' := 44) rfl ?_
  refine Jvm.OwnWp.iload K at_44 rfl (pc' := 46) rfl ?_
  refine Jvm.OwnWp.bipush K (9 : Int32) at_46 (by decide) (pc' := 48) rfl ?_
  refine Jvm.OwnWp.irem K at_48 (by decide) (pc' := 49) rfl ?_
  refine Jvm.OwnWp.i2d K at_49 (pc' := 50) rfl ?_
  generalize FP.i2d (p4 % 9) = X4 at *
  refine dastore K (i := 4) V27_b23 (by decide) (mapLt (by simp)) ge_b23 at_50 (pc' := 51) rfl ?_
  intro h28 W28
  have P28 := (P27.wr W28 (Or.inr lt_b23))
  have V28_b23 := V27_b23.set W28
  have VK : DV Z h28 b23 [X0, X1, X2, X3, X4] := V28_b23
  refine Jvm.OwnWp.iconst K (5 : Int32) at_51 (by decide) (pc' := 52) rfl ?_
  refine newArr K (aty := ArrayType.boolean) (N := 5) (wd1 hw) (by decide) (by decide) at_52 (Nat.le_of_ble_eq_true rfl) (Nat.le_of_ble_eq_true rfl) (pc' := 54) rfl ?_
  intro h29 b29 g29 E29 A29
  have ne_b23_b29 : b23 ≠ b29 := Nat.ne_of_lt (Nat.lt_of_lt_of_eq (VK.lt) g29.symm)
  have lt_b29 : h0.size ≤ b29 := Nat.le_trans P28.1 (Nat.le_of_eq g29.symm)
  have ge_b29 : n0 ≤ b29 := Nat.le_trans Z0 lt_b29
  have V29_b23 := (VK.ext E29)
  have P29 := (P28.ext E29)
  have A29 := ZV.new A29
  refine Jvm.OwnWp.astore K at_54 rfl (Ls' := #[.val (.int p0), .val (.int p1), .val (.int p2), .val (.int p3), .val (.int p4), .val (.int p5), .val (.ref b23), .val (.ref b29), .unset, .unset, .unset, .unset, .unset, .unset]) rfl (pc' := 56) rfl ?_
  refine Jvm.OwnWp.aload K at_56 rfl rfl (pc' := 58) rfl ?_
  refine Jvm.OwnWp.iconst K (0 : Int32) at_58 (by decide) (pc' := 59) rfl ?_
  refine Jvm.OwnWp.iconst K (1 : Int32) at_59 (by decide) (pc' := 60) rfl ?_
  refine zastore K (i := 0) A29 (by decide) (mapLt (by simp)) ge_b29 at_60 (pc' := 61) rfl ?_
  intro h30 W30
  have V30_b23 := (V29_b23.other W30 ne_b23_b29)
  have P30 := (P29.wr W30 (Or.inr lt_b29))
  have V30_b29 := A29.set W30
  refine Jvm.OwnWp.aload K at_61 rfl rfl (pc' := 63) rfl ?_
  refine Jvm.OwnWp.iconst K (1 : Int32) at_63 (by decide) (pc' := 64) rfl ?_
  refine Jvm.OwnWp.iconst K (1 : Int32) at_64 (by decide) (pc' := 65) rfl ?_
  refine zastore K (i := 1) V30_b29 (by decide) (mapLt (by simp)) ge_b29 at_65 (pc' := 66) rfl ?_
  intro h31 W31
  have V31_b23 := (V30_b23.other W31 ne_b23_b29)
  have P31 := (P30.wr W31 (Or.inr lt_b29))
  have V31_b29 := V30_b29.set W31
  refine Jvm.OwnWp.aload K at_66 rfl rfl (pc' := 68) rfl ?_
  refine Jvm.OwnWp.iconst K (2 : Int32) at_68 (by decide) (pc' := 69) rfl ?_
  refine Jvm.OwnWp.iconst K (1 : Int32) at_69 (by decide) (pc' := 70) rfl ?_
  refine zastore K (i := 2) V31_b29 (by decide) (mapLt (by simp)) ge_b29 at_70 (pc' := 71) rfl ?_
  intro h32 W32
  have V32_b23 := (V31_b23.other W32 ne_b23_b29)
  have P32 := (P31.wr W32 (Or.inr lt_b29))
  have V32_b29 := V31_b29.set W32
  refine Jvm.OwnWp.aload K at_71 rfl rfl (pc' := 73) rfl ?_
  refine Jvm.OwnWp.iconst K (3 : Int32) at_73 (by decide) (pc' := 74) rfl ?_
  refine Jvm.OwnWp.iconst K (1 : Int32) at_74 (by decide) (pc' := 75) rfl ?_
  refine zastore K (i := 3) V32_b29 (by decide) (mapLt (by simp)) ge_b29 at_75 (pc' := 76) rfl ?_
  intro h33 W33
  have V33_b23 := (V32_b23.other W33 ne_b23_b29)
  have P33 := (P32.wr W33 (Or.inr lt_b29))
  have V33_b29 := V32_b29.set W33
  refine Jvm.OwnWp.aload K at_76 rfl rfl (pc' := 78) rfl ?_
  refine Jvm.OwnWp.iconst K (4 : Int32) at_78 (by decide) (pc' := 79) rfl ?_
  refine Jvm.OwnWp.iconst K (1 : Int32) at_79 (by decide) (pc' := 80) rfl ?_
  refine zastore K (i := 4) V33_b29 (by decide) (mapLt (by simp)) ge_b29 at_80 (pc' := 81) rfl ?_
  intro h34 W34
  have V34_b23 := (V33_b23.other W34 ne_b23_b29)
  have P34 := (P33.wr W34 (Or.inr lt_b29))
  have V34_b29 := V33_b29.set W34
  have VZ : ZV Z h34 b29 [1, 1, 1, 1, 1] := V34_b29
  refine newObj K (wd2 hw) (wd3 hw) (wd4 hw) at_81 (by decide) (by decide) (pc' := 84) rfl ?_
  intro h35 b35 g35 E35 A35 D35
  have ne_b23_b35 : b23 ≠ b35 := Nat.ne_of_lt (Nat.lt_of_lt_of_eq (V34_b23.lt) g35.symm)
  have ne_b29_b35 : b29 ≠ b35 := Nat.ne_of_lt (Nat.lt_of_lt_of_eq (VZ.lt) g35.symm)
  have lt_b35 : h0.size ≤ b35 := Nat.le_trans P34.1 (Nat.le_of_eq g35.symm)
  have ge_b35 : n0 ≤ b35 := Nat.le_trans Z0 lt_b35
  have V35_b23 := (V34_b23.ext E35)
  have V35_b29 := (VZ.ext E35)
  have P35 := (P34.ext E35)
  have F35_keys_b35 : Fld Z h35 b35 "com/example/routeloom/routeloom/MinQueue" "keys" "[D" .null := D35 (Or.inl (wd12 hw)) (ty := (.array .double)) (by decide)
  have F35_items_b35 : Fld Z h35 b35 "com/example/routeloom/routeloom/MinQueue" "items" "[I" .null := D35 (Or.inl (wd15 hw)) (ty := (.array .int)) (by decide)
  have F35_size_b35 : Fld Z h35 b35 "com/example/routeloom/routeloom/MinQueue" "size" "I" (.int (0 : Int32)) := D35 (Or.inl (wd22 hw)) (ty := .int) (by decide)
  refine Jvm.OwnWp.dup K at_84 rfl (pc' := 85) rfl ?_
  refine callInit K (y := (⟨"com/example/routeloom/routeloom/MinQueue", "<init>", "()V"⟩ : MethodName)) (b := b35) (argsL := []) (S := [(.ref b35)]) rfl (wd5 hw) (wd6 hw) (wd4 hw) (wd7 hw) rfl (by decide) (c_init l Z a0 hw [] b35 h35 n0 (Nat.le_trans Z0 P35.1) A35 ge_b35 F35_keys_b35 F35_items_b35 F35_size_b35) (lenOf pd1 rfl) at_85 rfl (Nat.le_of_ble_eq_true rfl) (Nat.le_of_ble_eq_true rfl) (Nat.le_of_ble_eq_true rfl) (Nat.le_of_ble_eq_true rfl) rfl (pc' := 88) rfl ?_
  rintro v36 h36 ⟨rfl, K36, ks, is, lk36, li36, ne_is_ks, Q36_F_keys, Q36_F_items, Q36_F_size, Q36_VK, Q36_VI⟩
  have ne_b35_ks : b35 ≠ ks := Nat.ne_of_lt (Nat.lt_of_lt_of_le (Exa.lt A35) lk36)
  have ne_b23_ks : b23 ≠ ks := Nat.ne_of_lt (Nat.lt_of_lt_of_le (V35_b23.lt) lk36)
  have ne_b29_ks : b29 ≠ ks := Nat.ne_of_lt (Nat.lt_of_lt_of_le (V35_b29.lt) lk36)
  have lt_ks : h0.size ≤ ks := Nat.le_trans P35.1 lk36
  have ge_ks : n0 ≤ ks := Nat.le_trans Z0 lt_ks
  have ne_b35_is : b35 ≠ is := Nat.ne_of_lt (Nat.lt_of_lt_of_le (Exa.lt A35) li36)
  have ne_b23_is : b23 ≠ is := Nat.ne_of_lt (Nat.lt_of_lt_of_le (V35_b23.lt) li36)
  have ne_b29_is : b29 ≠ is := Nat.ne_of_lt (Nat.lt_of_lt_of_le (V35_b29.lt) li36)
  have lt_is : h0.size ≤ is := Nat.le_trans P35.1 li36
  have ge_is : n0 ≤ is := Nat.le_trans Z0 lt_is
  have X36_b35 := (Exa.keep A35 K36)
  have V36_b23 := (V35_b23.keep K36 (ninS ne_b23_b35 (nin0)))
  have V36_b29 := (V35_b29.keep K36 (ninS ne_b29_b35 (nin0)))
  have P36 := (P35.trans K36 (allS (Or.inr lt_b35) (all0)))
  show Go _ _ _ _ _ _ _ _ _ _ _ h36 5 141 (mkF m 88 #[.val (.int p0), .val (.int p1), .val (.int p2), .val (.int p3), .val (.int p4), .val (.int p5), .val (.ref b23), .val (.ref b29), .unset, .unset, .unset, .unset, .unset, .unset] [(.ref b35)]) _
  have inv0 : Inv p5 [X0, X1, X2, X3, X4] 0 (List.replicate 64 0) (List.replicate 64 0) [] := ⟨fun i hi => absurd hi (Nat.not_lt_zero _), fun i _ hi => absurd hi (Nat.not_lt_zero _), List.Perm.refl _, List.nodup_nil, fun j hj => nomatch hj⟩
  refine Jvm.OwnWp.astore K at_88 rfl (Ls' := #[.val (.int p0), .val (.int p1), .val (.int p2), .val (.int p3), .val (.int p4), .val (.int p5), .val (.ref b23), .val (.ref b29), .val (.ref b35), .unset, .unset, .unset, .unset, .unset]) rfl (pc' := 90) rfl ?_
  refine Jvm.OwnWp.aload K at_90 rfl rfl (pc' := 92) rfl ?_
  refine Jvm.OwnWp.iload K at_92 rfl (pc' := 94) rfl ?_
  refine Jvm.OwnWp.aload K at_94 rfl rfl (pc' := 96) rfl ?_
  refine Jvm.OwnWp.iconst K (0 : Int32) at_96 (by decide) (pc' := 97) rfl ?_
  refine daload K (i := 0) V36_b23 (by decide) (mapAt rfl) at_97 (pc' := 98) rfl ?_
  have inv1 := inv_add (key := X0) (item := p5) inv0 (by decide) (List.length_replicate ..) (List.length_replicate ..) (j := 0) (by decide) (by decide) nm0 rfl (by simp)
  refine callVirt K (y := (⟨"com/example/routeloom/routeloom/MinQueue", "add", "(ID)V"⟩ : MethodName)) (b := b35) (argsL := [(.int p5), (.double X0)]) (S := []) (wd16 hw) (wd17 hw) (wd19 hw) (wd18 hw) (wd4 hw) (wd20 hw) (by decide) X36_b35 (c_add l Z a0 hw [] b35 ks is p5 X0 0 (0 : Int32) (List.replicate 64 0) (List.replicate 64 0) h36 n0 (Nat.le_trans Z0 P36.1) (by decide) (by decide) (List.length_replicate ..) (List.length_replicate ..) X36_b35 Q36_F_keys Q36_F_items Q36_F_size Q36_VK Q36_VI (Ne.symm ne_b35_ks) (Ne.symm ne_b35_is) ne_is_ks ge_b35 ge_ks ge_is) (lenOf pd2 rfl) at_98 rfl (Nat.le_of_ble_eq_true rfl) (Nat.le_of_ble_eq_true rfl) (Nat.le_of_ble_eq_true rfl) (Nat.le_of_ble_eq_true rfl) rfl (pc' := 101) rfl ?_
  rintro v37 h37 ⟨rfl, K37, Q37_E, Q37_F_keys, Q37_F_items, Q37_F_size, Q37_VK, Q37_VI⟩
  have X37_b35 := (Exa.keep X36_b35 K37)
  have V37_b23 := (V36_b23.keep K37 (ninS ne_b23_b35 (ninS ne_b23_ks (ninS ne_b23_is (nin0)))))
  have V37_b29 := (V36_b29.keep K37 (ninS ne_b29_b35 (ninS ne_b29_ks (ninS ne_b29_is (nin0)))))
  have P37 := (P36.trans K37 (allS (Or.inr lt_b35) (allS (Or.inr lt_ks) (allS (Or.inr lt_is) (all0)))))
  have hu37 := up_len (key := X0) (item := p5) 0 (List.replicate 64 0) (List.replicate 64 0)
  rw [List.length_replicate, List.length_replicate] at hu37
  show Go _ _ _ _ _ _ _ _ _ _ _ h37 5 141 (mkF m 101 #[.val (.int p0), .val (.int p1), .val (.int p2), .val (.int p3), .val (.int p4), .val (.int p5), .val (.ref b23), .val (.ref b29), .val (.ref b35), .unset, .unset, .unset, .unset, .unset] []) _
  generalize up X0 p5 (List.replicate 64 0) (List.replicate 64 0) 0 = U37 at hu37 Q37_VK Q37_VI inv1
  refine Jvm.OwnWp.aload K at_101 rfl rfl (pc' := 103) rfl ?_
  refine Jvm.OwnWp.iload K at_103 rfl (pc' := 105) rfl ?_
  refine Jvm.OwnWp.iconst K (1 : Int32) at_105 (by decide) (pc' := 106) rfl ?_
  refine Jvm.OwnWp.iadd K at_106 (pc' := 107) rfl ?_
  refine Jvm.OwnWp.aload K at_107 rfl rfl (pc' := 109) rfl ?_
  refine Jvm.OwnWp.iconst K (1 : Int32) at_109 (by decide) (pc' := 110) rfl ?_
  refine daload K (i := 1) V37_b23 (by decide) (mapAt rfl) at_110 (pc' := 111) rfl ?_
  have inv2 := inv_add (key := X1) (item := (p5 + (1 : Int32))) inv1 (by decide) hu37.1 hu37.2 (j := 1) (by decide) (by decide) nm1 rfl rfl
  refine callVirt K (y := (⟨"com/example/routeloom/routeloom/MinQueue", "add", "(ID)V"⟩ : MethodName)) (b := b35) (argsL := [(.int (p5 + (1 : Int32))), (.double X1)]) (S := []) (wd16 hw) (wd17 hw) (wd19 hw) (wd18 hw) (wd4 hw) (wd20 hw) (by decide) Q37_E (c_add l Z a0 hw [] b35 ks is (p5 + (1 : Int32)) X1 1 ((0 : Int32) + (1 : Int32)) U37.1 U37.2 h37 n0 (Nat.le_trans Z0 P37.1) (by decide) (by decide) hu37.1 hu37.2 Q37_E Q37_F_keys Q37_F_items Q37_F_size Q37_VK Q37_VI (Ne.symm ne_b35_ks) (Ne.symm ne_b35_is) ne_is_ks ge_b35 ge_ks ge_is) (lenOf pd2 rfl) at_111 rfl (Nat.le_of_ble_eq_true rfl) (Nat.le_of_ble_eq_true rfl) (Nat.le_of_ble_eq_true rfl) (Nat.le_of_ble_eq_true rfl) rfl (pc' := 114) rfl ?_
  rintro v38 h38 ⟨rfl, K38, Q38_E, Q38_F_keys, Q38_F_items, Q38_F_size, Q38_VK, Q38_VI⟩
  have X38_b35 := (Exa.keep Q37_E K38)
  have V38_b23 := (V37_b23.keep K38 (ninS ne_b23_b35 (ninS ne_b23_ks (ninS ne_b23_is (nin0)))))
  have V38_b29 := (V37_b29.keep K38 (ninS ne_b29_b35 (ninS ne_b29_ks (ninS ne_b29_is (nin0)))))
  have P38 := (P37.trans K38 (allS (Or.inr lt_b35) (allS (Or.inr lt_ks) (allS (Or.inr lt_is) (all0)))))
  have hu38 := up_len (key := X1) (item := (p5 + (1 : Int32))) 1 U37.1 U37.2
  rw [hu37.1, hu37.2] at hu38
  show Go _ _ _ _ _ _ _ _ _ _ _ h38 5 141 (mkF m 114 #[.val (.int p0), .val (.int p1), .val (.int p2), .val (.int p3), .val (.int p4), .val (.int p5), .val (.ref b23), .val (.ref b29), .val (.ref b35), .unset, .unset, .unset, .unset, .unset] []) _
  generalize up X1 (p5 + (1 : Int32)) U37.1 U37.2 1 = U38 at hu38 Q38_VK Q38_VI inv2
  refine Jvm.OwnWp.aload K at_114 rfl rfl (pc' := 116) rfl ?_
  refine Jvm.OwnWp.iload K at_116 rfl (pc' := 118) rfl ?_
  refine Jvm.OwnWp.iconst K (2 : Int32) at_118 (by decide) (pc' := 119) rfl ?_
  refine Jvm.OwnWp.iadd K at_119 (pc' := 120) rfl ?_
  refine Jvm.OwnWp.aload K at_120 rfl rfl (pc' := 122) rfl ?_
  refine Jvm.OwnWp.iconst K (2 : Int32) at_122 (by decide) (pc' := 123) rfl ?_
  refine daload K (i := 2) V38_b23 (by decide) (mapAt rfl) at_123 (pc' := 124) rfl ?_
  have inv3 := inv_add (key := X2) (item := (p5 + (2 : Int32))) inv2 (by decide) hu38.1 hu38.2 (j := 2) (by decide) (by decide) nm2 rfl rfl
  refine callVirt K (y := (⟨"com/example/routeloom/routeloom/MinQueue", "add", "(ID)V"⟩ : MethodName)) (b := b35) (argsL := [(.int (p5 + (2 : Int32))), (.double X2)]) (S := []) (wd16 hw) (wd17 hw) (wd19 hw) (wd18 hw) (wd4 hw) (wd20 hw) (by decide) Q38_E (c_add l Z a0 hw [] b35 ks is (p5 + (2 : Int32)) X2 2 (((0 : Int32) + (1 : Int32)) + (1 : Int32)) U38.1 U38.2 h38 n0 (Nat.le_trans Z0 P38.1) (by decide) (by decide) hu38.1 hu38.2 Q38_E Q38_F_keys Q38_F_items Q38_F_size Q38_VK Q38_VI (Ne.symm ne_b35_ks) (Ne.symm ne_b35_is) ne_is_ks ge_b35 ge_ks ge_is) (lenOf pd2 rfl) at_124 rfl (Nat.le_of_ble_eq_true rfl) (Nat.le_of_ble_eq_true rfl) (Nat.le_of_ble_eq_true rfl) (Nat.le_of_ble_eq_true rfl) rfl (pc' := 127) rfl ?_
  rintro v39 h39 ⟨rfl, K39, Q39_E, Q39_F_keys, Q39_F_items, Q39_F_size, Q39_VK, Q39_VI⟩
  have X39_b35 := (Exa.keep Q38_E K39)
  have V39_b23 := (V38_b23.keep K39 (ninS ne_b23_b35 (ninS ne_b23_ks (ninS ne_b23_is (nin0)))))
  have V39_b29 := (V38_b29.keep K39 (ninS ne_b29_b35 (ninS ne_b29_ks (ninS ne_b29_is (nin0)))))
  have P39 := (P38.trans K39 (allS (Or.inr lt_b35) (allS (Or.inr lt_ks) (allS (Or.inr lt_is) (all0)))))
  have hu39 := up_len (key := X2) (item := (p5 + (2 : Int32))) 2 U38.1 U38.2
  rw [hu38.1, hu38.2] at hu39
  show Go _ _ _ _ _ _ _ _ _ _ _ h39 5 141 (mkF m 127 #[.val (.int p0), .val (.int p1), .val (.int p2), .val (.int p3), .val (.int p4), .val (.int p5), .val (.ref b23), .val (.ref b29), .val (.ref b35), .unset, .unset, .unset, .unset, .unset] []) _
  generalize up X2 (p5 + (2 : Int32)) U38.1 U38.2 2 = U39 at hu39 Q39_VK Q39_VI inv3
  refine Jvm.OwnWp.aload K at_127 rfl rfl (pc' := 129) rfl ?_
  refine Jvm.OwnWp.iload K at_129 rfl (pc' := 131) rfl ?_
  refine Jvm.OwnWp.iconst K (3 : Int32) at_131 (by decide) (pc' := 132) rfl ?_
  refine Jvm.OwnWp.iadd K at_132 (pc' := 133) rfl ?_
  refine Jvm.OwnWp.aload K at_133 rfl rfl (pc' := 135) rfl ?_
  refine Jvm.OwnWp.iconst K (3 : Int32) at_135 (by decide) (pc' := 136) rfl ?_
  refine daload K (i := 3) V39_b23 (by decide) (mapAt rfl) at_136 (pc' := 137) rfl ?_
  have inv4 := inv_add (key := X3) (item := (p5 + (3 : Int32))) inv3 (by decide) hu39.1 hu39.2 (j := 3) (by decide) (by decide) nm3 rfl rfl
  refine callVirt K (y := (⟨"com/example/routeloom/routeloom/MinQueue", "add", "(ID)V"⟩ : MethodName)) (b := b35) (argsL := [(.int (p5 + (3 : Int32))), (.double X3)]) (S := []) (wd16 hw) (wd17 hw) (wd19 hw) (wd18 hw) (wd4 hw) (wd20 hw) (by decide) Q39_E (c_add l Z a0 hw [] b35 ks is (p5 + (3 : Int32)) X3 3 ((((0 : Int32) + (1 : Int32)) + (1 : Int32)) + (1 : Int32)) U39.1 U39.2 h39 n0 (Nat.le_trans Z0 P39.1) (by decide) (by decide) hu39.1 hu39.2 Q39_E Q39_F_keys Q39_F_items Q39_F_size Q39_VK Q39_VI (Ne.symm ne_b35_ks) (Ne.symm ne_b35_is) ne_is_ks ge_b35 ge_ks ge_is) (lenOf pd2 rfl) at_137 rfl (Nat.le_of_ble_eq_true rfl) (Nat.le_of_ble_eq_true rfl) (Nat.le_of_ble_eq_true rfl) (Nat.le_of_ble_eq_true rfl) rfl (pc' := 140) rfl ?_
  rintro v40 h40 ⟨rfl, K40, Q40_E, Q40_F_keys, Q40_F_items, Q40_F_size, Q40_VK, Q40_VI⟩
  have X40_b35 := (Exa.keep Q39_E K40)
  have V40_b23 := (V39_b23.keep K40 (ninS ne_b23_b35 (ninS ne_b23_ks (ninS ne_b23_is (nin0)))))
  have V40_b29 := (V39_b29.keep K40 (ninS ne_b29_b35 (ninS ne_b29_ks (ninS ne_b29_is (nin0)))))
  have P40 := (P39.trans K40 (allS (Or.inr lt_b35) (allS (Or.inr lt_ks) (allS (Or.inr lt_is) (all0)))))
  have hu40 := up_len (key := X3) (item := (p5 + (3 : Int32))) 3 U39.1 U39.2
  rw [hu39.1, hu39.2] at hu40
  show Go _ _ _ _ _ _ _ _ _ _ _ h40 5 141 (mkF m 140 #[.val (.int p0), .val (.int p1), .val (.int p2), .val (.int p3), .val (.int p4), .val (.int p5), .val (.ref b23), .val (.ref b29), .val (.ref b35), .unset, .unset, .unset, .unset, .unset] []) _
  generalize up X3 (p5 + (3 : Int32)) U39.1 U39.2 3 = U40 at hu40 Q40_VK Q40_VI inv4
  refine Jvm.OwnWp.aload K at_140 rfl rfl (pc' := 142) rfl ?_
  refine Jvm.OwnWp.iload K at_142 rfl (pc' := 144) rfl ?_
  refine Jvm.OwnWp.iconst K (4 : Int32) at_144 (by decide) (pc' := 145) rfl ?_
  refine Jvm.OwnWp.iadd K at_145 (pc' := 146) rfl ?_
  refine Jvm.OwnWp.aload K at_146 rfl rfl (pc' := 148) rfl ?_
  refine Jvm.OwnWp.iconst K (4 : Int32) at_148 (by decide) (pc' := 149) rfl ?_
  refine daload K (i := 4) V40_b23 (by decide) (mapAt rfl) at_149 (pc' := 150) rfl ?_
  have inv5 := inv_add (key := X4) (item := (p5 + (4 : Int32))) inv4 (by decide) hu40.1 hu40.2 (j := 4) (by decide) (by decide) nm4 rfl rfl
  refine callVirt K (y := (⟨"com/example/routeloom/routeloom/MinQueue", "add", "(ID)V"⟩ : MethodName)) (b := b35) (argsL := [(.int (p5 + (4 : Int32))), (.double X4)]) (S := []) (wd16 hw) (wd17 hw) (wd19 hw) (wd18 hw) (wd4 hw) (wd20 hw) (by decide) Q40_E (c_add l Z a0 hw [] b35 ks is (p5 + (4 : Int32)) X4 4 (((((0 : Int32) + (1 : Int32)) + (1 : Int32)) + (1 : Int32)) + (1 : Int32)) U40.1 U40.2 h40 n0 (Nat.le_trans Z0 P40.1) (by decide) (by decide) hu40.1 hu40.2 Q40_E Q40_F_keys Q40_F_items Q40_F_size Q40_VK Q40_VI (Ne.symm ne_b35_ks) (Ne.symm ne_b35_is) ne_is_ks ge_b35 ge_ks ge_is) (lenOf pd2 rfl) at_150 rfl (Nat.le_of_ble_eq_true rfl) (Nat.le_of_ble_eq_true rfl) (Nat.le_of_ble_eq_true rfl) (Nat.le_of_ble_eq_true rfl) rfl (pc' := 153) rfl ?_
  rintro v41 h41 ⟨rfl, K41, Q41_E, Q41_F_keys, Q41_F_items, Q41_F_size, Q41_VK, Q41_VI⟩
  have X41_b35 := (Exa.keep Q40_E K41)
  have V41_b23 := (V40_b23.keep K41 (ninS ne_b23_b35 (ninS ne_b23_ks (ninS ne_b23_is (nin0)))))
  have V41_b29 := (V40_b29.keep K41 (ninS ne_b29_b35 (ninS ne_b29_ks (ninS ne_b29_is (nin0)))))
  have P41 := (P40.trans K41 (allS (Or.inr lt_b35) (allS (Or.inr lt_ks) (allS (Or.inr lt_is) (all0)))))
  have hu41 := up_len (key := X4) (item := (p5 + (4 : Int32))) 4 U40.1 U40.2
  rw [hu40.1, hu40.2] at hu41
  show Go _ _ _ _ _ _ _ _ _ _ _ h41 5 141 (mkF m 153 #[.val (.int p0), .val (.int p1), .val (.int p2), .val (.int p3), .val (.int p4), .val (.int p5), .val (.ref b23), .val (.ref b29), .val (.ref b35), .unset, .unset, .unset, .unset, .unset] []) _
  generalize up X4 (p5 + (4 : Int32)) U40.1 U40.2 4 = U41 at hu41 Q41_VK Q41_VI inv5
  have marks0 : Marks [1, 1, 1, 1, 1] [4, 3, 2, 1, 0] := ⟨rfl, by decide⟩
  have hxs : ∀ x ∈ [X0, X1, X2, X3, X4], Jvm.OwnHeap.Num x := by
    intro x hx; simp only [List.mem_cons, List.not_mem_nil, or_false] at hx
    rcases hx with rfl | rfl | rfl | rfl | rfl <;> assumption
  have hxm : ∀ x ∈ [X0, X1, X2, X3, X4], Jvm.OwnHeap.kv x < Jvm.OwnHeap.kv 4636737291354636288 := by
    intro x hx; simp only [List.mem_cons, List.not_mem_nil, or_false] at hx
    rcases hx with rfl | rfl | rfl | rfl | rfl <;> assumption
  refine Jvm.OwnWp.aload K at_153 rfl rfl (pc' := 155) rfl ?_
  obtain ⟨j0, jb0, je0, jm0, jc0, marks1, rinv1⟩ := inv_rem (m0 := 4636737291354636288) inv5 (by decide) (by decide) hu41.1 hu41.2 marks0 rfl hxs (Jvm.OwnHeap.num_int own_k100) hxm
  refine callVirt K (y := (⟨"com/example/routeloom/routeloom/MinQueue", "removeMin", "()I"⟩ : MethodName)) (b := b35) (argsL := []) (S := []) (wd23 hw) (wd24 hw) (wd26 hw) (wd25 hw) (wd4 hw) (wd27 hw) (by decide) Q41_E (c_rem l Z a0 hw [] b35 ks is 5 ((((((0 : Int32) + (1 : Int32)) + (1 : Int32)) + (1 : Int32)) + (1 : Int32)) + (1 : Int32)) U41.1 U41.2 h41 n0 (Nat.le_trans Z0 P41.1) (by decide) (by decide) (by decide) hu41.1 hu41.2 Q41_E Q41_F_keys Q41_F_items Q41_F_size Q41_VK Q41_VI (Ne.symm ne_b35_ks) (Ne.symm ne_b35_is) ne_is_ks ge_b35 ge_ks ge_is) (lenOf pd3 rfl) at_155 rfl (Nat.le_of_ble_eq_true rfl) (Nat.le_of_ble_eq_true rfl) (Nat.le_of_ble_eq_true rfl) (Nat.le_of_ble_eq_true rfl) rfl (pc' := 158) rfl ?_
  rintro v42 h42 ⟨rfl, K42, Q42_E, Q42_F_keys, Q42_F_items, Q42_F_size, Q42_VK, Q42_VI⟩
  have X42_b35 := (Exa.keep Q41_E K42)
  have V42_b23 := (V41_b23.keep K42 (ninS ne_b23_b35 (ninS ne_b23_ks (ninS ne_b23_is (nin0)))))
  have V42_b29 := (V41_b29.keep K42 (ninS ne_b29_b35 (ninS ne_b29_ks (ninS ne_b29_is (nin0)))))
  have P42 := (P41.trans K42 (allS (Or.inr lt_b35) (allS (Or.inr lt_ks) (allS (Or.inr lt_is) (all0)))))
  have hu42 := down_len (n := 5 - 1) (key := U41.1.getD (5 - 1) 0) (item := U41.2.getD (5 - 1) 0) _ 0 U41.1 U41.2 (Nat.le_refl _)
  rw [hu41.1, hu41.2] at hu42
  show Go _ _ _ _ _ _ _ _ _ _ _ h42 5 141 (mkF m 158 #[.val (.int p0), .val (.int p1), .val (.int p2), .val (.int p3), .val (.int p4), .val (.int p5), .val (.ref b23), .val (.ref b29), .val (.ref b35), .unset, .unset, .unset, .unset, .unset] [(.int (U41.2.getD 0 0))]) _
  generalize down (5 - 1) (U41.1.getD (5 - 1) 0) (U41.2.getD (5 - 1) 0) U41.1 U41.2 0 = U42 at hu42 Q42_VK Q42_VI rinv1
  refine Jvm.OwnWp.iload K at_158 rfl (pc' := 160) rfl ?_
  refine Jvm.OwnWp.aload K at_160 rfl rfl (pc' := 162) rfl ?_
  refine Jvm.OwnWp.aload K at_162 rfl rfl (pc' := 164) rfl ?_
  refine callStatic K (y := (⟨"com/example/routeloom/routeloom/MinQueueRemoveMinPinLaw", "step", "(II[D[Z)Z"⟩ : MethodName)) (argsL := [(.int (U41.2.getD 0 0)), (.int p5), (.ref b23), (.ref b29)]) (S := []) (wd28 hw) (wd29 hw) (wd30 hw) (wd31 hw) (by decide) (c_step l Z a0 hw [] (U41.2.getD 0 0) p5 b23 b29 X0 X1 X2 X3 X4 [1, 1, 1, 1, 1] j0 h42 n0 (Nat.le_trans Z0 P42.1) marks0.1 je0 jb0 jm0 jc0 V42_b23 V42_b29 ne_b23_b29 ge_b29) (lenOf pd4 rfl) at_164 rfl (Nat.le_of_ble_eq_true rfl) (Nat.le_of_ble_eq_true rfl) (Nat.le_of_ble_eq_true rfl) (Nat.le_of_ble_eq_true rfl) rfl (pc' := 167) rfl ?_
  rintro v43 h43 ⟨rfl, K43, Q43_VZ⟩
  have F43_keys_b35 := (Fld.keep Q42_F_keys K43 (ninS (Ne.symm ne_b29_b35) (nin0)))
  have F43_items_b35 := (Fld.keep Q42_F_items K43 (ninS (Ne.symm ne_b29_b35) (nin0)))
  have F43_size_b35 := (Fld.keep Q42_F_size K43 (ninS (Ne.symm ne_b29_b35) (nin0)))
  have X43_b35 := (Exa.keep Q42_E K43)
  have V43_b23 := (V42_b23.keep K43 (ninS ne_b23_b29 (nin0)))
  have V43_ks := (Q42_VK.keep K43 (ninS (Ne.symm ne_b29_ks) (nin0)))
  have V43_is := (Q42_VI.keep K43 (ninS (Ne.symm ne_b29_is) (nin0)))
  have P43 := (P42.trans K43 (allS (Or.inr lt_b29) (all0)))
  show Go _ _ _ _ _ _ _ _ _ _ _ h43 5 141 (mkF m 167 #[.val (.int p0), .val (.int p1), .val (.int p2), .val (.int p3), .val (.int p4), .val (.int p5), .val (.ref b23), .val (.ref b29), .val (.ref b35), .unset, .unset, .unset, .unset, .unset] [(.int (1 : Int32))]) _
  refine Jvm.OwnWp.istore K at_167 (Ls' := #[.val (.int p0), .val (.int p1), .val (.int p2), .val (.int p3), .val (.int p4), .val (.int p5), .val (.ref b23), .val (.ref b29), .val (.ref b35), .val (.int (1 : Int32)), .unset, .unset, .unset, .unset]) rfl (pc' := 169) rfl ?_
  refine Jvm.OwnWp.aload K at_169 rfl rfl (pc' := 171) rfl ?_
  obtain ⟨j1, jb1, je1, jm1, jc1, marks2, rinv2⟩ := inv_rem (m0 := 4636737291354636288) rinv1 (by decide) (by decide) hu42.1 hu42.2 marks1 rfl hxs (Jvm.OwnHeap.num_int own_k100) hxm
  refine callVirt K (y := (⟨"com/example/routeloom/routeloom/MinQueue", "removeMin", "()I"⟩ : MethodName)) (b := b35) (argsL := []) (S := []) (wd23 hw) (wd24 hw) (wd26 hw) (wd25 hw) (wd4 hw) (wd27 hw) (by decide) X43_b35 (c_rem l Z a0 hw [] b35 ks is 4 (((((((0 : Int32) + (1 : Int32)) + (1 : Int32)) + (1 : Int32)) + (1 : Int32)) + (1 : Int32)) - (1 : Int32)) U42.1 U42.2 h43 n0 (Nat.le_trans Z0 P43.1) (by decide) (by decide) (by decide) hu42.1 hu42.2 X43_b35 F43_keys_b35 F43_items_b35 F43_size_b35 V43_ks V43_is (Ne.symm ne_b35_ks) (Ne.symm ne_b35_is) ne_is_ks ge_b35 ge_ks ge_is) (lenOf pd3 rfl) at_171 rfl (Nat.le_of_ble_eq_true rfl) (Nat.le_of_ble_eq_true rfl) (Nat.le_of_ble_eq_true rfl) (Nat.le_of_ble_eq_true rfl) rfl (pc' := 174) rfl ?_
  rintro v44 h44 ⟨rfl, K44, Q44_E, Q44_F_keys, Q44_F_items, Q44_F_size, Q44_VK, Q44_VI⟩
  have X44_b35 := (Exa.keep X43_b35 K44)
  have V44_b23 := (V43_b23.keep K44 (ninS ne_b23_b35 (ninS ne_b23_ks (ninS ne_b23_is (nin0)))))
  have V44_b29 := (Q43_VZ.keep K44 (ninS ne_b29_b35 (ninS ne_b29_ks (ninS ne_b29_is (nin0)))))
  have P44 := (P43.trans K44 (allS (Or.inr lt_b35) (allS (Or.inr lt_ks) (allS (Or.inr lt_is) (all0)))))
  have hu44 := down_len (n := 4 - 1) (key := U42.1.getD (4 - 1) 0) (item := U42.2.getD (4 - 1) 0) _ 0 U42.1 U42.2 (Nat.le_refl _)
  rw [hu42.1, hu42.2] at hu44
  show Go _ _ _ _ _ _ _ _ _ _ _ h44 5 141 (mkF m 174 #[.val (.int p0), .val (.int p1), .val (.int p2), .val (.int p3), .val (.int p4), .val (.int p5), .val (.ref b23), .val (.ref b29), .val (.ref b35), .val (.int (1 : Int32)), .unset, .unset, .unset, .unset] [(.int (U42.2.getD 0 0))]) _
  generalize down (4 - 1) (U42.1.getD (4 - 1) 0) (U42.2.getD (4 - 1) 0) U42.1 U42.2 0 = U44 at hu44 Q44_VK Q44_VI rinv2
  refine Jvm.OwnWp.iload K at_174 rfl (pc' := 176) rfl ?_
  refine Jvm.OwnWp.aload K at_176 rfl rfl (pc' := 178) rfl ?_
  refine Jvm.OwnWp.aload K at_178 rfl rfl (pc' := 180) rfl ?_
  refine callStatic K (y := (⟨"com/example/routeloom/routeloom/MinQueueRemoveMinPinLaw", "step", "(II[D[Z)Z"⟩ : MethodName)) (argsL := [(.int (U42.2.getD 0 0)), (.int p5), (.ref b23), (.ref b29)]) (S := []) (wd28 hw) (wd29 hw) (wd30 hw) (wd31 hw) (by decide) (c_step l Z a0 hw [] (U42.2.getD 0 0) p5 b23 b29 X0 X1 X2 X3 X4 ([1, 1, 1, 1, 1].set j0 0) j1 h44 n0 (Nat.le_trans Z0 P44.1) marks1.1 je1 jb1 jm1 jc1 V44_b23 V44_b29 ne_b23_b29 ge_b29) (lenOf pd4 rfl) at_180 rfl (Nat.le_of_ble_eq_true rfl) (Nat.le_of_ble_eq_true rfl) (Nat.le_of_ble_eq_true rfl) (Nat.le_of_ble_eq_true rfl) rfl (pc' := 183) rfl ?_
  rintro v45 h45 ⟨rfl, K45, Q45_VZ⟩
  have F45_keys_b35 := (Fld.keep Q44_F_keys K45 (ninS (Ne.symm ne_b29_b35) (nin0)))
  have F45_items_b35 := (Fld.keep Q44_F_items K45 (ninS (Ne.symm ne_b29_b35) (nin0)))
  have F45_size_b35 := (Fld.keep Q44_F_size K45 (ninS (Ne.symm ne_b29_b35) (nin0)))
  have X45_b35 := (Exa.keep Q44_E K45)
  have V45_b23 := (V44_b23.keep K45 (ninS ne_b23_b29 (nin0)))
  have V45_ks := (Q44_VK.keep K45 (ninS (Ne.symm ne_b29_ks) (nin0)))
  have V45_is := (Q44_VI.keep K45 (ninS (Ne.symm ne_b29_is) (nin0)))
  have P45 := (P44.trans K45 (allS (Or.inr lt_b29) (all0)))
  show Go _ _ _ _ _ _ _ _ _ _ _ h45 5 141 (mkF m 183 #[.val (.int p0), .val (.int p1), .val (.int p2), .val (.int p3), .val (.int p4), .val (.int p5), .val (.ref b23), .val (.ref b29), .val (.ref b35), .val (.int (1 : Int32)), .unset, .unset, .unset, .unset] [(.int (1 : Int32))]) _
  refine Jvm.OwnWp.istore K at_183 (Ls' := #[.val (.int p0), .val (.int p1), .val (.int p2), .val (.int p3), .val (.int p4), .val (.int p5), .val (.ref b23), .val (.ref b29), .val (.ref b35), .val (.int (1 : Int32)), .val (.int (1 : Int32)), .unset, .unset, .unset]) rfl (pc' := 185) rfl ?_
  refine Jvm.OwnWp.aload K at_185 rfl rfl (pc' := 187) rfl ?_
  obtain ⟨j2, jb2, je2, jm2, jc2, marks3, rinv3⟩ := inv_rem (m0 := 4636737291354636288) rinv2 (by decide) (by decide) hu44.1 hu44.2 marks2 rfl hxs (Jvm.OwnHeap.num_int own_k100) hxm
  refine callVirt K (y := (⟨"com/example/routeloom/routeloom/MinQueue", "removeMin", "()I"⟩ : MethodName)) (b := b35) (argsL := []) (S := []) (wd23 hw) (wd24 hw) (wd26 hw) (wd25 hw) (wd4 hw) (wd27 hw) (by decide) X45_b35 (c_rem l Z a0 hw [] b35 ks is 3 ((((((((0 : Int32) + (1 : Int32)) + (1 : Int32)) + (1 : Int32)) + (1 : Int32)) + (1 : Int32)) - (1 : Int32)) - (1 : Int32)) U44.1 U44.2 h45 n0 (Nat.le_trans Z0 P45.1) (by decide) (by decide) (by decide) hu44.1 hu44.2 X45_b35 F45_keys_b35 F45_items_b35 F45_size_b35 V45_ks V45_is (Ne.symm ne_b35_ks) (Ne.symm ne_b35_is) ne_is_ks ge_b35 ge_ks ge_is) (lenOf pd3 rfl) at_187 rfl (Nat.le_of_ble_eq_true rfl) (Nat.le_of_ble_eq_true rfl) (Nat.le_of_ble_eq_true rfl) (Nat.le_of_ble_eq_true rfl) rfl (pc' := 190) rfl ?_
  rintro v46 h46 ⟨rfl, K46, Q46_E, Q46_F_keys, Q46_F_items, Q46_F_size, Q46_VK, Q46_VI⟩
  have X46_b35 := (Exa.keep X45_b35 K46)
  have V46_b23 := (V45_b23.keep K46 (ninS ne_b23_b35 (ninS ne_b23_ks (ninS ne_b23_is (nin0)))))
  have V46_b29 := (Q45_VZ.keep K46 (ninS ne_b29_b35 (ninS ne_b29_ks (ninS ne_b29_is (nin0)))))
  have P46 := (P45.trans K46 (allS (Or.inr lt_b35) (allS (Or.inr lt_ks) (allS (Or.inr lt_is) (all0)))))
  have hu46 := down_len (n := 3 - 1) (key := U44.1.getD (3 - 1) 0) (item := U44.2.getD (3 - 1) 0) _ 0 U44.1 U44.2 (Nat.le_refl _)
  rw [hu44.1, hu44.2] at hu46
  show Go _ _ _ _ _ _ _ _ _ _ _ h46 5 141 (mkF m 190 #[.val (.int p0), .val (.int p1), .val (.int p2), .val (.int p3), .val (.int p4), .val (.int p5), .val (.ref b23), .val (.ref b29), .val (.ref b35), .val (.int (1 : Int32)), .val (.int (1 : Int32)), .unset, .unset, .unset] [(.int (U44.2.getD 0 0))]) _
  generalize down (3 - 1) (U44.1.getD (3 - 1) 0) (U44.2.getD (3 - 1) 0) U44.1 U44.2 0 = U46 at hu46 Q46_VK Q46_VI rinv3
  refine Jvm.OwnWp.iload K at_190 rfl (pc' := 192) rfl ?_
  refine Jvm.OwnWp.aload K at_192 rfl rfl (pc' := 194) rfl ?_
  refine Jvm.OwnWp.aload K at_194 rfl rfl (pc' := 196) rfl ?_
  refine callStatic K (y := (⟨"com/example/routeloom/routeloom/MinQueueRemoveMinPinLaw", "step", "(II[D[Z)Z"⟩ : MethodName)) (argsL := [(.int (U44.2.getD 0 0)), (.int p5), (.ref b23), (.ref b29)]) (S := []) (wd28 hw) (wd29 hw) (wd30 hw) (wd31 hw) (by decide) (c_step l Z a0 hw [] (U44.2.getD 0 0) p5 b23 b29 X0 X1 X2 X3 X4 (([1, 1, 1, 1, 1].set j0 0).set j1 0) j2 h46 n0 (Nat.le_trans Z0 P46.1) marks2.1 je2 jb2 jm2 jc2 V46_b23 V46_b29 ne_b23_b29 ge_b29) (lenOf pd4 rfl) at_196 rfl (Nat.le_of_ble_eq_true rfl) (Nat.le_of_ble_eq_true rfl) (Nat.le_of_ble_eq_true rfl) (Nat.le_of_ble_eq_true rfl) rfl (pc' := 199) rfl ?_
  rintro v47 h47 ⟨rfl, K47, Q47_VZ⟩
  have F47_keys_b35 := (Fld.keep Q46_F_keys K47 (ninS (Ne.symm ne_b29_b35) (nin0)))
  have F47_items_b35 := (Fld.keep Q46_F_items K47 (ninS (Ne.symm ne_b29_b35) (nin0)))
  have F47_size_b35 := (Fld.keep Q46_F_size K47 (ninS (Ne.symm ne_b29_b35) (nin0)))
  have X47_b35 := (Exa.keep Q46_E K47)
  have V47_b23 := (V46_b23.keep K47 (ninS ne_b23_b29 (nin0)))
  have V47_ks := (Q46_VK.keep K47 (ninS (Ne.symm ne_b29_ks) (nin0)))
  have V47_is := (Q46_VI.keep K47 (ninS (Ne.symm ne_b29_is) (nin0)))
  have P47 := (P46.trans K47 (allS (Or.inr lt_b29) (all0)))
  show Go _ _ _ _ _ _ _ _ _ _ _ h47 5 141 (mkF m 199 #[.val (.int p0), .val (.int p1), .val (.int p2), .val (.int p3), .val (.int p4), .val (.int p5), .val (.ref b23), .val (.ref b29), .val (.ref b35), .val (.int (1 : Int32)), .val (.int (1 : Int32)), .unset, .unset, .unset] [(.int (1 : Int32))]) _
  refine Jvm.OwnWp.istore K at_199 (Ls' := #[.val (.int p0), .val (.int p1), .val (.int p2), .val (.int p3), .val (.int p4), .val (.int p5), .val (.ref b23), .val (.ref b29), .val (.ref b35), .val (.int (1 : Int32)), .val (.int (1 : Int32)), .val (.int (1 : Int32)), .unset, .unset]) rfl (pc' := 201) rfl ?_
  refine Jvm.OwnWp.aload K at_201 rfl rfl (pc' := 203) rfl ?_
  obtain ⟨j3, jb3, je3, jm3, jc3, marks4, rinv4⟩ := inv_rem (m0 := 4636737291354636288) rinv3 (by decide) (by decide) hu46.1 hu46.2 marks3 rfl hxs (Jvm.OwnHeap.num_int own_k100) hxm
  refine callVirt K (y := (⟨"com/example/routeloom/routeloom/MinQueue", "removeMin", "()I"⟩ : MethodName)) (b := b35) (argsL := []) (S := []) (wd23 hw) (wd24 hw) (wd26 hw) (wd25 hw) (wd4 hw) (wd27 hw) (by decide) X47_b35 (c_rem l Z a0 hw [] b35 ks is 2 (((((((((0 : Int32) + (1 : Int32)) + (1 : Int32)) + (1 : Int32)) + (1 : Int32)) + (1 : Int32)) - (1 : Int32)) - (1 : Int32)) - (1 : Int32)) U46.1 U46.2 h47 n0 (Nat.le_trans Z0 P47.1) (by decide) (by decide) (by decide) hu46.1 hu46.2 X47_b35 F47_keys_b35 F47_items_b35 F47_size_b35 V47_ks V47_is (Ne.symm ne_b35_ks) (Ne.symm ne_b35_is) ne_is_ks ge_b35 ge_ks ge_is) (lenOf pd3 rfl) at_203 rfl (Nat.le_of_ble_eq_true rfl) (Nat.le_of_ble_eq_true rfl) (Nat.le_of_ble_eq_true rfl) (Nat.le_of_ble_eq_true rfl) rfl (pc' := 206) rfl ?_
  rintro v48 h48 ⟨rfl, K48, Q48_E, Q48_F_keys, Q48_F_items, Q48_F_size, Q48_VK, Q48_VI⟩
  have X48_b35 := (Exa.keep X47_b35 K48)
  have V48_b23 := (V47_b23.keep K48 (ninS ne_b23_b35 (ninS ne_b23_ks (ninS ne_b23_is (nin0)))))
  have V48_b29 := (Q47_VZ.keep K48 (ninS ne_b29_b35 (ninS ne_b29_ks (ninS ne_b29_is (nin0)))))
  have P48 := (P47.trans K48 (allS (Or.inr lt_b35) (allS (Or.inr lt_ks) (allS (Or.inr lt_is) (all0)))))
  have hu48 := down_len (n := 2 - 1) (key := U46.1.getD (2 - 1) 0) (item := U46.2.getD (2 - 1) 0) _ 0 U46.1 U46.2 (Nat.le_refl _)
  rw [hu46.1, hu46.2] at hu48
  show Go _ _ _ _ _ _ _ _ _ _ _ h48 5 141 (mkF m 206 #[.val (.int p0), .val (.int p1), .val (.int p2), .val (.int p3), .val (.int p4), .val (.int p5), .val (.ref b23), .val (.ref b29), .val (.ref b35), .val (.int (1 : Int32)), .val (.int (1 : Int32)), .val (.int (1 : Int32)), .unset, .unset] [(.int (U46.2.getD 0 0))]) _
  generalize down (2 - 1) (U46.1.getD (2 - 1) 0) (U46.2.getD (2 - 1) 0) U46.1 U46.2 0 = U48 at hu48 Q48_VK Q48_VI rinv4
  refine Jvm.OwnWp.iload K at_206 rfl (pc' := 208) rfl ?_
  refine Jvm.OwnWp.aload K at_208 rfl rfl (pc' := 210) rfl ?_
  refine Jvm.OwnWp.aload K at_210 rfl rfl (pc' := 212) rfl ?_
  refine callStatic K (y := (⟨"com/example/routeloom/routeloom/MinQueueRemoveMinPinLaw", "step", "(II[D[Z)Z"⟩ : MethodName)) (argsL := [(.int (U46.2.getD 0 0)), (.int p5), (.ref b23), (.ref b29)]) (S := []) (wd28 hw) (wd29 hw) (wd30 hw) (wd31 hw) (by decide) (c_step l Z a0 hw [] (U46.2.getD 0 0) p5 b23 b29 X0 X1 X2 X3 X4 ((([1, 1, 1, 1, 1].set j0 0).set j1 0).set j2 0) j3 h48 n0 (Nat.le_trans Z0 P48.1) marks3.1 je3 jb3 jm3 jc3 V48_b23 V48_b29 ne_b23_b29 ge_b29) (lenOf pd4 rfl) at_212 rfl (Nat.le_of_ble_eq_true rfl) (Nat.le_of_ble_eq_true rfl) (Nat.le_of_ble_eq_true rfl) (Nat.le_of_ble_eq_true rfl) rfl (pc' := 215) rfl ?_
  rintro v49 h49 ⟨rfl, K49, Q49_VZ⟩
  have F49_keys_b35 := (Fld.keep Q48_F_keys K49 (ninS (Ne.symm ne_b29_b35) (nin0)))
  have F49_items_b35 := (Fld.keep Q48_F_items K49 (ninS (Ne.symm ne_b29_b35) (nin0)))
  have F49_size_b35 := (Fld.keep Q48_F_size K49 (ninS (Ne.symm ne_b29_b35) (nin0)))
  have X49_b35 := (Exa.keep Q48_E K49)
  have V49_b23 := (V48_b23.keep K49 (ninS ne_b23_b29 (nin0)))
  have V49_ks := (Q48_VK.keep K49 (ninS (Ne.symm ne_b29_ks) (nin0)))
  have V49_is := (Q48_VI.keep K49 (ninS (Ne.symm ne_b29_is) (nin0)))
  have P49 := (P48.trans K49 (allS (Or.inr lt_b29) (all0)))
  show Go _ _ _ _ _ _ _ _ _ _ _ h49 5 141 (mkF m 215 #[.val (.int p0), .val (.int p1), .val (.int p2), .val (.int p3), .val (.int p4), .val (.int p5), .val (.ref b23), .val (.ref b29), .val (.ref b35), .val (.int (1 : Int32)), .val (.int (1 : Int32)), .val (.int (1 : Int32)), .unset, .unset] [(.int (1 : Int32))]) _
  refine Jvm.OwnWp.istore K at_215 (Ls' := #[.val (.int p0), .val (.int p1), .val (.int p2), .val (.int p3), .val (.int p4), .val (.int p5), .val (.ref b23), .val (.ref b29), .val (.ref b35), .val (.int (1 : Int32)), .val (.int (1 : Int32)), .val (.int (1 : Int32)), .val (.int (1 : Int32)), .unset]) rfl (pc' := 217) rfl ?_
  refine Jvm.OwnWp.aload K at_217 rfl rfl (pc' := 219) rfl ?_
  obtain ⟨j4, jb4, je4, jm4, jc4, marks5, rinv5⟩ := inv_rem (m0 := 4636737291354636288) rinv4 (by decide) (by decide) hu48.1 hu48.2 marks4 rfl hxs (Jvm.OwnHeap.num_int own_k100) hxm
  refine callVirt K (y := (⟨"com/example/routeloom/routeloom/MinQueue", "removeMin", "()I"⟩ : MethodName)) (b := b35) (argsL := []) (S := []) (wd23 hw) (wd24 hw) (wd26 hw) (wd25 hw) (wd4 hw) (wd27 hw) (by decide) X49_b35 (c_rem l Z a0 hw [] b35 ks is 1 ((((((((((0 : Int32) + (1 : Int32)) + (1 : Int32)) + (1 : Int32)) + (1 : Int32)) + (1 : Int32)) - (1 : Int32)) - (1 : Int32)) - (1 : Int32)) - (1 : Int32)) U48.1 U48.2 h49 n0 (Nat.le_trans Z0 P49.1) (by decide) (by decide) (by decide) hu48.1 hu48.2 X49_b35 F49_keys_b35 F49_items_b35 F49_size_b35 V49_ks V49_is (Ne.symm ne_b35_ks) (Ne.symm ne_b35_is) ne_is_ks ge_b35 ge_ks ge_is) (lenOf pd3 rfl) at_219 rfl (Nat.le_of_ble_eq_true rfl) (Nat.le_of_ble_eq_true rfl) (Nat.le_of_ble_eq_true rfl) (Nat.le_of_ble_eq_true rfl) rfl (pc' := 222) rfl ?_
  rintro v50 h50 ⟨rfl, K50, Q50_E, Q50_F_keys, Q50_F_items, Q50_F_size, Q50_VK, Q50_VI⟩
  have X50_b35 := (Exa.keep X49_b35 K50)
  have V50_b23 := (V49_b23.keep K50 (ninS ne_b23_b35 (ninS ne_b23_ks (ninS ne_b23_is (nin0)))))
  have V50_b29 := (Q49_VZ.keep K50 (ninS ne_b29_b35 (ninS ne_b29_ks (ninS ne_b29_is (nin0)))))
  have P50 := (P49.trans K50 (allS (Or.inr lt_b35) (allS (Or.inr lt_ks) (allS (Or.inr lt_is) (all0)))))
  have hu50 := down_len (n := 1 - 1) (key := U48.1.getD (1 - 1) 0) (item := U48.2.getD (1 - 1) 0) _ 0 U48.1 U48.2 (Nat.le_refl _)
  rw [hu48.1, hu48.2] at hu50
  show Go _ _ _ _ _ _ _ _ _ _ _ h50 5 141 (mkF m 222 #[.val (.int p0), .val (.int p1), .val (.int p2), .val (.int p3), .val (.int p4), .val (.int p5), .val (.ref b23), .val (.ref b29), .val (.ref b35), .val (.int (1 : Int32)), .val (.int (1 : Int32)), .val (.int (1 : Int32)), .val (.int (1 : Int32)), .unset] [(.int (U48.2.getD 0 0))]) _
  generalize down (1 - 1) (U48.1.getD (1 - 1) 0) (U48.2.getD (1 - 1) 0) U48.1 U48.2 0 = U50 at hu50 Q50_VK Q50_VI rinv5
  refine Jvm.OwnWp.iload K at_222 rfl (pc' := 224) rfl ?_
  refine Jvm.OwnWp.aload K at_224 rfl rfl (pc' := 226) rfl ?_
  refine Jvm.OwnWp.aload K at_226 rfl rfl (pc' := 228) rfl ?_
  refine callStatic K (y := (⟨"com/example/routeloom/routeloom/MinQueueRemoveMinPinLaw", "step", "(II[D[Z)Z"⟩ : MethodName)) (argsL := [(.int (U48.2.getD 0 0)), (.int p5), (.ref b23), (.ref b29)]) (S := []) (wd28 hw) (wd29 hw) (wd30 hw) (wd31 hw) (by decide) (c_step l Z a0 hw [] (U48.2.getD 0 0) p5 b23 b29 X0 X1 X2 X3 X4 (((([1, 1, 1, 1, 1].set j0 0).set j1 0).set j2 0).set j3 0) j4 h50 n0 (Nat.le_trans Z0 P50.1) marks4.1 je4 jb4 jm4 jc4 V50_b23 V50_b29 ne_b23_b29 ge_b29) (lenOf pd4 rfl) at_228 rfl (Nat.le_of_ble_eq_true rfl) (Nat.le_of_ble_eq_true rfl) (Nat.le_of_ble_eq_true rfl) (Nat.le_of_ble_eq_true rfl) rfl (pc' := 231) rfl ?_
  rintro v51 h51 ⟨rfl, K51, Q51_VZ⟩
  have F51_keys_b35 := (Fld.keep Q50_F_keys K51 (ninS (Ne.symm ne_b29_b35) (nin0)))
  have F51_items_b35 := (Fld.keep Q50_F_items K51 (ninS (Ne.symm ne_b29_b35) (nin0)))
  have F51_size_b35 := (Fld.keep Q50_F_size K51 (ninS (Ne.symm ne_b29_b35) (nin0)))
  have X51_b35 := (Exa.keep Q50_E K51)
  have V51_b23 := (V50_b23.keep K51 (ninS ne_b23_b29 (nin0)))
  have V51_ks := (Q50_VK.keep K51 (ninS (Ne.symm ne_b29_ks) (nin0)))
  have V51_is := (Q50_VI.keep K51 (ninS (Ne.symm ne_b29_is) (nin0)))
  have P51 := (P50.trans K51 (allS (Or.inr lt_b29) (all0)))
  show Go _ _ _ _ _ _ _ _ _ _ _ h51 5 141 (mkF m 231 #[.val (.int p0), .val (.int p1), .val (.int p2), .val (.int p3), .val (.int p4), .val (.int p5), .val (.ref b23), .val (.ref b29), .val (.ref b35), .val (.int (1 : Int32)), .val (.int (1 : Int32)), .val (.int (1 : Int32)), .val (.int (1 : Int32)), .unset] [(.int (1 : Int32))]) _
  refine Jvm.OwnWp.istore K at_231 (Ls' := #[.val (.int p0), .val (.int p1), .val (.int p2), .val (.int p3), .val (.int p4), .val (.int p5), .val (.ref b23), .val (.ref b29), .val (.ref b35), .val (.int (1 : Int32)), .val (.int (1 : Int32)), .val (.int (1 : Int32)), .val (.int (1 : Int32)), .val (.int (1 : Int32))]) rfl (pc' := 233) rfl ?_
  refine Jvm.OwnWp.iload K at_233 rfl (pc' := 235) rfl ?_
  refine ifN K at_235 (by decide) (pc' := 238) rfl ?_
  refine Jvm.OwnWp.iload K at_238 rfl (pc' := 240) rfl ?_
  refine ifN K at_240 (by decide) (pc' := 243) rfl ?_
  refine Jvm.OwnWp.iload K at_243 rfl (pc' := 245) rfl ?_
  refine ifN K at_245 (by decide) (pc' := 248) rfl ?_
  refine Jvm.OwnWp.iload K at_248 rfl (pc' := 250) rfl ?_
  refine ifN K at_250 (by decide) (pc' := 253) rfl ?_
  refine Jvm.OwnWp.iload K at_253 rfl (pc' := 255) rfl ?_
  refine ifN K at_255 (by decide) (pc' := 258) rfl ?_
  refine Jvm.OwnWp.iconst K (1 : Int32) at_258 (by decide) (pc' := 259) rfl ?_
  refine goto' K at_259 (pc' := 263) (by decide) (by decide) ?_
  refine retB K (t := .boolean) rfl (by simp) at_263 (Nat.le_of_ble_eq_true rfl) (Nat.le_of_ble_eq_true rfl) ?_
  rfl
set_option maxRecDepth 65536 in
set_option maxHeartbeats 40000000 in
theorem comes_1 {Post : Tables → Env → Array Value → State → Outcome → State → Prop} (hpost : ∀ tb e args s v u, (limb_1_1.after args s (.returned v) u = true ∧ limb_1_2.after args s (.returned v) u = true ∧ True) → FrameEnd s (.returned v) u (Jvm.fieldLocs frame_1_writes args s ++ Jvm.arrayLocs frame_1_arrays args s ++ Jvm.staticLocs frame_1_statics s) 24 384 → Post tb e args s (.returned v) u) :
    ArmFor flags0 classFile x code maxLocals ret World_1 tables_1 room_1 Calls_1 rest_1 Pre_1 Post := by
  intro l hfl _ _ p e ha hc hk s m args below hf hA hF happ hP
  obtain ⟨hcalls, hrest, hpre⟩ := hP
  obtain ⟨-, -, -, hnamed, -, -, -, hat⟩ := (Spec.applies_iff hf).mp happ
  obtain ⟨hg, hn⟩ := and_e (Cond.before_iff.mp (show (Jvm.Cond.and given_1 narrow_1).before args s = true from hpre))
  obtain ⟨q0, r0⟩ := and_e hg
  obtain ⟨q1, r1⟩ := and_e r0
  obtain ⟨q2, r2⟩ := and_e r1
  obtain ⟨q3, r3⟩ := and_e r2
  obtain ⟨q4, r4⟩ := and_e r3
  obtain ⟨q5, r5⟩ := and_e r4
  have q6 := r5
  obtain ⟨w0, w1, w2, w3, w4, w5, rfl⟩ : ∃ w0 w1 w2 w3 w4 w5 : Value, args = #[w0, w1, w2, w3, w4, w5] := by
    have hs : args.size = 6 := by simpa [Cond.value, given_1] using q0
    obtain ⟨L⟩ := args
    match L, hs with
    | [w0, w1, w2, w3, w4, w5], _ => exact ⟨w0, w1, w2, w3, w4, w5, rfl⟩
  have hw := fun d (hd : d ∈ tables_1) => atoms_spec (ws := Jvm.Cond.code x code maxLocals ret :: tables_1) hat d (List.mem_cons_of_mem _ hd)
  have hfit : Fit s := fun {y c} hc i hi => by
    obtain ⟨ha, rfl⟩ := Array.getElem?_eq_some_iff.mp hc
    have q := List.all_eq_true.mp ((Array.all_eq_true_iff_forall_mem.mp hF) _ (Array.getElem_mem ha)) i (List.mem_range.mpr hi)
    simpa [Array.getElem?_eq_getElem hi] using q
  obtain ⟨i0, e0⟩ := is_v q1
  obtain rfl : w0 = (.int i0) := Option.some.inj e0
  obtain ⟨i1, e1⟩ := is_v q2
  obtain rfl : w1 = (.int i1) := Option.some.inj e1
  obtain ⟨i2, e2⟩ := is_v q3
  obtain rfl : w2 = (.int i2) := Option.some.inj e2
  obtain ⟨i3, e3⟩ := is_v q4
  obtain rfl : w3 = (.int i3) := Option.some.inj e3
  obtain ⟨i4, e4⟩ := is_v q5
  obtain rfl : w4 = (.int i4) := Option.some.inj e4
  obtain ⟨i5, e5⟩ := is_v q6
  obtain rfl : w5 = (.int i5) := Option.some.inj e5
  obtain ⟨n, o, h1, h2, h3, _, L, rfl, ⟨rfl, N⟩, hq⟩ := c_law l s _ hw tables_1 i0 i1 i2 i3 i4 i5 s.heap s.heap.size (Nat.le_refl _)  p e ha hc hk s m _ below hf ((Spec.applies_iff_loose hf).mp happ).1 ⟨rfl, State.Warmed39.refl s, rfl⟩ trivial
  refine ⟨n, _, h1, h2, h3, hpost _ _ _ _ _ _ ⟨Cond.after_iff.mpr rfl, Cond.after_iff.mpr (eq_i res_at (Term.int_eval (1)) rfl), trivial⟩ ⟨hq.1, hq.2.1, (hq.2.2.sift fun y hy => Or.inr (N y hy)).mono (by decide) (by decide)⟩⟩
theorem main_1_1 : Claimed_1_1 := comes_1 fun _ _ _ _ _ _ h hF => ⟨h.1, hF⟩
theorem main_1_2 : Claimed_1_2 := comes_1 fun _ _ _ _ _ _ h hF => ⟨h.2.1, hF⟩
end Jvm.Pilot.@@N@@
namespace Jvm.Pilot.@@N@@
open Jvm Jvm.ClassFile Sem Op Lib Jvm.Free Jvm.Stand Jvm.Pilot.@@N@@.Jvm.D
/-! MADE BY PROGRAM (witnessworld.py) out of the Statement's table words and the real class files: 13 classes; the members and pool entries that the words name. The judged class is class 1, her method 3. -/
namespace start1
open Jvm.ClassFile
def u (s : String) : CpInfo := .utf8 (stringToUtf16 s)
/-- a pool by its gaps: so many unusable entries, then the entry; so many at the end -/
def gap : Nat → List CpInfo → List CpInfo
  | 0, r => r
  | n + 1, r => .unusable :: gap n r
def poolList (es : List (Nat × CpInfo)) (last : Nat) : List CpInfo := es.foldr (fun e r => gap e.1 (e.2 :: r)) (gap last [])
def pool (es : List (Nat × CpInfo)) (last : Nat) : Array CpInfo := ⟨poolList es last⟩
def fileOf (pool : Array CpInfo) (this : Nat) (attrs : Array Attribute := #[]) (ms : Array MethodInfo := #[]) (fl : Nat := 33) (sup : Nat := 0) (ifs : Array Nat := #[]) (fds : Array FieldInfo := #[]) : ClassFile where
  minorVersion := 0
  majorVersion := 65
  constantPool := pool
  accessFlags := fl
  thisClass := this
  superClass := sup
  interfaces := ifs
  fields := fds
  methods := ms
  attributes := attrs
def plain (name : String) (sup : Option ClassId) : Class where
  name := name
  kind := .ordinary
  loader := none
  accessFlags := 33
  super := sup
  interfaces := #[]
  cf := none
  fields := #[]
  methods := #[]
  instanceTypes := #[]
  staticTypes := #[]
  resolved := #[]
  callSites := []
  init := .initialized
  statics := none
  mirror := none

def pool0 : Array CpInfo := pool [(5, u "<init>"), (0, u "()V"), (1, .class_ 10), (1, u "java/lang/Object")] 113

def k0c0 : Code := { maxStack := 0, maxLocals := 1, code := object_method_1_code, exceptionTable := #[], attributes := #[] }
def k0m0 : Method := { name := "<init>", desc := "()V", sig := { parameters := [], returnType := none }, accessFlags := 1, code := some k0c0 }
/-- java/lang/Object -/
def k0 : Class := { plain "java/lang/Object" none with
  accessFlags := 33
  interfaces := #[]
  cf := some (fileOf pool0 8 #[] #[{ accessFlags := 1, nameIndex := 5, descriptorIndex := 6, attributes := #[] }] 33 0 #[] #[])
  fields := #[]
  methods := #[k0m0]
  instanceTypes := #[]
  staticTypes := #[]
  resolved := Array.replicate 124 none
  statics := none }

def pool1 : Array CpInfo := pool [(2, .class_ 4), (0, .nameAndType 5 6), (0, u "java/lang/Object"), (0, u "<init>"), (0, u "()V"), (0, .double 4636737291354636288), (1, .methodref 10 11), (0, .class_ 12), (0, .nameAndType 13 14), (0, u "com/example/routeloom/routeloom/MinQueueRemoveMinPinLaw"), (0, u "minPresent"), (0, u "([D[Z)D"), (0, .class_ 16), (0, u "com/example/routeloom/routeloom/MinQueue"), (0, .methodref 15 3), (0, .methodref 15 19), (0, .nameAndType 20 21), (0, u "add"), (0, u "(ID)V"), (0, .methodref 15 23), (0, .nameAndType 24 25), (0, u "removeMin"), (0, u "()I"), (0, .methodref 10 27), (0, .nameAndType 28 29), (0, u "step"), (0, u "(II[D[Z)Z"), (3, u "law"), (0, u "(IIIIII)Z")] 6

def k1m0 : Method := { name := "<init>", desc := "()V", sig := { parameters := [], returnType := none }, accessFlags := 1, code := none }
def k1c1 : Code := { maxStack := 4, maxLocals := 4, code := method_2_code, exceptionTable := #[], attributes := #[] }
def k1m1 : Method := { name := "minPresent", desc := "([D[Z)D", sig := { parameters := [(.array .double), (.array .boolean)], returnType := some .double }, accessFlags := 10, code := some k1c1 }
def k1c2 : Code := { maxStack := 4, maxLocals := 7, code := method_3_code, exceptionTable := #[], attributes := #[] }
def k1m2 : Method := { name := "step", desc := "(II[D[Z)Z", sig := { parameters := [.int, .int, (.array .double), (.array .boolean)], returnType := some .boolean }, accessFlags := 10, code := some k1c2 }
def k1c3 : Code := { maxStack := 4, maxLocals := 14, code := code, exceptionTable := #[], attributes := #[] }
def k1m3 : Method := { name := "law", desc := "(IIIIII)Z", sig := { parameters := [.int, .int, .int, .int, .int, .int], returnType := some .boolean }, accessFlags := 9, code := some k1c3 }
/-- com/example/routeloom/routeloom/MinQueueRemoveMinPinLaw -/
def k1 : Class := { plain "com/example/routeloom/routeloom/MinQueueRemoveMinPinLaw" (some 0) with
  accessFlags := 49
  interfaces := #[]
  cf := some (fileOf pool1 10 #[] #[{ accessFlags := 1, nameIndex := 5, descriptorIndex := 6, attributes := #[] }, { accessFlags := 10, nameIndex := 13, descriptorIndex := 14, attributes := #[] }, { accessFlags := 10, nameIndex := 28, descriptorIndex := 29, attributes := #[] }, { accessFlags := 9, nameIndex := 33, descriptorIndex := 34, attributes := #[] }] 49 2 #[] #[])
  fields := #[]
  methods := #[k1m0, k1m1, k1m2, k1m3]
  instanceTypes := #[]
  staticTypes := #[]
  resolved := Array.replicate 41 none
  statics := none }

def pool2 : Array CpInfo := pool [(1, .methodref 2 3), (0, .class_ 4), (0, .nameAndType 5 6), (0, u "java/lang/Object"), (0, u "<init>"), (0, u "()V"), (0, .fieldref 8 9), (0, .class_ 10), (0, .nameAndType 11 12), (0, u "com/example/routeloom/routeloom/MinQueue"), (0, u "keys"), (0, u "[D"), (0, .fieldref 8 14), (0, .nameAndType 15 16), (0, u "items"), (0, u "[I"), (0, .fieldref 8 18), (0, .nameAndType 19 20), (0, u "size"), (0, u "I"), (14, u "add"), (0, u "(ID)V"), (0, u "removeMin"), (0, u "()I")] 2

def k2c0 : Code := { maxStack := 2, maxLocals := 1, code := prog_13_method_1_code, exceptionTable := #[], attributes := #[] }
def k2m0 : Method := { name := "<init>", desc := "()V", sig := { parameters := [], returnType := none }, accessFlags := 0, code := some k2c0 }
def k2c1 : Code := { maxStack := 4, maxLocals := 6, code := prog_13_method_3_code, exceptionTable := #[], attributes := #[] }
def k2m1 : Method := { name := "add", desc := "(ID)V", sig := { parameters := [.int, .double], returnType := none }, accessFlags := 0, code := some k2c1 }
def k2c2 : Code := { maxStack := 4, maxLocals := 7, code := prog_13_method_4_code, exceptionTable := #[], attributes := #[] }
def k2m2 : Method := { name := "removeMin", desc := "()I", sig := { parameters := [], returnType := some .int }, accessFlags := 0, code := some k2c2 }
/-- com/example/routeloom/routeloom/MinQueue -/
def k2 : Class := { plain "com/example/routeloom/routeloom/MinQueue" (some 0) with
  accessFlags := 48
  interfaces := #[]
  cf := some (fileOf pool2 8 #[] #[{ accessFlags := 0, nameIndex := 5, descriptorIndex := 6, attributes := #[] }, { accessFlags := 0, nameIndex := 35, descriptorIndex := 36, attributes := #[] }, { accessFlags := 0, nameIndex := 37, descriptorIndex := 38, attributes := #[] }] 48 2 #[] #[{ accessFlags := 2, nameIndex := 11, descriptorIndex := 12, attributes := #[] }, { accessFlags := 2, nameIndex := 15, descriptorIndex := 16, attributes := #[] }, { accessFlags := 2, nameIndex := 19, descriptorIndex := 20, attributes := #[] }])
  fields := #[{ name := "keys", type := (.array .double), accessFlags := 2, slot := 0, constantValue := 0 }, { name := "items", type := (.array .int), accessFlags := 2, slot := 1, constantValue := 0 }, { name := "size", type := .int, accessFlags := 2, slot := 2, constantValue := 0 }]
  methods := #[k2m0, k2m1, k2m2]
  instanceTypes := #[(.array .double), (.array .int), .int]
  staticTypes := #[]
  resolved := Array.replicate 41 none
  statics := none }

def pool3 : Array CpInfo := pool [(1, u "java/lang/Cloneable"), (0, .class_ 1), (0, u "java/lang/Object"), (0, .class_ 3)] 3

/-- java/lang/Cloneable -/
def k3 : Class := { plain "java/lang/Cloneable" (some 0) with
  accessFlags := 1537
  interfaces := #[]
  cf := some (fileOf pool3 2 #[] #[] 1537 4 #[] #[])
  fields := #[]
  methods := #[]
  instanceTypes := #[]
  staticTypes := #[]
  resolved := Array.replicate 8 none
  statics := none }

def pool4 : Array CpInfo := pool [(1, u "java/io/Serializable"), (0, .class_ 1), (0, u "java/lang/Object"), (0, .class_ 3)] 3

/-- java/io/Serializable -/
def k4 : Class := { plain "java/io/Serializable" (some 0) with
  accessFlags := 1537
  interfaces := #[]
  cf := some (fileOf pool4 2 #[] #[] 1537 4 #[] #[])
  fields := #[]
  methods := #[]
  instanceTypes := #[]
  staticTypes := #[]
  resolved := Array.replicate 8 none
  statics := none }

/-- the primitive boolean -/
def k5 : Class := { plain "boolean" none with kind := .primitive 'Z', accessFlags := 0x411 }
/-- [Z -/
def k6 : Class := { plain "[Z" (some 0) with kind := .array 5 .boolean, interfaces := #[3, 4], accessFlags := 1041 }

/-- the primitive byte -/
def k7 : Class := { plain "byte" none with kind := .primitive 'B', accessFlags := 0x411 }
/-- [B -/
def k8 : Class := { plain "[B" (some 0) with kind := .array 7 .byte, interfaces := #[3, 4], accessFlags := 1041 }

/-- the primitive double -/
def k9 : Class := { plain "double" none with kind := .primitive 'D', accessFlags := 0x411 }
/-- [D -/
def k10 : Class := { plain "[D" (some 0) with kind := .array 9 .double, interfaces := #[3, 4], accessFlags := 1041 }

/-- the primitive int -/
def k11 : Class := { plain "int" none with kind := .primitive 'I', accessFlags := 0x411 }
/-- [I -/
def k12 : Class := { plain "[I" (some 0) with kind := .array 11 .int, interfaces := #[3, 4], accessFlags := 1041 }

def heap : Heap := #[]
def classes : Array Class := #[k0, k1, k2, k3, k4, k5, k6, k7, k8, k9, k10, k11, k12]
def interned : List (Array UInt16 × Addr) := []
def slotsUsed : Nat := 0
def theMethod : MethodId := ⟨1, 3⟩
def args0 : Array Value := #[.int 5, .int 5, .int 5, .int 5, .int 5, .int 5]
def aboutOver (below : List Frame) : State where
  vm := { classes := classes, interned := interned.toArray }
  heap := heap
  slotsUsed := slotsUsed
  threads := #[{ frames := .invoking theMethod args0 :: below }]
def below0 : List Frame := [.native { method := ⟨0, 0⟩, args := #[] }]
def about1 : State := aboutOver below0
def p0 : Program := .bare "" "" ""
def e0 : Env := launch0.env 0 0 0
theorem w_frames : about1.frames = Frame.invoking theMethod args0 :: below0 := rfl
set_option maxRecDepth 65536 in
theorem w_args : argsFit about1.vm theMethod args0 = true := by decide +kernel
set_option maxRecDepth 65536 in
theorem w_heap : heapFits about1 = true := by decide +kernel
set_option maxRecDepth 65536 in
theorem w_runnable : about1.curStatus? = some .runnable := by decide +kernel
set_option maxRecDepth 65536 in
theorem w_alone : about1.alone = true := by decide +kernel
set_option maxRecDepth 65536 in
theorem w_named : about1.methodNamed? x = some theMethod := by decide +kernel
set_option maxRecDepth 65536 in
theorem w_hears : about1.hears theMethod below0 = true := by decide +kernel
set_option maxRecDepth 65536 in
theorem w_ripe : about1.ripe theMethod args0 below0 = true := by decide +kernel
theorem w_running : about1.status = .running := rfl
set_option maxRecDepth 65536 in
theorem w_room : about1.hasRoom e0.platform room_1 = true :=
  launch0.hasRoom_least _ room_1 (by decide +kernel) (by decide +kernel) (by decide +kernel) (by decide +kernel) (by decide +kernel) (by decide +kernel)
theorem allAtoms_all (ts : List Jvm.Cond) (a : Array Jvm.Value) (st : Jvm.State) : (allAtoms ts).before a st = ts.all (fun c => c.before a st) := by
  induction ts with
  | nil => rfl
  | cons c t ih =>
    show (Jvm.Cond.and c (allAtoms t)).before a st = _
    rw [Jvm.Cond.before_and, ih, List.all_cons]
def words1 : List Jvm.Cond := Jvm.Cond.code x code maxLocals ret :: tables_1
/-- a 'code' word, met by the world's own term for the bytes: nothing is compared byte by byte -/
theorem code_word {y : MethodName} {bytes : ByteArray} {mx : Nat} {rt : Option FieldType} {a : Array Value} {s : State} {m : MethodId} {meth : Method} {c : Code} (h1 : s.methodNamed? y = some m) (h2 : s.vm.method? m = some meth) (h3 : meth.code = some c) (h4 : c.code = bytes)
    (h5 : (c.maxLocals == mx && c.exceptionTable.isEmpty && decide (c.maxStack ≤ mostOperands) && decide (meth.sig.returnType = rt) && !meth.locks && decide (parseMethodDescriptor y.desc = some meth.sig)) = true) : (Jvm.Cond.code y bytes mx rt).before a s = true := by
  simp only [Bool.and_eq_true, beq_iff_eq, Bool.not_eq_true', decide_eq_true_eq] at h5
  obtain ⟨⟨⟨⟨⟨g1, g2⟩, g3⟩, g4⟩, g5⟩, g6⟩ := h5
  simp [Cond.before, Cond.holds, Cond.value, h1, h2, h3, h4, g1, g2, g3, g4, g5, g6]
def isCode : Jvm.Cond → Bool
  | .code _ _ _ _ => true
  | _ => false
theorem all_split {L : List Jvm.Cond} {P : Jvm.Cond → Bool} (h1 : L.all (fun c => isCode c || P c) = true) (h2 : ∀ c ∈ L.filter isCode, P c = true) : L.all P = true := by
  refine List.all_eq_true.mpr fun c hc => ?_
  have h := List.all_eq_true.mp h1 c hc
  rcases Bool.eq_false_or_eq_true (isCode c) with hi | hi
  · exact h2 c (List.mem_filter.mpr ⟨hc, hi⟩)
  · simpa [hi] using h
set_option maxRecDepth 65536 in
theorem w_c0 : (Jvm.Cond.code x code maxLocals ret).before args0 about1 = true := code_word (m := ⟨1, 3⟩) (meth := k1m3) (c := k1c3) (by decide +kernel) rfl rfl rfl (by decide +kernel)
set_option maxRecDepth 65536 in
theorem w_c1 : (Jvm.Cond.code ({ cls := "com/example/routeloom/routeloom/MinQueue", name := "<init>", desc := "()V" } : Jvm.MethodName) prog_13_method_1_code (1 : Nat) (Option.none : Option Jvm.ClassFile.FieldType)).before args0 about1 = true := code_word (m := ⟨2, 0⟩) (meth := k2m0) (c := k2c0) (by decide +kernel) rfl rfl rfl (by decide +kernel)
set_option maxRecDepth 65536 in
theorem w_c2 : (Jvm.Cond.code ({ cls := "java/lang/Object", name := "<init>", desc := "()V" } : Jvm.MethodName) object_method_1_code (1 : Nat) (Option.none : Option Jvm.ClassFile.FieldType)).before args0 about1 = true := code_word (m := ⟨0, 0⟩) (meth := k0m0) (c := k0c0) (by decide +kernel) rfl rfl rfl (by decide +kernel)
set_option maxRecDepth 65536 in
theorem w_c3 : (Jvm.Cond.code ({ cls := "com/example/routeloom/routeloom/MinQueue", name := "add", desc := "(ID)V" } : Jvm.MethodName) prog_13_method_3_code (6 : Nat) (Option.none : Option Jvm.ClassFile.FieldType)).before args0 about1 = true := code_word (m := ⟨2, 1⟩) (meth := k2m1) (c := k2c1) (by decide +kernel) rfl rfl rfl (by decide +kernel)
set_option maxRecDepth 65536 in
theorem w_c4 : (Jvm.Cond.code ({ cls := "com/example/routeloom/routeloom/MinQueue", name := "removeMin", desc := "()I" } : Jvm.MethodName) prog_13_method_4_code (7 : Nat) (Option.some Jvm.ClassFile.FieldType.int)).before args0 about1 = true := code_word (m := ⟨2, 2⟩) (meth := k2m2) (c := k2c2) (by decide +kernel) rfl rfl rfl (by decide +kernel)
set_option maxRecDepth 65536 in
theorem w_c5 : (Jvm.Cond.code ({ cls := "com/example/routeloom/routeloom/MinQueueRemoveMinPinLaw", name := "step", desc := "(II[D[Z)Z" } : Jvm.MethodName) method_3_code (7 : Nat) (Option.some Jvm.ClassFile.FieldType.boolean)).before args0 about1 = true := code_word (m := ⟨1, 2⟩) (meth := k1m2) (c := k1c2) (by decide +kernel) rfl rfl rfl (by decide +kernel)
set_option maxRecDepth 65536 in
theorem w_c6 : (Jvm.Cond.code ({ cls := "com/example/routeloom/routeloom/MinQueueRemoveMinPinLaw", name := "minPresent", desc := "([D[Z)D" } : Jvm.MethodName) method_2_code (4 : Nat) (Option.some Jvm.ClassFile.FieldType.double)).before args0 about1 = true := code_word (m := ⟨1, 1⟩) (meth := k1m1) (c := k1c1) (by decide +kernel) rfl rfl rfl (by decide +kernel)
def codes1 : List Jvm.Cond := [Jvm.Cond.code x code maxLocals ret, Jvm.Cond.code ({ cls := "com/example/routeloom/routeloom/MinQueue", name := "<init>", desc := "()V" } : Jvm.MethodName) prog_13_method_1_code (1 : Nat) (Option.none : Option Jvm.ClassFile.FieldType), Jvm.Cond.code ({ cls := "java/lang/Object", name := "<init>", desc := "()V" } : Jvm.MethodName) object_method_1_code (1 : Nat) (Option.none : Option Jvm.ClassFile.FieldType), Jvm.Cond.code ({ cls := "com/example/routeloom/routeloom/MinQueue", name := "add", desc := "(ID)V" } : Jvm.MethodName) prog_13_method_3_code (6 : Nat) (Option.none : Option Jvm.ClassFile.FieldType), Jvm.Cond.code ({ cls := "com/example/routeloom/routeloom/MinQueue", name := "removeMin", desc := "()I" } : Jvm.MethodName) prog_13_method_4_code (7 : Nat) (Option.some Jvm.ClassFile.FieldType.int), Jvm.Cond.code ({ cls := "com/example/routeloom/routeloom/MinQueueRemoveMinPinLaw", name := "step", desc := "(II[D[Z)Z" } : Jvm.MethodName) method_3_code (7 : Nat) (Option.some Jvm.ClassFile.FieldType.boolean), Jvm.Cond.code ({ cls := "com/example/routeloom/routeloom/MinQueueRemoveMinPinLaw", name := "minPresent", desc := "([D[Z)D" } : Jvm.MethodName) method_2_code (4 : Nat) (Option.some Jvm.ClassFile.FieldType.double)]
set_option maxRecDepth 65536 in
theorem codes_eq : words1.filter isCode = codes1 := rfl
theorem w_codes : ∀ c ∈ words1.filter isCode, c.before args0 about1 = true := by
  rw [codes_eq]
  intro c hc
  simp only [codes1, List.mem_cons, List.not_mem_nil, or_false] at hc
  rcases hc with rfl | rfl | rfl | rfl | rfl | rfl | rfl
  · exact w_c0
  · exact w_c1
  · exact w_c2
  · exact w_c3
  · exact w_c4
  · exact w_c5
  · exact w_c6
set_option maxRecDepth 65536 in
theorem w_t1 : (words1.take 24).all (fun c => isCode c || c.before args0 about1) = true := by decide +kernel
set_option maxRecDepth 65536 in
theorem w_t2 : (words1.drop 24).all (fun c => isCode c || c.before args0 about1) = true := by decide +kernel
theorem w_tables : (allAtoms (Jvm.Cond.code x code maxLocals ret :: tables_1)).before args0 about1 = true := by
  rw [allAtoms_all]
  show words1.all (fun c => c.before args0 about1) = true
  refine all_split ?_ w_codes
  rw [← List.take_append_drop 24 words1, List.all_append, w_t1, w_t2]
  rfl
set_option maxRecDepth 65536 in
theorem w_case : (Jvm.Cond.and given_1 narrow_1).before args0 about1 = true := by decide +kernel
theorem w_applies : (headSpec (Jvm.Cond.code x code maxLocals ret :: tables_1) room_1).applies x e0.platform about1 = true :=
  (Spec.applies_iff w_frames).mpr ⟨w_running, w_runnable, w_alone, w_named, w_hears, w_ripe, w_room, w_tables⟩
theorem atStart : AtStart classFile x code maxLocals ret World_1 tables_1 room_1 Calls_1 rest_1 Pre_1 launch0 p0 e0 about1 theMethod args0 below0 :=
  ⟨lists_1, trivial, launch0.admits_env _ _ _, launch0.least_env, fairChoices_fair.cas, fairChoices_fair.clock, w_frames, w_args, w_heap, w_applies, trivial, trivial, w_case⟩
end start1
theorem witness_1 : WitnessClaimed_1 := ⟨start1.p0, start1.e0, start1.about1, start1.theMethod, start1.args0, start1.below0, start1.atStart⟩
end Jvm.Pilot.@@N@@

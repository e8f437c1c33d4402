import JvmDerived
import JvmDerived.Pilot.@@N@@Statement
import JvmDerived.Pilot.@@N@@Code
set_option linter.unusedVariables false
set_option linter.unusedSimpArgs false
namespace Jvm.OwnWp
open Sem ClassFile Op Lib Jvm.Stand Jvm.Free Jvm.LawKit Jvm.RoadKit
/-- what holds of the method that is walked: its bytes, its class, its tables -/
def Cx (Z : State) (own nm : String) (bytes : ByteArray) (ml : Nat) (ret : Option FieldType) (p : Program) (s : State) (m : MethodId) (meth : Method) (c : Code) : Prop :=
  p.tables.exec = Jvm.exec ∧ Z.Warmed39 s.vm ∧ s.vm.findClass own = some m.cls ∧ c.code = bytes ∧ c.maxLocals = ml ∧ meth.sig.returnType = ret ∧ meth.locks = false ∧ meth.name = nm
/-- from the frame g over the heap h the method returns v at a heap of which Q holds; it has written fresh places alone -/
def Go (p : Program) (l : Launch) (e : Env) (R : Room) (s : State) (m : MethodId) (args : Array Value) (below : List Frame) (meth : Method) (c : Code) (n0 : Nat) (h : Heap) (ce sl : Nat) (g : JFrame) (Q : Option Value → Heap → Prop) : Prop :=
  ∀ (T : State) (L : List Loc), Stand p l e R s m args below meth c T L ce sl → Fr n0 L → T.heap = h →
    ∃ (s₂ : State) (v : Option Value) (L' : List Loc), Steps p.tables e below (T.setTop g) s₂ ∧ s₂.status = .running ∧ Ended s₂ below (.returned v) ∧ Fr n0 L' ∧ Q v s₂.heap ∧ FrameEnd s (.returned v) s₂ L' R.cells R.slots
/-- the contract of a method: called with the values as' over the heap h it returns as Q says -/
def Ctr (l : Launch) (Z : State) (y : MethodName) (bytes : ByteArray) (ml : Nat) (ret : Option FieldType) (ws : List Cond) (rm : Room) (n0 : Nat) (as' : Array Value) (h : Heap) (Q : Option Value → Heap → Prop) : Prop :=
  MetFree l y (head1 (Cond.code y bytes ml ret :: ws) rm) (fun a U => a = as' ∧ Z.Warmed39 U.vm ∧ U.heap = h) (fun _ _ _ _ _ => True) (fun _ U o U' => ∃ v L, o = .returned v ∧ (Q v U'.heap ∧ Fr n0 L) ∧ FrameEnd U o U' L rm.cells rm.slots)
section Walk
variable {p : Program} {l : Launch} {e : Env} {R : Room} {s : State} {m : MethodId} {args : Array Value} {below : List Frame} {meth : Method} {c : Code} {Z : State} {a0 : Array Value} {own nm : String} {bytes : ByteArray} {ml : Nat} {ret : Option FieldType} {n0 ce sl pc pc' : Nat} {h : Heap} {Ls Ls' : Array Slot} {S : List Value} {Q : Option Value → Heap → Prop}
theorem one {g g' : JFrame} (st : ∀ (T : State) (L : List Loc), Stand p l e R s m args below meth c T L ce sl → T.heap = h → ∀ t, Steps p.tables e below (T.setTop g') t → Steps p.tables e below (T.setTop g) t) (q : Go p l e R s m args below meth c n0 h ce sl g' Q) : Go p l e R s m args below meth c n0 h ce sl g Q := fun T L X N eT => by
  obtain ⟨s₂, v, L', a1, r⟩ := q T L X N eT
  exact ⟨s₂, v, L', st T L X eT _ a1, r⟩
/-- a step that goes to another state over the same heap -/
theorem oneT {g g' : JFrame} (st : ∀ (T : State) (L : List Loc), Stand p l e R s m args below meth c T L ce sl → T.heap = h → ∃ T', Stand p l e R s m args below meth c T' L ce sl ∧ T'.heap = h ∧ ∀ t, Steps p.tables e below (T'.setTop g') t → Steps p.tables e below (T.setTop g) t) (q : Go p l e R s m args below meth c n0 h ce sl g' Q) : Go p l e R s m args below meth c n0 h ce sl g Q := fun T L X N eT => by
  obtain ⟨T', X', eT', k⟩ := st T L X eT
  obtain ⟨s₂, v, L', a1, r⟩ := q T' L X' N eT'
  exact ⟨s₂, v, L', k _ a1, r⟩
theorem Go.cast {g g' : JFrame} (q : g = g') (k : Go p l e R s m args below meth c n0 h ce sl g' Q) : Go p l e R s m args below meth c n0 h ce sl g Q := q ▸ k
theorem Go.mono {g : JFrame} {Q' : Option Value → Heap → Prop} (k : Go p l e R s m args below meth c n0 h ce sl g Q') (q : ∀ v h, Q' v h → Q v h) : Go p l e R s m args below meth c n0 h ce sl g Q := fun T L X N eT => by
  obtain ⟨s₂, v, L', a1, a2, a3, a4, a5, r⟩ := k T L X N eT
  exact ⟨s₂, v, L', a1, a2, a3, a4, q _ _ a5, r⟩

theorem iloadN (K : Cx Z own nm bytes ml ret p s m meth c) {k : Fin 4} {v : Int32} (hd : decode bytes pc = .ok (.iload_n k, 1)) (hl : Ls[k.val]? = some (.val (.int v))) (hp : pc + 1 = pc') (q : Go p l e R s m args below meth c n0 h ce sl (mkF m pc' Ls (.int v :: S)) Q) : Go p l e R s m args below meth c n0 h ce sl (mkF m pc Ls S) Q := by
  subst hp; exact one (fun T L X _ t => Jvm.Free.XS.iloadN X.here K.1 rfl (hb K.2.2.2.1 hd) hl) q
theorem iload (K : Cx Z own nm bytes ml ret p s m meth c) {k : Nat} {v : Int32} (hd : decode bytes pc = .ok (.iload k, 2)) (hl : Ls[k]? = some (.val (.int v))) (hp : pc + 2 = pc') (q : Go p l e R s m args below meth c n0 h ce sl (mkF m pc' Ls (.int v :: S)) Q) : Go p l e R s m args below meth c n0 h ce sl (mkF m pc Ls S) Q := by
  subst hp; exact one (fun T L X _ t => Jvm.Free.XS.iload X.here K.1 rfl (hb K.2.2.2.1 hd) hl) q
theorem istoreN (K : Cx Z own nm bytes ml ret p s m meth c) {k : Fin 4} {v : Int32} (hd : decode bytes pc = .ok (.istore_n k, 1)) (hl : storeLocals Ls k.val (.int v) = some Ls') (hp : pc + 1 = pc') (q : Go p l e R s m args below meth c n0 h ce sl (mkF m pc' Ls' S) Q) : Go p l e R s m args below meth c n0 h ce sl (mkF m pc Ls (.int v :: S)) Q := by
  subst hp; exact one (fun T L X _ t => Jvm.Free.XS.istoreN X.here K.1 rfl (hb K.2.2.2.1 hd) rfl hl) q
theorem istore (K : Cx Z own nm bytes ml ret p s m meth c) {k : Nat} {v : Int32} (hd : decode bytes pc = .ok (.istore k, 2)) (hl : storeLocals Ls k (.int v) = some Ls') (hp : pc + 2 = pc') (q : Go p l e R s m args below meth c n0 h ce sl (mkF m pc' Ls' S) Q) : Go p l e R s m args below meth c n0 h ce sl (mkF m pc Ls (.int v :: S)) Q := by
  subst hp; exact one (fun T L X _ t => Jvm.Free.XS.istore X.here K.1 rfl (hb K.2.2.2.1 hd) rfl hl) q
theorem lloadN (K : Cx Z own nm bytes ml ret p s m meth c) {k : Fin 4} {v : Int64} (hd : decode bytes pc = .ok (.lload_n k, 1)) (hl : Ls[k.val]? = some (.val (.long v))) (hp : pc + 1 = pc') (q : Go p l e R s m args below meth c n0 h ce sl (mkF m pc' Ls (.long v :: S)) Q) : Go p l e R s m args below meth c n0 h ce sl (mkF m pc Ls S) Q := by
  subst hp; exact one (fun T L X _ t => Jvm.Free.XT.lloadN X.here K.1 rfl (hb K.2.2.2.1 hd) hl) q
theorem lload (K : Cx Z own nm bytes ml ret p s m meth c) {k : Nat} {v : Int64} (hd : decode bytes pc = .ok (.lload k, 2)) (hl : Ls[k]? = some (.val (.long v))) (hp : pc + 2 = pc') (q : Go p l e R s m args below meth c n0 h ce sl (mkF m pc' Ls (.long v :: S)) Q) : Go p l e R s m args below meth c n0 h ce sl (mkF m pc Ls S) Q := by
  subst hp; exact one (fun T L X _ t => Jvm.Free.XT.lload X.here K.1 rfl (hb K.2.2.2.1 hd) hl) q
theorem lstoreN (K : Cx Z own nm bytes ml ret p s m meth c) {k : Fin 4} {v : Int64} (hd : decode bytes pc = .ok (.lstore_n k, 1)) (hl : storeLocals Ls k.val (.long v) = some Ls') (hp : pc + 1 = pc') (q : Go p l e R s m args below meth c n0 h ce sl (mkF m pc' Ls' S) Q) : Go p l e R s m args below meth c n0 h ce sl (mkF m pc Ls (.long v :: S)) Q := by
  subst hp; exact one (fun T L X _ t => Jvm.Free.XT.lstoreN X.here K.1 rfl (hb K.2.2.2.1 hd) rfl hl) q
theorem lstore (K : Cx Z own nm bytes ml ret p s m meth c) {k : Nat} {v : Int64} (hd : decode bytes pc = .ok (.lstore k, 2)) (hl : storeLocals Ls k (.long v) = some Ls') (hp : pc + 2 = pc') (q : Go p l e R s m args below meth c n0 h ce sl (mkF m pc' Ls' S) Q) : Go p l e R s m args below meth c n0 h ce sl (mkF m pc Ls (.long v :: S)) Q := by
  subst hp; exact one (fun T L X _ t => Jvm.Free.XT.lstore X.here K.1 rfl (hb K.2.2.2.1 hd) rfl hl) q
theorem dloadN (K : Cx Z own nm bytes ml ret p s m meth c) {k : Fin 4} {v : UInt64} (hd : decode bytes pc = .ok (.dload_n k, 1)) (hl : Ls[k.val]? = some (.val (.double v))) (hp : pc + 1 = pc') (q : Go p l e R s m args below meth c n0 h ce sl (mkF m pc' Ls (.double v :: S)) Q) : Go p l e R s m args below meth c n0 h ce sl (mkF m pc Ls S) Q := by
  subst hp; exact one (fun T L X _ t => Jvm.Free.XS.dloadN X.here K.1 rfl (hb K.2.2.2.1 hd) hl) q
theorem dload (K : Cx Z own nm bytes ml ret p s m meth c) {k : Nat} {v : UInt64} (hd : decode bytes pc = .ok (.dload k, 2)) (hl : Ls[k]? = some (.val (.double v))) (hp : pc + 2 = pc') (q : Go p l e R s m args below meth c n0 h ce sl (mkF m pc' Ls (.double v :: S)) Q) : Go p l e R s m args below meth c n0 h ce sl (mkF m pc Ls S) Q := by
  subst hp; exact one (fun T L X _ t => Jvm.Free.XS.dload X.here K.1 rfl (hb K.2.2.2.1 hd) hl) q
theorem dstoreN (K : Cx Z own nm bytes ml ret p s m meth c) {k : Fin 4} {v : UInt64} (hd : decode bytes pc = .ok (.dstore_n k, 1)) (hl : storeLocals Ls k.val (.double v) = some Ls') (hp : pc + 1 = pc') (q : Go p l e R s m args below meth c n0 h ce sl (mkF m pc' Ls' S) Q) : Go p l e R s m args below meth c n0 h ce sl (mkF m pc Ls (.double v :: S)) Q := by
  subst hp; exact one (fun T L X _ t => Jvm.Free.XS.dstoreN X.here K.1 rfl (hb K.2.2.2.1 hd) rfl hl) q
theorem dstore (K : Cx Z own nm bytes ml ret p s m meth c) {k : Nat} {v : UInt64} (hd : decode bytes pc = .ok (.dstore k, 2)) (hl : storeLocals Ls k (.double v) = some Ls') (hp : pc + 2 = pc') (q : Go p l e R s m args below meth c n0 h ce sl (mkF m pc' Ls' S) Q) : Go p l e R s m args below meth c n0 h ce sl (mkF m pc Ls (.double v :: S)) Q := by
  subst hp; exact one (fun T L X _ t => Jvm.Free.XS.dstore X.here K.1 rfl (hb K.2.2.2.1 hd) rfl hl) q
theorem aloadN (K : Cx Z own nm bytes ml ret p s m meth c) {k : Fin 4} {v : Value} (hd : decode bytes pc = .ok (.aload_n k, 1)) (hl : Ls[k.val]? = some (.val v)) (hv : v.isRef = true) (hp : pc + 1 = pc') (q : Go p l e R s m args below meth c n0 h ce sl (mkF m pc' Ls (v :: S)) Q) : Go p l e R s m args below meth c n0 h ce sl (mkF m pc Ls S) Q := by
  subst hp; exact one (fun T L X _ t => Jvm.Free.XS.aloadN X.here K.1 rfl (hb K.2.2.2.1 hd) hl hv) q
theorem aload (K : Cx Z own nm bytes ml ret p s m meth c) {k : Nat} {v : Value} (hd : decode bytes pc = .ok (.aload k, 2)) (hl : Ls[k]? = some (.val v)) (hv : v.isRef = true) (hp : pc + 2 = pc') (q : Go p l e R s m args below meth c n0 h ce sl (mkF m pc' Ls (v :: S)) Q) : Go p l e R s m args below meth c n0 h ce sl (mkF m pc Ls S) Q := by
  subst hp; exact one (fun T L X _ t => Jvm.Free.XS.aload X.here K.1 rfl (hb K.2.2.2.1 hd) hl hv) q
theorem astoreN (K : Cx Z own nm bytes ml ret p s m meth c) {k : Fin 4} {v : Value} (hd : decode bytes pc = .ok (.astore_n k, 1)) (hv : v.isRef = true) (hl : storeLocals Ls k.val v = some Ls') (hp : pc + 1 = pc') (q : Go p l e R s m args below meth c n0 h ce sl (mkF m pc' Ls' S) Q) : Go p l e R s m args below meth c n0 h ce sl (mkF m pc Ls (v :: S)) Q := by
  subst hp; exact one (fun T L X _ t => Jvm.Free.XS.astoreN X.here K.1 rfl (hb K.2.2.2.1 hd) rfl hv hl) q
theorem astore (K : Cx Z own nm bytes ml ret p s m meth c) {k : Nat} {v : Value} (hd : decode bytes pc = .ok (.astore k, 2)) (hv : v.isRef = true) (hl : storeLocals Ls k v = some Ls') (hp : pc + 2 = pc') (q : Go p l e R s m args below meth c n0 h ce sl (mkF m pc' Ls' S) Q) : Go p l e R s m args below meth c n0 h ce sl (mkF m pc Ls (v :: S)) Q := by
  subst hp; exact one (fun T L X _ t => Jvm.Free.XS.astore X.here K.1 rfl (hb K.2.2.2.1 hd) rfl hv hl) q
theorem iconst (K : Cx Z own nm bytes ml ret p s m meth c) {i : Int} (v : Int32) (hd : decode bytes pc = .ok (.iconst i, 1)) (hv : Int32.ofInt i = v) (hp : pc + 1 = pc') (q : Go p l e R s m args below meth c n0 h ce sl (mkF m pc' Ls (.int v :: S)) Q) : Go p l e R s m args below meth c n0 h ce sl (mkF m pc Ls S) Q := by
  subst hp; exact one (fun T L X _ t => Jvm.Free.XT.iconstV X.here K.1 rfl v (hb K.2.2.2.1 hd) hv) q
theorem bipush (K : Cx Z own nm bytes ml ret p s m meth c) {i : Int} (v : Int32) (hd : decode bytes pc = .ok (.bipush i, 2)) (hv : (Int8.ofInt i).toInt32 = v) (hp : pc + 2 = pc') (q : Go p l e R s m args below meth c n0 h ce sl (mkF m pc' Ls (.int v :: S)) Q) : Go p l e R s m args below meth c n0 h ce sl (mkF m pc Ls S) Q := by
  subst hp; exact one (fun T L X _ t => Jvm.Free.XT.bipushV X.here K.1 rfl v (hb K.2.2.2.1 hd) hv) q
theorem sipush (K : Cx Z own nm bytes ml ret p s m meth c) {i : Int} (v : Int32) (hd : decode bytes pc = .ok (.sipush i, 3)) (hv : (Int16.ofInt i).toInt32 = v) (hp : pc + 3 = pc') (q : Go p l e R s m args below meth c n0 h ce sl (mkF m pc' Ls (.int v :: S)) Q) : Go p l e R s m args below meth c n0 h ce sl (mkF m pc Ls S) Q := by
  subst hp; exact one (fun T L X _ t => Jvm.Free.XT.sipushV X.here K.1 rfl v (hb K.2.2.2.1 hd) hv) q
theorem lconst (K : Cx Z own nm bytes ml ret p s m meth c) {i : Fin 2} (v : Int64) (hd : decode bytes pc = .ok (.lconst i, 1)) (hv : Int64.ofNat i = v) (hp : pc + 1 = pc') (q : Go p l e R s m args below meth c n0 h ce sl (mkF m pc' Ls (.long v :: S)) Q) : Go p l e R s m args below meth c n0 h ce sl (mkF m pc Ls S) Q := by
  subst hp; exact one (fun T L X _ t => Jvm.Free.XT.lconstV X.here K.1 rfl v (hb K.2.2.2.1 hd) hv) q
theorem istoreS (K : Cx Z own nm bytes ml ret p s m meth c) {k : Nat} {x : Int32} {o : Slot} (hd : decode bytes pc = .ok (.istore k, 2)) (hold : Ls[k]? = some o) (ho : One o) (hl : Ls.setIfInBounds k (.val (.int x)) = Ls') (hp : pc + 2 = pc') (q : Go p l e R s m args below meth c n0 h ce sl (mkF m pc' Ls' S) Q) : Go p l e R s m args below meth c n0 h ce sl (mkF m pc Ls (.int x :: S)) Q := by
  subst hp hl; exact one (fun T L X _ t => Jvm.Free.XS.istoreS X.here K.1 rfl (hb K.2.2.2.1 hd) rfl hold ho) q
theorem dconst0 (K : Cx Z own nm bytes ml ret p s m meth c) {v : UInt64} (hd : decode bytes pc = .ok (.dconst 0, 1)) (hv : FP.dconst0 = v) (hp : pc + 1 = pc') (q : Go p l e R s m args below meth c n0 h ce sl (mkF m pc' Ls (.double v :: S)) Q) : Go p l e R s m args below meth c n0 h ce sl (mkF m pc Ls S) Q := by
  subst hp; exact one (fun T L X _ t => Jvm.Free.XS.dconst0 X.here K.1 rfl (hb K.2.2.2.1 hd) hv) q
theorem dconst1 (K : Cx Z own nm bytes ml ret p s m meth c) {v : UInt64} (hd : decode bytes pc = .ok (.dconst 1, 1)) (hv : FP.dconst1 = v) (hp : pc + 1 = pc') (q : Go p l e R s m args below meth c n0 h ce sl (mkF m pc' Ls (.double v :: S)) Q) : Go p l e R s m args below meth c n0 h ce sl (mkF m pc Ls S) Q := by
  subst hp; exact one (fun T L X _ t => Jvm.Free.XS.dconst1 X.here K.1 rfl (hb K.2.2.2.1 hd) hv) q
theorem anull (K : Cx Z own nm bytes ml ret p s m meth c) (hd : decode bytes pc = .ok (.aconst_null, 1)) (hp : pc + 1 = pc') (q : Go p l e R s m args below meth c n0 h ce sl (mkF m pc' Ls (.null :: S)) Q) : Go p l e R s m args below meth c n0 h ce sl (mkF m pc Ls S) Q := by
  subst hp; exact one (fun T L X _ t => Jvm.Free.XS.aconstNull X.here K.1 rfl (hb K.2.2.2.1 hd) ) q
theorem iinc (K : Cx Z own nm bytes ml ret p s m meth c) {k : Nat} {i : Int} {x : Int32} (v : Int32) (hd : decode bytes pc = .ok (.iinc k i, 3)) (hv : Int32.ofInt i = v) (hl : Ls[k]? = some (.val (.int x))) (hl' : storeLocals Ls k (.int (x + v)) = some Ls') (hp : pc + 3 = pc') (q : Go p l e R s m args below meth c n0 h ce sl (mkF m pc' Ls' S) Q) : Go p l e R s m args below meth c n0 h ce sl (mkF m pc Ls S) Q := by
  subst hp; exact one (fun T L X _ t => Jvm.Free.XT.iincV X.here K.1 rfl v (hb K.2.2.2.1 hd) hv hl hl') q
theorem iadd (K : Cx Z own nm bytes ml ret p s m meth c) {x y : Int32} (hd : decode bytes pc = .ok (.iadd, 1)) (hp : pc + 1 = pc') (q : Go p l e R s m args below meth c n0 h ce sl (mkF m pc' Ls (.int (x + y) :: S)) Q) : Go p l e R s m args below meth c n0 h ce sl (mkF m pc Ls (.int y :: .int x :: S)) Q := by
  subst hp; exact one (fun T L X _ t => Jvm.Free.XS.iadd X.here K.1 rfl (hb K.2.2.2.1 hd) rfl) q
theorem isub (K : Cx Z own nm bytes ml ret p s m meth c) {x y : Int32} (hd : decode bytes pc = .ok (.isub, 1)) (hp : pc + 1 = pc') (q : Go p l e R s m args below meth c n0 h ce sl (mkF m pc' Ls (.int (x - y) :: S)) Q) : Go p l e R s m args below meth c n0 h ce sl (mkF m pc Ls (.int y :: .int x :: S)) Q := by
  subst hp; exact one (fun T L X _ t => Jvm.Free.XS.isub X.here K.1 rfl (hb K.2.2.2.1 hd) rfl) q
theorem imul (K : Cx Z own nm bytes ml ret p s m meth c) {x y : Int32} (hd : decode bytes pc = .ok (.imul, 1)) (hp : pc + 1 = pc') (q : Go p l e R s m args below meth c n0 h ce sl (mkF m pc' Ls (.int (x * y) :: S)) Q) : Go p l e R s m args below meth c n0 h ce sl (mkF m pc Ls (.int y :: .int x :: S)) Q := by
  subst hp; exact one (fun T L X _ t => Jvm.Free.XS.imul X.here K.1 rfl (hb K.2.2.2.1 hd) rfl) q
theorem iand (K : Cx Z own nm bytes ml ret p s m meth c) {x y : Int32} (hd : decode bytes pc = .ok (.iand, 1)) (hp : pc + 1 = pc') (q : Go p l e R s m args below meth c n0 h ce sl (mkF m pc' Ls (.int (x &&& y) :: S)) Q) : Go p l e R s m args below meth c n0 h ce sl (mkF m pc Ls (.int y :: .int x :: S)) Q := by
  subst hp; exact one (fun T L X _ t => Jvm.Free.XS.iand X.here K.1 rfl (hb K.2.2.2.1 hd) rfl) q
theorem ior (K : Cx Z own nm bytes ml ret p s m meth c) {x y : Int32} (hd : decode bytes pc = .ok (.ior, 1)) (hp : pc + 1 = pc') (q : Go p l e R s m args below meth c n0 h ce sl (mkF m pc' Ls (.int (x ||| y) :: S)) Q) : Go p l e R s m args below meth c n0 h ce sl (mkF m pc Ls (.int y :: .int x :: S)) Q := by
  subst hp; exact one (fun T L X _ t => Jvm.Free.XT.ior X.here K.1 rfl (hb K.2.2.2.1 hd) rfl) q
theorem ixor (K : Cx Z own nm bytes ml ret p s m meth c) {x y : Int32} (hd : decode bytes pc = .ok (.ixor, 1)) (hp : pc + 1 = pc') (q : Go p l e R s m args below meth c n0 h ce sl (mkF m pc' Ls (.int (x ^^^ y) :: S)) Q) : Go p l e R s m args below meth c n0 h ce sl (mkF m pc Ls (.int y :: .int x :: S)) Q := by
  subst hp; exact one (fun T L X _ t => Jvm.Free.XT.ixor X.here K.1 rfl (hb K.2.2.2.1 hd) rfl) q
theorem ishl (K : Cx Z own nm bytes ml ret p s m meth c) {x y : Int32} (hd : decode bytes pc = .ok (.ishl, 1)) (hp : pc + 1 = pc') (q : Go p l e R s m args below meth c n0 h ce sl (mkF m pc' Ls (.int (x <<< (y &&& 31)) :: S)) Q) : Go p l e R s m args below meth c n0 h ce sl (mkF m pc Ls (.int y :: .int x :: S)) Q := by
  subst hp; exact one (fun T L X _ t => Jvm.Free.XT.ishl X.here K.1 rfl (hb K.2.2.2.1 hd) rfl) q
theorem ishr (K : Cx Z own nm bytes ml ret p s m meth c) {x y : Int32} (hd : decode bytes pc = .ok (.ishr, 1)) (hp : pc + 1 = pc') (q : Go p l e R s m args below meth c n0 h ce sl (mkF m pc' Ls (.int (x >>> (y &&& 31)) :: S)) Q) : Go p l e R s m args below meth c n0 h ce sl (mkF m pc Ls (.int y :: .int x :: S)) Q := by
  subst hp; exact one (fun T L X _ t => Jvm.Free.XT.ishr X.here K.1 rfl (hb K.2.2.2.1 hd) rfl) q
theorem iushr (K : Cx Z own nm bytes ml ret p s m meth c) {x y : Int32} (hd : decode bytes pc = .ok (.iushr, 1)) (hp : pc + 1 = pc') (q : Go p l e R s m args below meth c n0 h ce sl (mkF m pc' Ls (.int ((x.toUInt32 >>> (y &&& 31).toUInt32).toInt32) :: S)) Q) : Go p l e R s m args below meth c n0 h ce sl (mkF m pc Ls (.int y :: .int x :: S)) Q := by
  subst hp; exact one (fun T L X _ t => Jvm.Free.XT.iushr X.here K.1 rfl (hb K.2.2.2.1 hd) rfl) q
theorem irem_mod (x y : Int32) : x - (x / y) * y = x % y := by
  apply Int32.toInt_inj.mp
  have h1 := Int32.le_toInt (x % y)
  have h2 := Int32.toInt_lt (x % y)
  rw [Int32.toInt_sub, Int32.toInt_mul, Int32.toInt_div, Int.bmod_mul_bmod, Int.sub_bmod_bmod, Int.mul_comm (x.toInt.tdiv y.toInt), ← Int.tmod_def, ← Int32.toInt_mod]
  exact Int.bmod_eq_of_le_mul_two (by omega) (by omega)
theorem irem (K : Cx Z own nm bytes ml ret p s m meth c) {x y : Int32} (hd : decode bytes pc = .ok (.irem, 1)) (hy : y ≠ 0) (hp : pc + 1 = pc') (q : Go p l e R s m args below meth c n0 h ce sl (mkF m pc' Ls (.int (x % y) :: S)) Q) : Go p l e R s m args below meth c n0 h ce sl (mkF m pc Ls (.int y :: .int x :: S)) Q := by
  subst hp; rw [← irem_mod] at q; exact one (fun T L X _ t => Jvm.Free.XS.irem X.here K.1 rfl (hb K.2.2.2.1 hd) rfl hy) q
theorem idiv (K : Cx Z own nm bytes ml ret p s m meth c) {x y : Int32} (hd : decode bytes pc = .ok (.idiv, 1)) (hy : y ≠ 0) (hp : pc + 1 = pc') (q : Go p l e R s m args below meth c n0 h ce sl (mkF m pc' Ls (.int (x / y) :: S)) Q) : Go p l e R s m args below meth c n0 h ce sl (mkF m pc Ls (.int y :: .int x :: S)) Q := by
  subst hp; exact one (fun T L X _ t => Jvm.Free.XS.idiv X.here K.1 rfl (hb K.2.2.2.1 hd) rfl hy) q
theorem ladd (K : Cx Z own nm bytes ml ret p s m meth c) {x y : Int64} (hd : decode bytes pc = .ok (.ladd, 1)) (hp : pc + 1 = pc') (q : Go p l e R s m args below meth c n0 h ce sl (mkF m pc' Ls (.long (x + y) :: S)) Q) : Go p l e R s m args below meth c n0 h ce sl (mkF m pc Ls (.long y :: .long x :: S)) Q := by
  subst hp; exact one (fun T L X _ t => Jvm.Free.XT.ladd X.here K.1 rfl (hb K.2.2.2.1 hd) rfl) q
theorem lsub (K : Cx Z own nm bytes ml ret p s m meth c) {x y : Int64} (hd : decode bytes pc = .ok (.lsub, 1)) (hp : pc + 1 = pc') (q : Go p l e R s m args below meth c n0 h ce sl (mkF m pc' Ls (.long (x - y) :: S)) Q) : Go p l e R s m args below meth c n0 h ce sl (mkF m pc Ls (.long y :: .long x :: S)) Q := by
  subst hp; exact one (fun T L X _ t => Jvm.Free.XT.lsub X.here K.1 rfl (hb K.2.2.2.1 hd) rfl) q
theorem lmul (K : Cx Z own nm bytes ml ret p s m meth c) {x y : Int64} (hd : decode bytes pc = .ok (.lmul, 1)) (hp : pc + 1 = pc') (q : Go p l e R s m args below meth c n0 h ce sl (mkF m pc' Ls (.long (x * y) :: S)) Q) : Go p l e R s m args below meth c n0 h ce sl (mkF m pc Ls (.long y :: .long x :: S)) Q := by
  subst hp; exact one (fun T L X _ t => Jvm.Free.XT.lmul X.here K.1 rfl (hb K.2.2.2.1 hd) rfl) q
theorem land (K : Cx Z own nm bytes ml ret p s m meth c) {x y : Int64} (hd : decode bytes pc = .ok (.land, 1)) (hp : pc + 1 = pc') (q : Go p l e R s m args below meth c n0 h ce sl (mkF m pc' Ls (.long (x &&& y) :: S)) Q) : Go p l e R s m args below meth c n0 h ce sl (mkF m pc Ls (.long y :: .long x :: S)) Q := by
  subst hp; exact one (fun T L X _ t => Jvm.Free.XT.land X.here K.1 rfl (hb K.2.2.2.1 hd) rfl) q
theorem lor (K : Cx Z own nm bytes ml ret p s m meth c) {x y : Int64} (hd : decode bytes pc = .ok (.lor, 1)) (hp : pc + 1 = pc') (q : Go p l e R s m args below meth c n0 h ce sl (mkF m pc' Ls (.long (x ||| y) :: S)) Q) : Go p l e R s m args below meth c n0 h ce sl (mkF m pc Ls (.long y :: .long x :: S)) Q := by
  subst hp; exact one (fun T L X _ t => Jvm.Free.XT.lor X.here K.1 rfl (hb K.2.2.2.1 hd) rfl) q
theorem lxor (K : Cx Z own nm bytes ml ret p s m meth c) {x y : Int64} (hd : decode bytes pc = .ok (.lxor, 1)) (hp : pc + 1 = pc') (q : Go p l e R s m args below meth c n0 h ce sl (mkF m pc' Ls (.long (x ^^^ y) :: S)) Q) : Go p l e R s m args below meth c n0 h ce sl (mkF m pc Ls (.long y :: .long x :: S)) Q := by
  subst hp; exact one (fun T L X _ t => Jvm.Free.XT.lxor X.here K.1 rfl (hb K.2.2.2.1 hd) rfl) q
theorem lshl (K : Cx Z own nm bytes ml ret p s m meth c) {x : Int64} {y : Int32} (hd : decode bytes pc = .ok (.lshl, 1)) (hp : pc + 1 = pc') (q : Go p l e R s m args below meth c n0 h ce sl (mkF m pc' Ls (.long (x <<< (y.toInt64 &&& 63)) :: S)) Q) : Go p l e R s m args below meth c n0 h ce sl (mkF m pc Ls (.int y :: .long x :: S)) Q := by
  subst hp; exact one (fun T L X _ t => Jvm.Free.XT.lshl X.here K.1 rfl (hb K.2.2.2.1 hd) rfl) q
theorem lshr (K : Cx Z own nm bytes ml ret p s m meth c) {x : Int64} {y : Int32} (hd : decode bytes pc = .ok (.lshr, 1)) (hp : pc + 1 = pc') (q : Go p l e R s m args below meth c n0 h ce sl (mkF m pc' Ls (.long (x >>> (y.toInt64 &&& 63)) :: S)) Q) : Go p l e R s m args below meth c n0 h ce sl (mkF m pc Ls (.int y :: .long x :: S)) Q := by
  subst hp; exact one (fun T L X _ t => Jvm.Free.XT.lshr X.here K.1 rfl (hb K.2.2.2.1 hd) rfl) q
theorem lushr (K : Cx Z own nm bytes ml ret p s m meth c) {x : Int64} {y : Int32} (hd : decode bytes pc = .ok (.lushr, 1)) (hp : pc + 1 = pc') (q : Go p l e R s m args below meth c n0 h ce sl (mkF m pc' Ls (.long (XT.ushrL x y) :: S)) Q) : Go p l e R s m args below meth c n0 h ce sl (mkF m pc Ls (.int y :: .long x :: S)) Q := by
  subst hp; exact one (fun T L X _ t => Jvm.Free.XT.lushr X.here K.1 rfl (hb K.2.2.2.1 hd) rfl) q
theorem ldiv (K : Cx Z own nm bytes ml ret p s m meth c) {x y : Int64} (hd : decode bytes pc = .ok (.ldiv, 1)) (hy : y ≠ 0) (hp : pc + 1 = pc') (q : Go p l e R s m args below meth c n0 h ce sl (mkF m pc' Ls (.long (x / y) :: S)) Q) : Go p l e R s m args below meth c n0 h ce sl (mkF m pc Ls (.long y :: .long x :: S)) Q := by
  subst hp; exact one (fun T L X _ t => Jvm.Free.XT.ldiv X.here K.1 rfl (hb K.2.2.2.1 hd) rfl hy) q
theorem lrem (K : Cx Z own nm bytes ml ret p s m meth c) {x y : Int64} (hd : decode bytes pc = .ok (.lrem, 1)) (hy : y ≠ 0) (hp : pc + 1 = pc') (q : Go p l e R s m args below meth c n0 h ce sl (mkF m pc' Ls (.long (x % y) :: S)) Q) : Go p l e R s m args below meth c n0 h ce sl (mkF m pc Ls (.long y :: .long x :: S)) Q := by
  subst hp; rw [← lrem_mod] at q; exact one (fun T L X _ t => Jvm.Free.XT.lrem X.here K.1 rfl (hb K.2.2.2.1 hd) rfl hy) q
theorem lcmp (K : Cx Z own nm bytes ml ret p s m meth c) {x y : Int64} (hd : decode bytes pc = .ok (.lcmp, 1)) (hp : pc + 1 = pc') (q : Go p l e R s m args below meth c n0 h ce sl (mkF m pc' Ls (.int (XT.cmpL x y) :: S)) Q) : Go p l e R s m args below meth c n0 h ce sl (mkF m pc Ls (.long y :: .long x :: S)) Q := by
  subst hp; exact one (fun T L X _ t => Jvm.Free.XT.lcmp X.here K.1 rfl (hb K.2.2.2.1 hd) rfl) q
theorem i2l (K : Cx Z own nm bytes ml ret p s m meth c) {x : Int32} (hd : decode bytes pc = .ok (.i2l, 1)) (hp : pc + 1 = pc') (q : Go p l e R s m args below meth c n0 h ce sl (mkF m pc' Ls (.long x.toInt64 :: S)) Q) : Go p l e R s m args below meth c n0 h ce sl (mkF m pc Ls (.int x :: S)) Q := by
  subst hp; exact one (fun T L X _ t => Jvm.Free.XT.i2l X.here K.1 rfl (hb K.2.2.2.1 hd) rfl) q
theorem l2i (K : Cx Z own nm bytes ml ret p s m meth c) {x : Int64} (hd : decode bytes pc = .ok (.l2i, 1)) (hp : pc + 1 = pc') (q : Go p l e R s m args below meth c n0 h ce sl (mkF m pc' Ls (.int x.toInt32 :: S)) Q) : Go p l e R s m args below meth c n0 h ce sl (mkF m pc Ls (.long x :: S)) Q := by
  subst hp; exact one (fun T L X _ t => Jvm.Free.XT.l2i X.here K.1 rfl (hb K.2.2.2.1 hd) rfl) q
theorem i2c (K : Cx Z own nm bytes ml ret p s m meth c) {x : Int32} (hd : decode bytes pc = .ok (.i2c, 1)) (hp : pc + 1 = pc') (q : Go p l e R s m args below meth c n0 h ce sl (mkF m pc' Ls (.int x.toUInt32.toUInt16.toUInt32.toInt32 :: S)) Q) : Go p l e R s m args below meth c n0 h ce sl (mkF m pc Ls (.int x :: S)) Q := by
  subst hp; exact one (fun T L X _ t => Jvm.Free.XT.i2c X.here K.1 rfl (hb K.2.2.2.1 hd) rfl) q
theorem i2b (K : Cx Z own nm bytes ml ret p s m meth c) {x : Int32} (hd : decode bytes pc = .ok (.i2b, 1)) (hp : pc + 1 = pc') (q : Go p l e R s m args below meth c n0 h ce sl (mkF m pc' Ls (.int x.toInt8.toInt32 :: S)) Q) : Go p l e R s m args below meth c n0 h ce sl (mkF m pc Ls (.int x :: S)) Q := by
  subst hp; exact one (fun T L X _ t => Jvm.Free.XT.i2b X.here K.1 rfl (hb K.2.2.2.1 hd) rfl) q
theorem i2d (K : Cx Z own nm bytes ml ret p s m meth c) {x : Int32} (hd : decode bytes pc = .ok (.i2d, 1)) (hp : pc + 1 = pc') (q : Go p l e R s m args below meth c n0 h ce sl (mkF m pc' Ls (.double (FP.i2d x) :: S)) Q) : Go p l e R s m args below meth c n0 h ce sl (mkF m pc Ls (.int x :: S)) Q := by
  subst hp; exact one (fun T L X _ t => Jvm.Free.XS.i2dS X.here K.1 rfl (hb K.2.2.2.1 hd) rfl rfl) q
theorem l2d (K : Cx Z own nm bytes ml ret p s m meth c) {x : Int64} (hd : decode bytes pc = .ok (.l2d, 1)) (hp : pc + 1 = pc') (q : Go p l e R s m args below meth c n0 h ce sl (mkF m pc' Ls (.double (FP.l2d x) :: S)) Q) : Go p l e R s m args below meth c n0 h ce sl (mkF m pc Ls (.long x :: S)) Q := by
  subst hp; exact one (fun T L X _ t => Jvm.Free.XS.l2dS X.here K.1 rfl (hb K.2.2.2.1 hd) rfl rfl) q
theorem d2l (K : Cx Z own nm bytes ml ret p s m meth c) {x : UInt64} (hd : decode bytes pc = .ok (.d2l, 1)) (hp : pc + 1 = pc') (q : Go p l e R s m args below meth c n0 h ce sl (mkF m pc' Ls (.long (FP.d2l x) :: S)) Q) : Go p l e R s m args below meth c n0 h ce sl (mkF m pc Ls (.double x :: S)) Q := by
  subst hp; exact one (fun T L X _ t => Jvm.Free.XS.d2lS X.here K.1 rfl (hb K.2.2.2.1 hd) rfl rfl) q
theorem d2i (K : Cx Z own nm bytes ml ret p s m meth c) {x : UInt64} (hd : decode bytes pc = .ok (.d2i, 1)) (hp : pc + 1 = pc') (q : Go p l e R s m args below meth c n0 h ce sl (mkF m pc' Ls (.int (FP.d2i x) :: S)) Q) : Go p l e R s m args below meth c n0 h ce sl (mkF m pc Ls (.double x :: S)) Q := by
  subst hp; exact one (fun T L X _ t => Jvm.Free.XS.d2iS X.here K.1 rfl (hb K.2.2.2.1 hd) rfl rfl) q
theorem dadd (K : Cx Z own nm bytes ml ret p s m meth c) {x y : UInt64} (hd : decode bytes pc = .ok (.dadd, 1)) (hn : Jvm.Free.Fl.NoNaN64 (FP.dadd x y)) (hp : pc + 1 = pc') (q : Go p l e R s m args below meth c n0 h ce sl (mkF m pc' Ls (.double (FP.dadd x y) :: S)) Q) : Go p l e R s m args below meth c n0 h ce sl (mkF m pc Ls (.double y :: .double x :: S)) Q := by
  subst hp; exact one (fun T L X _ t => Jvm.Free.XS.daddS X.here K.1 rfl (hb K.2.2.2.1 hd) rfl hn rfl) q
theorem dsub (K : Cx Z own nm bytes ml ret p s m meth c) {x y : UInt64} (hd : decode bytes pc = .ok (.dsub, 1)) (hn : Jvm.Free.Fl.NoNaN64 (FP.dsub x y)) (hp : pc + 1 = pc') (q : Go p l e R s m args below meth c n0 h ce sl (mkF m pc' Ls (.double (FP.dsub x y) :: S)) Q) : Go p l e R s m args below meth c n0 h ce sl (mkF m pc Ls (.double y :: .double x :: S)) Q := by
  subst hp; exact one (fun T L X _ t => Jvm.Free.XS.dsubS X.here K.1 rfl (hb K.2.2.2.1 hd) rfl hn rfl) q
theorem dmul (K : Cx Z own nm bytes ml ret p s m meth c) {x y : UInt64} (hd : decode bytes pc = .ok (.dmul, 1)) (hn : Jvm.Free.Fl.NoNaN64 (FP.dmul x y)) (hp : pc + 1 = pc') (q : Go p l e R s m args below meth c n0 h ce sl (mkF m pc' Ls (.double (FP.dmul x y) :: S)) Q) : Go p l e R s m args below meth c n0 h ce sl (mkF m pc Ls (.double y :: .double x :: S)) Q := by
  subst hp; exact one (fun T L X _ t => Jvm.Free.XS.dmulS X.here K.1 rfl (hb K.2.2.2.1 hd) rfl hn rfl) q
theorem ddiv (K : Cx Z own nm bytes ml ret p s m meth c) {x y : UInt64} (hd : decode bytes pc = .ok (.ddiv, 1)) (hn : Jvm.Free.Fl.NoNaN64 (FP.ddiv x y)) (hp : pc + 1 = pc') (q : Go p l e R s m args below meth c n0 h ce sl (mkF m pc' Ls (.double (FP.ddiv x y) :: S)) Q) : Go p l e R s m args below meth c n0 h ce sl (mkF m pc Ls (.double y :: .double x :: S)) Q := by
  subst hp; exact one (fun T L X _ t => Jvm.Free.XS.ddivS X.here K.1 rfl (hb K.2.2.2.1 hd) rfl hn rfl) q
theorem dcmp (K : Cx Z own nm bytes ml ret p s m meth c) {o : CmpOp} {x y : UInt64} (hd : decode bytes pc = .ok (.dcmp o, 1)) (hp : pc + 1 = pc') (q : Go p l e R s m args below meth c n0 h ce sl (mkF m pc' Ls (.int (cmpValue (FP.dcmp x y) o) :: S)) Q) : Go p l e R s m args below meth c n0 h ce sl (mkF m pc Ls (.double y :: .double x :: S)) Q := by
  subst hp; exact one (fun T L X _ t => Jvm.Free.XS.dcmpS X.here K.1 rfl (hb K.2.2.2.1 hd) rfl rfl) q
theorem dup (K : Cx Z own nm bytes ml ret p s m meth c) {x : Value} (hd : decode bytes pc = .ok (.dup, 1)) (hc : x.category = 1) (hp : pc + 1 = pc') (q : Go p l e R s m args below meth c n0 h ce sl (mkF m pc' Ls (x :: x :: S)) Q) : Go p l e R s m args below meth c n0 h ce sl (mkF m pc Ls (x :: S)) Q := by
  subst hp; exact one (fun T L X _ t => Jvm.Free.XS.dup X.here K.1 rfl (hb K.2.2.2.1 hd) rfl hc) q
theorem pop (K : Cx Z own nm bytes ml ret p s m meth c) {x : Value} (hd : decode bytes pc = .ok (.pop, 1)) (hc : x.category = 1) (hp : pc + 1 = pc') (q : Go p l e R s m args below meth c n0 h ce sl (mkF m pc' Ls S) Q) : Go p l e R s m args below meth c n0 h ce sl (mkF m pc Ls (x :: S)) Q := by
  subst hp; exact one (fun T L X _ t => Jvm.Free.XT.pop X.here K.1 rfl (hb K.2.2.2.1 hd) rfl hc) q
theorem dupX1 (K : Cx Z own nm bytes ml ret p s m meth c) {x y : Value} (hd : decode bytes pc = .ok (.dup_x1, 1)) (hc : x.category = 1) (hc' : y.category = 1) (hp : pc + 1 = pc') (q : Go p l e R s m args below meth c n0 h ce sl (mkF m pc' Ls (x :: y :: x :: S)) Q) : Go p l e R s m args below meth c n0 h ce sl (mkF m pc Ls (x :: y :: S)) Q := by
  subst hp; exact one (fun T L X _ t => Jvm.Free.XT.dupX1 X.here K.1 rfl (hb K.2.2.2.1 hd) rfl hc hc') q
theorem dup2 (K : Cx Z own nm bytes ml ret p s m meth c) {x y : Value} (hd : decode bytes pc = .ok (.dup2, 1)) (hc : x.category = 1) (hc' : y.category = 1) (hp : pc + 1 = pc') (q : Go p l e R s m args below meth c n0 h ce sl (mkF m pc' Ls (x :: y :: x :: y :: S)) Q) : Go p l e R s m args below meth c n0 h ce sl (mkF m pc Ls (x :: y :: S)) Q := by
  subst hp; exact one (fun T L X _ t => Jvm.Free.XT.dup2 X.here K.1 rfl (hb K.2.2.2.1 hd) rfl hc hc') q
theorem dup2L (K : Cx Z own nm bytes ml ret p s m meth c) {x : Int64} (hd : decode bytes pc = .ok (.dup2, 1)) (hp : pc + 1 = pc') (q : Go p l e R s m args below meth c n0 h ce sl (mkF m pc' Ls (.long x :: .long x :: S)) Q) : Go p l e R s m args below meth c n0 h ce sl (mkF m pc Ls (.long x :: S)) Q := by
  subst hp; exact one (fun T L X _ t => Jvm.Free.XT.dup2L X.here K.1 rfl (hb K.2.2.2.1 hd) rfl) q
theorem goto' (K : Cx Z own nm bytes ml ret p s m meth c) {o : Int} (hd : decode bytes pc = .ok (.goto o, 3)) (ho : 0 ≤ (pc : Int) + o) (hp : ((pc : Int) + o).toNat = pc') (q : Go p l e R s m args below meth c n0 h ce sl (mkF m pc' Ls S) Q) : Go p l e R s m args below meth c n0 h ce sl (mkF m pc Ls S) Q :=
  one (fun T L X _ t => Jvm.Free.XS.goto X.here K.1 rfl rfl (hb K.2.2.2.1 hd) ho hp) q
theorem ifY (K : Cx Z own nm bytes ml ret p s m meth c) {cd : ClassFile.Cond} {o : Int} {x : Int32} (hd : decode bytes pc = .ok (.ifCond cd o, 3)) (hc : ifCond.holds cd x = true) (ho : 0 ≤ (pc : Int) + o) (hp : ((pc : Int) + o).toNat = pc') (q : Go p l e R s m args below meth c n0 h ce sl (mkF m pc' Ls S) Q) : Go p l e R s m args below meth c n0 h ce sl (mkF m pc Ls (.int x :: S)) Q :=
  one (fun T L X _ t => Jvm.Free.XS.ifYes X.here K.1 rfl rfl (hb K.2.2.2.1 hd) rfl hc ho hp) q
theorem ifN (K : Cx Z own nm bytes ml ret p s m meth c) {cd : ClassFile.Cond} {o : Int} {x : Int32} (hd : decode bytes pc = .ok (.ifCond cd o, 3)) (hc : ifCond.holds cd x = false) (hp : pc + 3 = pc') (q : Go p l e R s m args below meth c n0 h ce sl (mkF m pc' Ls S) Q) : Go p l e R s m args below meth c n0 h ce sl (mkF m pc Ls (.int x :: S)) Q := by
  subst hp; exact one (fun T L X _ t => Jvm.Free.XS.ifNo X.here K.1 rfl (hb K.2.2.2.1 hd) rfl hc) q
theorem icY (K : Cx Z own nm bytes ml ret p s m meth c) {cd : ClassFile.Cond} {o : Int} {x y : Int32} (hd : decode bytes pc = .ok (.if_icmp cd o, 3)) (hc : if_icmp.holds cd x y = true) (ho : 0 ≤ (pc : Int) + o) (hp : ((pc : Int) + o).toNat = pc') (q : Go p l e R s m args below meth c n0 h ce sl (mkF m pc' Ls S) Q) : Go p l e R s m args below meth c n0 h ce sl (mkF m pc Ls (.int y :: .int x :: S)) Q :=
  one (fun T L X _ t => Jvm.Free.XS.icmpYes X.here K.1 rfl rfl (hb K.2.2.2.1 hd) rfl hc ho hp) q
theorem icN (K : Cx Z own nm bytes ml ret p s m meth c) {cd : ClassFile.Cond} {o : Int} {x y : Int32} (hd : decode bytes pc = .ok (.if_icmp cd o, 3)) (hc : if_icmp.holds cd x y = false) (hp : pc + 3 = pc') (q : Go p l e R s m args below meth c n0 h ce sl (mkF m pc' Ls S) Q) : Go p l e R s m args below meth c n0 h ce sl (mkF m pc Ls (.int y :: .int x :: S)) Q := by
  subst hp; exact one (fun T L X _ t => Jvm.Free.XS.icmpNo X.here K.1 rfl (hb K.2.2.2.1 hd) rfl hc) q
theorem nullY (K : Cx Z own nm bytes ml ret p s m meth c) {o : Int} (hd : decode bytes pc = .ok (.ifnull o, 3)) (ho : 0 ≤ (pc : Int) + o) (hp : ((pc : Int) + o).toNat = pc') (q : Go p l e R s m args below meth c n0 h ce sl (mkF m pc' Ls S) Q) : Go p l e R s m args below meth c n0 h ce sl (mkF m pc Ls (.null :: S)) Q :=
  one (fun T L X _ t => Jvm.Free.XS.ifnullYes X.here K.1 rfl rfl (hb K.2.2.2.1 hd) rfl ho hp) q
theorem nullN (K : Cx Z own nm bytes ml ret p s m meth c) {o : Int} {b : Addr} (hd : decode bytes pc = .ok (.ifnull o, 3)) (hp : pc + 3 = pc') (q : Go p l e R s m args below meth c n0 h ce sl (mkF m pc' Ls S) Q) : Go p l e R s m args below meth c n0 h ce sl (mkF m pc Ls (.ref b :: S)) Q := by
  subst hp; exact one (fun T L X _ t => Jvm.Free.XS.ifnullNo X.here K.1 rfl (hb K.2.2.2.1 hd) rfl) q
theorem nonnullY (K : Cx Z own nm bytes ml ret p s m meth c) {o : Int} {b : Addr} (hd : decode bytes pc = .ok (.ifnonnull o, 3)) (ho : 0 ≤ (pc : Int) + o) (hp : ((pc : Int) + o).toNat = pc') (q : Go p l e R s m args below meth c n0 h ce sl (mkF m pc' Ls S) Q) : Go p l e R s m args below meth c n0 h ce sl (mkF m pc Ls (.ref b :: S)) Q :=
  one (fun T L X _ t => Jvm.Free.XT.ifnonnullYes X.here K.1 rfl rfl (hb K.2.2.2.1 hd) rfl ho hp) q
theorem nonnullN (K : Cx Z own nm bytes ml ret p s m meth c) {o : Int} (hd : decode bytes pc = .ok (.ifnonnull o, 3)) (hp : pc + 3 = pc') (q : Go p l e R s m args below meth c n0 h ce sl (mkF m pc' Ls S) Q) : Go p l e R s m args below meth c n0 h ce sl (mkF m pc Ls (.null :: S)) Q := by
  subst hp; exact one (fun T L X _ t => Jvm.Free.XT.ifnonnullNo X.here K.1 rfl (hb K.2.2.2.1 hd) rfl) q
theorem acY (K : Cx Z own nm bytes ml ret p s m meth c) {cd : ClassFile.ACond} {o : Int} {x y : Value} (hd : decode bytes pc = .ok (.if_acmp cd o, 3)) (hx : x.isRef = true) (hy : y.isRef = true) (hc : XT.acmp cd x y = true) (ho : 0 ≤ (pc : Int) + o) (hp : ((pc : Int) + o).toNat = pc') (q : Go p l e R s m args below meth c n0 h ce sl (mkF m pc' Ls S) Q) : Go p l e R s m args below meth c n0 h ce sl (mkF m pc Ls (y :: x :: S)) Q :=
  one (fun T L X _ t => Jvm.Free.XT.acmpYes X.here K.1 rfl rfl (hb K.2.2.2.1 hd) rfl hx hy hc ho hp) q
theorem acN (K : Cx Z own nm bytes ml ret p s m meth c) {cd : ClassFile.ACond} {o : Int} {x y : Value} (hd : decode bytes pc = .ok (.if_acmp cd o, 3)) (hx : x.isRef = true) (hy : y.isRef = true) (hc : XT.acmp cd x y = false) (hp : pc + 3 = pc') (q : Go p l e R s m args below meth c n0 h ce sl (mkF m pc' Ls S) Q) : Go p l e R s m args below meth c n0 h ce sl (mkF m pc Ls (y :: x :: S)) Q := by
  subst hp; exact one (fun T L X _ t => Jvm.Free.XT.acmpNo X.here K.1 rfl (hb K.2.2.2.1 hd) rfl hx hy hc) q
theorem ldcI (K : Cx Z own nm bytes ml ret p s m meth c) {i : Nat} {v : Int32} (w : (Cond.constant own i v).before a0 Z = true) (hd : decode bytes pc = .ok (.ldc i, 2)) (hp : pc + 2 = pc') (q : Go p l e R s m args below meth c n0 h ce sl (mkF m pc' Ls (.int v :: S)) Q) : Go p l e R s m args below meth c n0 h ce sl (mkF m pc Ls S) Q := by
  subst hp; exact one (fun T L X _ t => X.ldcI K.1 K.2.2.1 (mvT K.2.1 w) rfl (hb K.2.2.2.1 hd)) q
theorem ldcWI (K : Cx Z own nm bytes ml ret p s m meth c) {i : Nat} {v : Int32} (w : (Cond.constant own i v).before a0 Z = true) (hd : decode bytes pc = .ok (.ldc_w i, 3)) (hp : pc + 3 = pc') (q : Go p l e R s m args below meth c n0 h ce sl (mkF m pc' Ls (.int v :: S)) Q) : Go p l e R s m args below meth c n0 h ce sl (mkF m pc Ls S) Q := by
  subst hp; exact one (fun T L X _ t => X.ldcWI K.1 K.2.2.1 (mvT K.2.1 w) rfl (hb K.2.2.2.1 hd)) q
theorem ldc2J (K : Cx Z own nm bytes ml ret p s m meth c) {i : Nat} {v : Int64} (w : (Cond.constantLong own i v).before a0 Z = true) (hd : decode bytes pc = .ok (.ldc2_w i, 3)) (hp : pc + 3 = pc') (q : Go p l e R s m args below meth c n0 h ce sl (mkF m pc' Ls (.long v :: S)) Q) : Go p l e R s m args below meth c n0 h ce sl (mkF m pc Ls S) Q := by
  subst hp; exact one (fun T L X _ t => X.ldc2J K.1 K.2.2.1 (mvT K.2.1 w) rfl (hb K.2.2.2.1 hd)) q
theorem ldc2D (K : Cx Z own nm bytes ml ret p s m meth c) {i : Nat} {v : UInt64} (w : (Cond.constantDouble own i v).before a0 Z = true) (hd : decode bytes pc = .ok (.ldc2_w i, 3)) (hp : pc + 3 = pc') (q : Go p l e R s m args below meth c n0 h ce sl (mkF m pc' Ls (.double v :: S)) Q) : Go p l e R s m args below meth c n0 h ce sl (mkF m pc Ls S) Q := by
  subst hp; exact one (fun T L X _ t => X.ldc2DoubleC K.1 K.2.2.1 (mvT (args := args) K.2.1 w) (g := mkF m pc Ls S) rfl (hb K.2.2.2.1 hd) t) q
theorem getf (K : Cx Z own nm bytes ml ret p s m meth c) {i : Nat} {R0 O n d : String} {a : Addr} {v : Value} (w : (Cond.fieldLink own i R0 n d).before a0 Z = true) (via : Via Z R0 O n d) (F : Fld Z h a O n d v) (hd : decode bytes pc = .ok (.getfield i, 3)) (hp : pc + 3 = pc') (q : Go p l e R s m args below meth c n0 h ce sl (mkF m pc' Ls (v :: S)) Q) : Go p l e R s m args below meth c n0 h ce sl (mkF m pc Ls (.ref a :: S)) Q := by
  subst hp; exact oneT (fun T L X eT => getF X K.1 K.2.1 K.2.2.1 (host := "") (Or.inl w) via eT F rfl rfl (hb K.2.2.2.1 hd)) q
theorem getfN (K : Cx Z own nm bytes ml ret p s m meth c) {i : Nat} {R0 O n d host : String} {a : Addr} {v : Value} (w : (Cond.fieldLinkNest own i R0 n d host).before a0 Z = true) (via : Via Z R0 O n d) (F : Fld Z h a O n d v) (hd : decode bytes pc = .ok (.getfield i, 3)) (hp : pc + 3 = pc') (q : Go p l e R s m args below meth c n0 h ce sl (mkF m pc' Ls (v :: S)) Q) : Go p l e R s m args below meth c n0 h ce sl (mkF m pc Ls (.ref a :: S)) Q := by
  subst hp; exact oneT (fun T L X eT => getF X K.1 K.2.1 K.2.2.1 (Or.inr w) via eT F rfl rfl (hb K.2.2.2.1 hd)) q
theorem getfR (K : Cx Z own nm bytes ml ret p s m meth c) {i : Nat} {O n d : String} {a : Addr} {v : Value} (w : (Cond.fieldRef own i O n d).before a0 Z = true) (F : Fld Z h a O n d v) (hd : decode bytes pc = .ok (.getfield i, 3)) (hp : pc + 3 = pc') (q : Go p l e R s m args below meth c n0 h ce sl (mkF m pc' Ls (v :: S)) Q) : Go p l e R s m args below meth c n0 h ce sl (mkF m pc Ls (.ref a :: S)) Q := by
  subst hp
  refine one (fun T L X eT t k => ?_) q
  have hT : Z.Warmed39 T.vm := wtrans K.2.1 X.warmed
  obtain ⟨c1, k1, i1, f1, g1, g2⟩ := Cond.fieldRef_spec (s := Z.setVm T.vm) (cur := m.cls) (by show T.vm.findClass own = _; rw [X.warmed.alike.findClass]; exact K.2.2.1) (Cond.fieldRef_warmed39 hT w)
  obtain ⟨cell, cf, kf, i2, f2, h1, h2, h3, h4, -, -, h7⟩ := F
  obtain ⟨k', hi, -⟩ := State.fieldFound?_setVm (s := Z) hT.alike h2
  cases g1.symm.trans hi
  exact (X.getfieldR K.1 (g := mkF m pc Ls (.ref a :: S)) rfl g2 h3 rfl (by rw [eT]; exact h1) h4 h7 (hb K.2.2.2.1 hd) (Steps.refl _)).trans k
theorem gets (K : Cx Z own nm bytes ml ret p s m meth c) {i : Nat} {R0 O n d : String} {v : Value} (w : (Cond.fieldLink own i R0 n d).before a0 Z = true) (via : Via Z R0 O n d) (F : Sta Z h O n d v) (hd : decode bytes pc = .ok (.getstatic i, 3)) (hp : pc + 3 = pc') (q : Go p l e R s m args below meth c n0 h ce sl (mkF m pc' Ls (v :: S)) Q) : Go p l e R s m args below meth c n0 h ce sl (mkF m pc Ls S) Q := by
  subst hp; exact oneT (fun T L X eT => getS X K.1 K.2.1 K.2.2.1 (host := "") w via eT F rfl (hb K.2.2.2.1 hd)) q
theorem putf (K : Cx Z own nm bytes ml ret p s m meth c) {i kk : Nat} {R0 O n d C : String} {ty : FieldType} {a : Addr} {v old : Value} (w : (Cond.fieldLink own i R0 n d).before a0 Z = true) (via : Via Z R0 O n d) (F : Fld Z h a O n d old) (E : Exa Z h a C) (L : (Cond.lays C O n d).before a0 Z = true ∨ ((Cond.laysFinal C O n d).before a0 Z = true ∧ own = O ∧ nm = "<init>")) (wi : (Cond.instantiable C kk).before a0 Z = true) (hty : parseFieldDescriptor d = some ty) (hn : narrow ty v = v) (hf : fits ty v = true) (ga : n0 ≤ a) (hd : decode bytes pc = .ok (.putfield i, 3)) (hp : pc + 3 = pc') (q : ∀ h', Wr h h' a (Jvm.RoadKit.slotOf Z O n d) v → Go p l e R s m args below meth c n0 h' ce sl (mkF m pc' Ls S) Q) : Go p l e R s m args below meth c n0 h ce sl (mkF m pc Ls (v :: .ref a :: S)) Q := by
  subst hp
  intro T L0 X N eT
  obtain ⟨T', h', X', e', W, st⟩ := putF X K.1 K.2.1 K.2.2.1 (host := "") (Or.inl w) via eT F E (L.imp id fun ⟨a, b, c⟩ => ⟨a, b, K.2.2.2.2.2.2.2.trans c⟩) wi hty hn hf (g := mkF m pc Ls (v :: .ref a :: S)) rfl rfl (hb K.2.2.2.1 hd)
  obtain ⟨s₂, u, L', a1, r⟩ := q h' W T' _ X' (Fr.snoc X' N ga) e'
  exact ⟨s₂, u, L', st _ a1, r⟩
theorem newObj (K : Cx Z own nm bytes ml ret p s m meth c) {i n : Nat} {C : String} (w : (Cond.classLink own i C).before a0 Z = true) (wi : (Cond.instantiable C n).before a0 Z = true) (wz : (Cond.initialized C).before a0 Z = true) (hd : decode bytes pc = .ok (.new i, 3)) (hc : ce + 1 ≤ R.cells) (hl : sl + n ≤ R.slots) (hp : pc + 3 = pc') (q : ∀ h' x, x = h.size → Ext h h' → Exa Z h' x C → (∀ {O nm d : String} {ty : FieldType}, Laid Z a0 C O nm d → parseFieldDescriptor d = some ty → Fld Z h' x O nm d (defaultValue ty)) → Go p l e R s m args below meth c n0 h' (ce + 1) (sl + n) (mkF m pc' Ls (.ref x :: S)) Q) : Go p l e R s m args below meth c n0 h ce sl (mkF m pc Ls S) Q := by
  subst hp
  intro T L0 X N eT
  obtain ⟨T', h', X', e', E, A, D, -, st⟩ := newO X K.1 K.2.1 K.2.2.1 w wi wz eT (g := mkF m pc Ls S) rfl (hb K.2.2.2.1 hd) hc hl
  obtain ⟨s₂, u, L', a1, r⟩ := q h' h.size rfl E A D T' _ X' N e'
  exact ⟨s₂, u, L', st _ a1, r⟩
theorem initObj (K : Cx Z own nm bytes ml ret p s m meth c) {i : Nat} {a : Addr} (w1 : (Cond.methodLink own i Lib.objectInit).before a0 Z = true) (w2 : (Cond.instanceMethod Lib.objectInit).before a0 Z = true) (w3 : (Cond.code Lib.objectInit ⟨#[0xb1]⟩ 1 none).before a0 Z = true) (hd : decode bytes pc = .ok (.invokespecial i, 3)) (hz : Ls.size = ml) (hf : 1 ≤ R.frames) (hW : (S.map fun v => v.category).sum + 12 ≤ R.locals) (hp : pc + 3 = pc') (q : Go p l e R s m args below meth c n0 h ce sl (mkF m pc' Ls S) Q) : Go p l e R s m args below meth c n0 h ce sl (mkF m pc Ls (.ref a :: S)) Q := by
  subst hp; exact oneT (fun T L X eT => initO X K.1 K.2.1 K.2.2.1 w1 w2 w3 eT rfl (hz.trans K.2.2.2.2.1.symm) rfl (hb K.2.2.2.1 hd) hf (W := (S.map fun v => v.category).sum) (by show 2 * 0 + _ ≤ _; omega) hW) q
/-- a private method's own 'selects' -/
theorem priv_sel {s : State} {args : Array Value} {y : MethodName} {kk : Nat} (wi : (Cond.instantiable y.cls kk).before args s = true) (hpriv : s.PrivateAt y) (hinst : (Cond.instanceMethod y).before args s = true) (hy : y.cls ≠ "java/lang/invoke/MethodHandle" ∧ y.cls ≠ "java/lang/invoke/VarHandle") : (Cond.selects y.cls y y).before args s = true := by
  obtain ⟨c2, k2, i1, i2, i3, i4⟩ := Cond.instantiable_spec wi
  exact selects_self_of_private i1 i2 (Bool.or_eq_false_iff.mp i4.1).1 hpriv hinst hy
/-! calls -/
theorem back {W len : Nat} {y : MethodName} {by' : ByteArray} {ml' : Nat} {ret' : Option FieldType} {rm : Room} {as' : Array Value} {Q' : Option Value → Heap → Prop} (K : Cx Z own nm bytes ml ret p s m meth c) (C : Ctr l Z y by' ml' ret' [] rm n0 as' h Q') (wc : (Cond.code y by' ml' ret').before a0 Z = true) (wz : (Cond.initialized y.cls).before a0 Z = true) (hf : rm.frames + 1 ≤ R.frames) (hl : W + (ml' + 11) + rm.locals ≤ R.locals) :
    Back l R p e below s args y len W (fun A a => a = as' ∧ A.U.heap = h ∧ A.cells + rm.cells ≤ R.cells ∧ A.slots + rm.slots ≤ R.slots) (fun A _ v B => ∃ L, (Q' v B.U.heap ∧ Fr n0 L) ∧ B.locs = A.locs ++ L ∧ B.cells = A.cells + rm.cells ∧ B.slots = A.slots + rm.slots) :=
  backOf (Q := fun v h L => Q' v h ∧ Fr n0 L) C K.2.1 wc wz hf hl
theorem callStatic (K : Cx Z own nm bytes ml ret p s m meth c) {i : Nat} {y : MethodName} {by' : ByteArray} {ml' : Nat} {ret' : Option FieldType} {rm : Room} {Q' : Option Value → Heap → Prop}  {argsL : List Value} (w1 : (Cond.methodLink own i y).before a0 Z = true) (w2 : (Cond.static y).before a0 Z = true) (wz : (Cond.initialized y.cls).before a0 Z = true) (wc : (Cond.code y by' ml' ret').before a0 Z = true) (hy : y.cls ≠ "java/lang/invoke/MethodHandle" ∧ y.cls ≠ "java/lang/invoke/VarHandle") (Cc : Ctr l Z y by' ml' ret' [] rm n0 argsL.toArray h Q') (hlen : ∀ sig, parseMethodDescriptor y.desc = some sig → argsL.length = sig.parameters.length) (hd : decode bytes pc = .ok (.invokestatic i, 3)) (hz : Ls.size = ml) (hf : rm.frames + 1 ≤ R.frames) (hW : (S.map fun v => v.category).sum + (ml' + 11) + rm.locals ≤ R.locals) (hc : ce + rm.cells ≤ R.cells) (hsl : sl + rm.slots ≤ R.slots) {st : List Value} (hst : st = (argsL.reverse ++ S)) (hp : pc + 3 = pc') (q : ∀ v h', Q' v h' → Go p l e R s m args below meth c n0 h' (ce + rm.cells) (sl + rm.slots) (mkF m pc' Ls (v.toList ++ S)) Q) : Go p l e R s m args below meth c n0 h ce sl (mkF m pc Ls st) Q := by
  subst hp hst
  intro T L0 X N eT
  obtain ⟨v, _, ⟨T', L1, k1, n1⟩, -, X', ⟨Lc, hQ, l', y', z'⟩, st'⟩ := Jvm.LawKit.callS X K.1 K.2.2.1 (mvT K.2.1 w1) (mvT K.2.1 w2) (mvT K.2.1 wz) (mvT K.2.1 wc) hy (back (W := (S.map fun v => v.category).sum) K Cc wc wz hf hW) (g := mkF m pc Ls (argsL.reverse ++ S)) rfl (hz.trans K.2.2.2.2.1.symm) (argsL := argsL) (rest := S) hlen rfl (by show 2 * 0 + _ ≤ _; omega) (hb K.2.2.2.1 hd) (fun _ _ => ⟨rfl, eT, hc, hsl⟩)
  dsimp only [Pt.U, Pt.locs, Pt.cells, Pt.slots] at X' l' y' z' st'
  subst l' y' z'
  obtain ⟨s₂, u, L', a1, r⟩ := q v _ hQ.1 T' _ X' (Fr.app N hQ.2) rfl
  exact ⟨s₂, u, L', st' _ a1, r⟩
theorem callInit (K : Cx Z own nm bytes ml ret p s m meth c) {i : Nat} {y : MethodName} {by' : ByteArray} {ml' : Nat} {ret' : Option FieldType} {rm : Room} {Q' : Option Value → Heap → Prop} {b : Addr} {argsL : List Value} (hy1 : y.name = "<init>") (w1 : (Cond.methodLink own i y).before a0 Z = true) (w2 : (Cond.instanceMethod y).before a0 Z = true) (wz : (Cond.initialized y.cls).before a0 Z = true) (wc : (Cond.code y by' ml' none).before a0 Z = true) (hr : ret' = none) (hy : y.cls ≠ "java/lang/invoke/MethodHandle" ∧ y.cls ≠ "java/lang/invoke/VarHandle") (Cc : Ctr l Z y by' ml' ret' [] rm n0 (.ref b :: argsL).toArray h Q') (hlen : ∀ sig, parseMethodDescriptor y.desc = some sig → argsL.length = sig.parameters.length) (hd : decode bytes pc = .ok (.invokespecial i, 3)) (hz : Ls.size = ml) (hf : rm.frames + 1 ≤ R.frames) (hW : (S.map fun v => v.category).sum + (ml' + 11) + rm.locals ≤ R.locals) (hc : ce + rm.cells ≤ R.cells) (hsl : sl + rm.slots ≤ R.slots) {st : List Value} (hst : st = (argsL.reverse ++ .ref b :: S)) (hp : pc + 3 = pc') (q : ∀ v h', Q' v h' → Go p l e R s m args below meth c n0 h' (ce + rm.cells) (sl + rm.slots) (mkF m pc' Ls (v.toList ++ S)) Q) : Go p l e R s m args below meth c n0 h ce sl (mkF m pc Ls st) Q := by
  subst hp hst
  intro T L0 X N eT
  subst hr
  obtain ⟨v, _, ⟨T', L1, k1, n1⟩, -, X', ⟨Lc, hQ, l', y', z'⟩, st'⟩ := X.specialBack K.1 hy1 K.2.2.1 (mvT K.2.1 w1) (mvT K.2.1 w2) (mvT K.2.1 wc) hy (back (W := (S.map fun v => v.category).sum) K Cc wc wz hf hW) (g := mkF m pc Ls (argsL.reverse ++ .ref b :: S)) rfl (hz.trans K.2.2.2.2.1.symm) (Steps.refl _) (a := b) (argsL := argsL) (rest := S) hlen rfl (by show 2 * 0 + _ ≤ _; omega) (hb K.2.2.2.1 hd) (fun _ _ => ⟨rfl, eT, hc, hsl⟩)
  dsimp only [Pt.U, Pt.locs, Pt.cells, Pt.slots] at X' l' y' z' st'
  subst l' y' z'
  obtain ⟨s₂, u, L', a1, r⟩ := q v _ hQ.1 T' _ X' (Fr.app N hQ.2) rfl
  exact ⟨s₂, u, L', st'.trans a1, r⟩
theorem callInitNest (K : Cx Z own nm bytes ml ret p s m meth c) {i : Nat} {y : MethodName} {by' : ByteArray} {ml' : Nat} {ret' : Option FieldType} {rm : Room} {Q' : Option Value → Heap → Prop} {b : Addr} {argsL : List Value} {host : String} (hy1 : y.name = "<init>") (w1 : (Cond.methodLinkNest own i y host).before a0 Z = true) (w2 : (Cond.instanceMethod y).before a0 Z = true) (wz : (Cond.initialized y.cls).before a0 Z = true) (wc : (Cond.code y by' ml' none).before a0 Z = true) (hr : ret' = none) (hy : y.cls ≠ "java/lang/invoke/MethodHandle" ∧ y.cls ≠ "java/lang/invoke/VarHandle") (Cc : Ctr l Z y by' ml' ret' [] rm n0 (.ref b :: argsL).toArray h Q') (hlen : ∀ sig, parseMethodDescriptor y.desc = some sig → argsL.length = sig.parameters.length) (hd : decode bytes pc = .ok (.invokespecial i, 3)) (hz : Ls.size = ml) (hf : rm.frames + 1 ≤ R.frames) (hW : (S.map fun v => v.category).sum + (ml' + 11) + rm.locals ≤ R.locals) (hc : ce + rm.cells ≤ R.cells) (hsl : sl + rm.slots ≤ R.slots) {st : List Value} (hst : st = (argsL.reverse ++ .ref b :: S)) (hp : pc + 3 = pc') (q : ∀ v h', Q' v h' → Go p l e R s m args below meth c n0 h' (ce + rm.cells) (sl + rm.slots) (mkF m pc' Ls (v.toList ++ S)) Q) : Go p l e R s m args below meth c n0 h ce sl (mkF m pc Ls st) Q := by
  subst hp hst
  intro T L0 X N eT
  subst hr
  obtain ⟨v, _, ⟨T', L1, k1, n1⟩, -, X', ⟨Lc, hQ, l', y', z'⟩, st'⟩ := X.specialBackNest K.1 hy1 K.2.2.1 (Cond.methodLinkNest_wide K.2.1 w1 :) (mvT K.2.1 w2) (mvT K.2.1 wc) hy (back (W := (S.map fun v => v.category).sum) K Cc wc wz hf hW) (g := mkF m pc Ls (argsL.reverse ++ .ref b :: S)) rfl (hz.trans K.2.2.2.2.1.symm) (Steps.refl _) (a := b) (argsL := argsL) (rest := S) hlen rfl (by show 2 * 0 + _ ≤ _; omega) (hb K.2.2.2.1 hd) (fun _ _ => ⟨rfl, eT, hc, hsl⟩)
  dsimp only [Pt.U, Pt.locs, Pt.cells, Pt.slots] at X' l' y' z' st'
  subst l' y' z'
  obtain ⟨s₂, u, L', a1, r⟩ := q v _ hQ.1 T' _ X' (Fr.app N hQ.2) rfl
  exact ⟨s₂, u, L', st'.trans a1, r⟩
theorem callVirt (K : Cx Z own nm bytes ml ret p s m meth c) {i : Nat} {y : MethodName} {by' : ByteArray} {ml' : Nat} {ret' : Option FieldType} {rm : Room} {Q' : Option Value → Heap → Prop} {b : Addr} {argsL : List Value} {C : String} (w1 : (Cond.methodLink own i y).before a0 Z = true) (w2 : (Cond.declares y).before a0 Z = true) (w3 : (Cond.selects C y y).before a0 Z = true) (w4 : (Cond.instanceMethod y).before a0 Z = true) (wz : (Cond.initialized y.cls).before a0 Z = true) (wc : (Cond.code y by' ml' ret').before a0 Z = true) (hy : y.cls ≠ "java/lang/invoke/MethodHandle" ∧ y.cls ≠ "java/lang/invoke/VarHandle") (E : Exa Z h b C) (Cc : Ctr l Z y by' ml' ret' [] rm n0 (.ref b :: argsL).toArray h Q') (hlen : ∀ sig, parseMethodDescriptor y.desc = some sig → argsL.length = sig.parameters.length) (hd : decode bytes pc = .ok (.invokevirtual i, 3)) (hz : Ls.size = ml) (hf : rm.frames + 1 ≤ R.frames) (hW : (S.map fun v => v.category).sum + (ml' + 11) + rm.locals ≤ R.locals) (hc : ce + rm.cells ≤ R.cells) (hsl : sl + rm.slots ≤ R.slots) {st : List Value} (hst : st = (argsL.reverse ++ .ref b :: S)) (hp : pc + 3 = pc') (q : ∀ v h', Q' v h' → Go p l e R s m args below meth c n0 h' (ce + rm.cells) (sl + rm.slots) (mkF m pc' Ls (v.toList ++ S)) Q) : Go p l e R s m args below meth c n0 h ce sl (mkF m pc Ls st) Q := by
  subst hp hst
  intro T L0 X N eT
  obtain ⟨cq, kq, qa, qb, qc⟩ := isOf K.2.1 eT E
  obtain ⟨v, _, ⟨T', L1, k1, n1⟩, -, X', ⟨Lc, hQ, l', y', z'⟩, st'⟩ := X.virtualBack K.1 (y := y) (z := y) K.2.2.1 (mvT K.2.1 w1) (mvT K.2.1 w2) (notFace_of_selects (args := #[]) (mvT K.2.1 w3)) (mvT K.2.1 w3) (mvT K.2.1 w4) hy (back (W := (S.map fun v => v.category).sum) K Cc wc wz hf hW) qa qc (g := mkF m pc Ls (argsL.reverse ++ .ref b :: S)) rfl (hz.trans K.2.2.2.2.1.symm) (Steps.refl _) (argsL := argsL) (rest := S) hlen rfl (by show 2 * 0 + _ ≤ _; omega) (hb K.2.2.2.1 hd) (fun _ _ => ⟨rfl, eT, hc, hsl⟩)
  dsimp only [Pt.U, Pt.locs, Pt.cells, Pt.slots] at X' l' y' z' st'
  subst l' y' z'
  obtain ⟨s₂, u, L', a1, r⟩ := q v _ hQ.1 T' _ X' (Fr.app N hQ.2) rfl
  exact ⟨s₂, u, L', st'.trans a1, r⟩
theorem callFace (K : Cx Z own nm bytes ml ret p s m meth c) {i cnt : Nat} {y : MethodName} {by' : ByteArray} {ml' : Nat} {ret' : Option FieldType} {rm : Room} {Q' : Option Value → Heap → Prop} {b : Addr} {argsL : List Value} {z : MethodName} {C : String} (w1 : (Cond.methodLink own i y).before a0 Z = true) (w2 : (Cond.declares y).before a0 Z = true) (w5 : (Cond.interfaceMethod y.cls y.cls y.name y.desc).before a0 Z = true) (k5 : ((Cond.interfaceMethod y.cls y.cls y.name y.desc).onTables && (Cond.interfaceMethod y.cls y.cls y.name y.desc).keepsFace) = true) (w3 : (Cond.selects C y z).before a0 Z = true) (w4 : (Cond.instanceMethod z).before a0 Z = true) (w6 : (Cond.publicMethod z).before a0 Z = true) (w7 : (Cond.unhidden C y.name y.desc).before a0 Z = true) (w8 : (Cond.castable C y.cls).before a0 Z = true) (wz : (Cond.initialized z.cls).before a0 Z = true) (wc : (Cond.code z by' ml' ret').before a0 Z = true) (hy : y.cls ≠ "java/lang/invoke/MethodHandle" ∧ y.cls ≠ "java/lang/invoke/VarHandle") (E : Exa Z h b C) (Cc : Ctr l Z z by' ml' ret' [] rm n0 (.ref b :: argsL).toArray h Q') (hlen : ∀ sig, parseMethodDescriptor y.desc = some sig → argsL.length = sig.parameters.length) (hd : decode bytes pc = .ok (.invokeinterface i cnt, 5)) (hz : Ls.size = ml) (hf : rm.frames + 1 ≤ R.frames) (hW : (S.map fun v => v.category).sum + (ml' + 11) + rm.locals ≤ R.locals) (hc : ce + rm.cells ≤ R.cells) (hsl : sl + rm.slots ≤ R.slots) {st : List Value} (hst : st = (argsL.reverse ++ .ref b :: S)) (hp : pc + 5 = pc') (q : ∀ v h', Q' v h' → Go p l e R s m args below meth c n0 h' (ce + rm.cells) (sl + rm.slots) (mkF m pc' Ls (v.toList ++ S)) Q) : Go p l e R s m args below meth c n0 h ce sl (mkF m pc Ls st) Q := by
  subst hp hst
  intro T L0 X N eT
  obtain ⟨cq, kq, qa, qb, qc⟩ := isOf K.2.1 eT E
  obtain ⟨v, _, ⟨T', L1, k1, n1⟩, -, X', ⟨Lc, hQ, l', y', z'⟩, st'⟩ := X.interfaceBack K.1 (xi := y) (y := z) K.2.2.1 (mvT K.2.1 w1) (mvT K.2.1 w2) (mvT K.2.1 w5 k5) (mvT K.2.1 w3) (mvT K.2.1 w4) (mvT K.2.1 w6) (mvT K.2.1 w7) (mvT K.2.1 w8) hy (back (W := (S.map fun v => v.category).sum) K Cc wc wz hf hW) qa qb qc (g := mkF m pc Ls (argsL.reverse ++ .ref b :: S)) rfl (hz.trans K.2.2.2.2.1.symm) (Steps.refl _) (argsL := argsL) (rest := S) hlen rfl (by show 2 * 0 + _ ≤ _; omega) (hb K.2.2.2.1 hd) (fun _ _ => ⟨rfl, eT, hc, hsl⟩)
  dsimp only [Pt.U, Pt.locs, Pt.cells, Pt.slots] at X' l' y' z' st'
  subst l' y' z'
  obtain ⟨s₂, u, L', a1, r⟩ := q v _ hQ.1 T' _ X' (Fr.app N hQ.2) rfl
  exact ⟨s₂, u, L', st'.trans a1, r⟩
theorem callPriv (K : Cx Z own nm bytes ml ret p s m meth c) {i : Nat} {y : MethodName} {by' : ByteArray} {ml' : Nat} {ret' : Option FieldType} {rm : Room} {Q' : Option Value → Heap → Prop} {b : Addr} {argsL : List Value} {C : String} {kk : Nat} (w1 : (Cond.methodLink own i y).before a0 Z = true) (w2 : (Cond.instanceMethod y).before a0 Z = true) (w3 : (Cond.privateMethod y).before a0 Z = true) (w5 : (Cond.instantiable y.cls kk).before a0 Z = true) (wz : (Cond.initialized y.cls).before a0 Z = true) (wc : (Cond.code y by' ml' ret').before a0 Z = true) (hy : y.cls ≠ "java/lang/invoke/MethodHandle" ∧ y.cls ≠ "java/lang/invoke/VarHandle") (E : Exa Z h b C) (Cc : Ctr l Z y by' ml' ret' [] rm n0 (.ref b :: argsL).toArray h Q') (hlen : ∀ sig, parseMethodDescriptor y.desc = some sig → argsL.length = sig.parameters.length) (hd : decode bytes pc = .ok (.invokevirtual i, 3)) (hz : Ls.size = ml) (hf : rm.frames + 1 ≤ R.frames) (hW : (S.map fun v => v.category).sum + (ml' + 11) + rm.locals ≤ R.locals) (hc : ce + rm.cells ≤ R.cells) (hsl : sl + rm.slots ≤ R.slots) {st : List Value} (hst : st = (argsL.reverse ++ .ref b :: S)) (hp : pc + 3 = pc') (q : ∀ v h', Q' v h' → Go p l e R s m args below meth c n0 h' (ce + rm.cells) (sl + rm.slots) (mkF m pc' Ls (v.toList ++ S)) Q) : Go p l e R s m args below meth c n0 h ce sl (mkF m pc Ls st) Q := by
  subst hp hst
  intro T L0 X N eT
  obtain ⟨cell, kc, f1, f2, f3, f4, -⟩ := E
  have hpr : s.PrivateAt y := Cond.privateMethod_at (mvP K.2.1 w3 (args := #[]))
  obtain ⟨v, _, ⟨T', L1, k1, n1⟩, -, X', ⟨Lc, hQ, l', y', z'⟩, st'⟩ := X.privateBack K.1 (y := y) K.2.2.1 (mvT K.2.1 w1) (mvT K.2.1 w2) (priv_sel (mvT K.2.1 w5) hpr (mvT K.2.1 w2) hy) hpr (mvT K.2.1 wc) hy (back (W := (S.map fun v => v.category).sum) K Cc wc wz hf hW) (g := mkF m pc Ls (argsL.reverse ++ .ref b :: S)) rfl (hz.trans K.2.2.2.2.1.symm) (Steps.refl _) (a := b) (by rw [eT]; exact f1) (fun q hq => by rw [hq] at f4; cases f4) (argsL := argsL) (rest := S) hlen rfl (by show 2 * 0 + _ ≤ _; omega) (hb K.2.2.2.1 hd) (fun _ _ => ⟨rfl, eT, hc, hsl⟩)
  dsimp only [Pt.U, Pt.locs, Pt.cells, Pt.slots] at X' l' y' z' st'
  subst l' y' z'
  obtain ⟨s₂, u, L', a1, r⟩ := q v _ hQ.1 T' _ X' (Fr.app N hQ.2) rfl
  exact ⟨s₂, u, L', st'.trans a1, r⟩
theorem retW (K : Cx Z own nm bytes ml ret p s m meth c) {t : FieldType} {w : Value} {i : Instr} (hi : (i = .ireturn ∧ (t = .int ∨ t = .boolean ∨ t = .byte ∨ t = .char ∨ t = .short) ∧ ∃ z, w = .int z) ∨ (i = .lreturn ∧ t = .long ∧ ∃ z, w = .long z) ∨ (i = .dreturn ∧ t = .double ∧ ∃ z, w = .double z) ∨ (i = .freturn ∧ t = .float ∧ ∃ z, w = .float z) ∨ (i = .areturn ∧ t.isReference = true ∧ w.isRef = true)) (hr : ret = some t) (hn : narrow t w = w) (hd : decode bytes pc = .ok (i, 1)) (hc : ce ≤ R.cells) (hsl : sl ≤ R.slots) (q : Q (some w) h) : Go p l e R s m args below meth c n0 h ce sl (mkF m pc Ls (w :: S)) Q := by
  intro T L0 X N eT
  obtain ⟨fs, hl, hrun, hended, hW, hsame⟩ := X.leave (v := some w) (fun q => by rw [K.2.2.2.2.2.1, hr] at q; cases q) K.2.2.2.2.2.2.1
  exact ⟨_, some w, L0, retOut X K.1 (K.2.2.2.2.2.1.trans hr) hn hi (hb K.2.2.2.1 hd) hl, hrun, hended, N, eT ▸ q, ⟨_, rfl⟩, hW, hsame.mono hc hsl⟩
theorem retV (K : Cx Z own nm bytes ml ret p s m meth c) (hr : ret = none) (hd : decode bytes pc = .ok (.return_, 1)) (hc : ce ≤ R.cells) (hsl : sl ≤ R.slots) (q : Q none h) : Go p l e R s m args below meth c n0 h ce sl (mkF m pc Ls []) Q := by
  intro T L0 X N eT
  obtain ⟨fs, hl, hrun, hended, hW, hsame⟩ := X.leave (v := none) (fun _ => rfl) K.2.2.2.2.2.2.1
  exact ⟨_, none, L0, X.returnOut K.1 (K.2.2.2.2.2.1.trans hr) (hb K.2.2.2.1 hd) hl, hrun, hended, N, eT ▸ q, ⟨_, rfl⟩, hW, hsame.mono hc hsl⟩
theorem retI (K : Cx Z own nm bytes ml ret p s m meth c) {z : Int32} (hr : ret = some .int) (hd : decode bytes pc = .ok (.ireturn, 1)) (hc : ce ≤ R.cells) (hsl : sl ≤ R.slots) (q : Q (some (.int z)) h) : Go p l e R s m args below meth c n0 h ce sl (mkF m pc Ls (.int z :: S)) Q := retW K (by exact Or.inl ⟨rfl, Or.inl rfl, _, rfl⟩) hr rfl hd hc hsl q
theorem retL (K : Cx Z own nm bytes ml ret p s m meth c) {z : Int64} (hr : ret = some .long) (hd : decode bytes pc = .ok (.lreturn, 1)) (hc : ce ≤ R.cells) (hsl : sl ≤ R.slots) (q : Q (some (.long z)) h) : Go p l e R s m args below meth c n0 h ce sl (mkF m pc Ls (.long z :: S)) Q := retW K (by exact Or.inr (Or.inl ⟨rfl, rfl, _, rfl⟩)) hr rfl hd hc hsl q
theorem retD (K : Cx Z own nm bytes ml ret p s m meth c) {z : UInt64} (hr : ret = some .double) (hd : decode bytes pc = .ok (.dreturn, 1)) (hc : ce ≤ R.cells) (hsl : sl ≤ R.slots) (q : Q (some (.double z)) h) : Go p l e R s m args below meth c n0 h ce sl (mkF m pc Ls (.double z :: S)) Q := retW K (by exact Or.inr (Or.inr (Or.inl ⟨rfl, rfl, _, rfl⟩))) hr rfl hd hc hsl q
theorem retA (K : Cx Z own nm bytes ml ret p s m meth c) {t : FieldType} {w : Value} (hr : ret = some t) (ht : t.isReference = true) (hw : w.isRef = true) (hd : decode bytes pc = .ok (.areturn, 1)) (hc : ce ≤ R.cells) (hsl : sl ≤ R.slots) (q : Q (some w) h) : Go p l e R s m args below meth c n0 h ce sl (mkF m pc Ls (w :: S)) Q := retW K (Or.inr (Or.inr (Or.inr (Or.inr ⟨rfl, ht, hw⟩)))) hr (by cases t <;> first | rfl | exact absurd ht (by decide)) hd hc hsl q
theorem retB (K : Cx Z own nm bytes ml ret p s m meth c) {t : FieldType} {z : Int32} (hr : ret = some t) (ht : t = .boolean ∨ t = .byte ∨ t = .char ∨ t = .short) (hd : decode bytes pc = .ok (.ireturn, 1)) (hc : ce ≤ R.cells) (hsl : sl ≤ R.slots) (q : Q (some (.int (nar t z))) h) : Go p l e R s m args below meth c n0 h ce sl (mkF m pc Ls (.int z :: S)) Q := by
  intro T L0 X N eT
  obtain ⟨fs, hl, hrun, hended, hW, hsame⟩ := X.leave (v := some (.int (nar t z))) (fun q => by rw [K.2.2.2.2.2.1, hr] at q; cases q) K.2.2.2.2.2.2.1
  exact ⟨_, some (.int (nar t z)), L0, retN X K.1 (t := t) (K.2.2.2.2.2.1.trans hr) ht (hb K.2.2.2.1 hd) hl, hrun, hended, N, eT ▸ q, ⟨_, rfl⟩, hW, hsame.mono hc hsl⟩
end Walk
/-! arrays -/
def Vec (Z : State) (h : Heap) (a : Addr) (ty : FieldType) (xs : List Value) : Prop := ∃ cl : Cell, Arr Z h a cl ty ∧ cl.slots.toList = xs ∧ xs.length < 2147483648
/-- an array of references, with what may lie in it -/
def VecR (Z : State) (h : Heap) (a : Addr) (C : String) (xs : List Value) : Prop := ∃ cl : Cell, Arr Z h a cl (.object C) ∧ cl.slots.toList = xs ∧ xs.length < 2147483648 ∧ Ovr Z cl.cls C
section Vecs
variable {Z : State} {h h' : Heap} {a b : Addr} {ty : FieldType} {xs : List Value} {v : Value} {sl : Nat} {ws : List Addr} {C : String}
theorem Vec.lt (F : Vec Z h a ty xs) : a < h.size := by obtain ⟨c, A, -⟩ := F; exact A.lt
theorem Vec.ext (F : Vec Z h a ty xs) (E : Ext h h') : Vec Z h' a ty xs := by obtain ⟨c, A, r⟩ := F; exact ⟨c, A.ext E, r⟩
theorem Vec.other (F : Vec Z h b ty xs) (W : Wr h h' a sl v) (q : b ≠ a) : Vec Z h' b ty xs := by obtain ⟨c, A, r⟩ := F; exact ⟨c, A.other W q, r⟩
theorem Vec.keep (F : Vec Z h a ty xs) (K : Keep h h' ws) (q : a ∉ ws) : Vec Z h' a ty xs := by obtain ⟨c, A, r⟩ := F; exact ⟨c, ⟨K.2.1 a c A.1 q, A.2⟩, r⟩
theorem Vec.set (F : Vec Z h a ty xs) {i : Nat} (W : Wr h h' a i v) : Vec Z h' a ty (xs.set i v) := by
  obtain ⟨c, A, rfl, r⟩ := F
  exact ⟨_, A.same W, by simp [Cell.setSlot], by simpa using r⟩
theorem Vec.len (F : Vec Z h a ty xs) : xs.length < 2147483648 := by obtain ⟨c, A, rfl, r⟩ := F; exact r
theorem VecR.lt (F : VecR Z h a C xs) : a < h.size := by obtain ⟨c, A, -⟩ := F; exact A.lt
theorem VecR.ext (F : VecR Z h a C xs) (E : Ext h h') : VecR Z h' a C xs := by obtain ⟨c, A, r⟩ := F; exact ⟨c, A.ext E, r⟩
theorem VecR.other (F : VecR Z h b C xs) (W : Wr h h' a sl v) (q : b ≠ a) : VecR Z h' b C xs := by obtain ⟨c, A, r⟩ := F; exact ⟨c, A.other W q, r⟩
theorem VecR.keep (F : VecR Z h a C xs) (K : Keep h h' ws) (q : a ∉ ws) : VecR Z h' a C xs := by obtain ⟨c, A, r⟩ := F; exact ⟨c, ⟨K.2.1 a c A.1 q, A.2⟩, r⟩
theorem VecR.vec (F : VecR Z h a C xs) : Vec Z h a (.object C) xs := by obtain ⟨c, A, r1, r2, -⟩ := F; exact ⟨c, A, r1, r2⟩
theorem VecR.set (F : VecR Z h a C xs) {i : Nat} (W : Wr h h' a i v) : VecR Z h' a C (xs.set i v) := by
  obtain ⟨c, A, rfl, r, o⟩ := F
  exact ⟨_, A.same W, by simp [Cell.setSlot], by simpa using r, o⟩
theorem clamp {j : Int32} {i : Nat} (hj : j.toInt = i) : j.toNatClampNeg = i ∧ ¬ j < 0 := by
  refine ⟨by simp [Int32.toNatClampNeg, hj], ?_⟩
  rw [Int32.lt_iff_toInt_lt, hj]; simp only [Int32.reduceToInt]; omega
end Vecs
def DV (Z : State) (h : Heap) (a : Addr) (xs : List UInt64) : Prop := Vec Z h a .double (xs.map Value.double)
theorem DV.lt {Z : State} {h : Heap} {a : Addr} {xs : List UInt64} (F : DV Z h a xs) : a < h.size := Vec.lt F
theorem DV.ext {Z : State} {h h' : Heap} {a : Addr} {xs : List UInt64} (F : DV Z h a xs) (E : Ext h h') : DV Z h' a xs := Vec.ext F E
theorem DV.other {Z : State} {h h' : Heap} {a b : Addr} {xs : List UInt64} {sl : Nat} {v : Value} (F : DV Z h b xs) (W : Wr h h' a sl v) (q : b ≠ a) : DV Z h' b xs := Vec.other F W q
theorem DV.keep {Z : State} {h h' : Heap} {a : Addr} {xs : List UInt64} {ws : List Addr} (F : DV Z h a xs) (K : Keep h h' ws) (q : a ∉ ws) : DV Z h' a xs := Vec.keep F K q
theorem DV.set {Z : State} {h h' : Heap} {a : Addr} {xs : List UInt64} {i : Nat} {x : UInt64} (F : DV Z h a xs) (W : Wr h h' a i (Value.double x)) : DV Z h' a (xs.set i x) := by
  have q := Vec.set F W
  rwa [← List.map_set] at q
def IV (Z : State) (h : Heap) (a : Addr) (xs : List Int32) : Prop := Vec Z h a .int (xs.map Value.int)
theorem IV.lt {Z : State} {h : Heap} {a : Addr} {xs : List Int32} (F : IV Z h a xs) : a < h.size := Vec.lt F
theorem IV.ext {Z : State} {h h' : Heap} {a : Addr} {xs : List Int32} (F : IV Z h a xs) (E : Ext h h') : IV Z h' a xs := Vec.ext F E
theorem IV.other {Z : State} {h h' : Heap} {a b : Addr} {xs : List Int32} {sl : Nat} {v : Value} (F : IV Z h b xs) (W : Wr h h' a sl v) (q : b ≠ a) : IV Z h' b xs := Vec.other F W q
theorem IV.keep {Z : State} {h h' : Heap} {a : Addr} {xs : List Int32} {ws : List Addr} (F : IV Z h a xs) (K : Keep h h' ws) (q : a ∉ ws) : IV Z h' a xs := Vec.keep F K q
theorem IV.set {Z : State} {h h' : Heap} {a : Addr} {xs : List Int32} {i : Nat} {x : Int32} (F : IV Z h a xs) (W : Wr h h' a i (Value.int x)) : IV Z h' a (xs.set i x) := by
  have q := Vec.set F W
  rwa [← List.map_set] at q
def JV (Z : State) (h : Heap) (a : Addr) (xs : List Int64) : Prop := Vec Z h a .long (xs.map Value.long)
theorem JV.lt {Z : State} {h : Heap} {a : Addr} {xs : List Int64} (F : JV Z h a xs) : a < h.size := Vec.lt F
theorem JV.ext {Z : State} {h h' : Heap} {a : Addr} {xs : List Int64} (F : JV Z h a xs) (E : Ext h h') : JV Z h' a xs := Vec.ext F E
theorem JV.other {Z : State} {h h' : Heap} {a b : Addr} {xs : List Int64} {sl : Nat} {v : Value} (F : JV Z h b xs) (W : Wr h h' a sl v) (q : b ≠ a) : JV Z h' b xs := Vec.other F W q
theorem JV.keep {Z : State} {h h' : Heap} {a : Addr} {xs : List Int64} {ws : List Addr} (F : JV Z h a xs) (K : Keep h h' ws) (q : a ∉ ws) : JV Z h' a xs := Vec.keep F K q
theorem JV.set {Z : State} {h h' : Heap} {a : Addr} {xs : List Int64} {i : Nat} {x : Int64} (F : JV Z h a xs) (W : Wr h h' a i (Value.long x)) : JV Z h' a (xs.set i x) := by
  have q := Vec.set F W
  rwa [← List.map_set] at q
def ZV (Z : State) (h : Heap) (a : Addr) (xs : List Int32) : Prop := Vec Z h a .boolean (xs.map Value.int)
theorem ZV.lt {Z : State} {h : Heap} {a : Addr} {xs : List Int32} (F : ZV Z h a xs) : a < h.size := Vec.lt F
theorem ZV.ext {Z : State} {h h' : Heap} {a : Addr} {xs : List Int32} (F : ZV Z h a xs) (E : Ext h h') : ZV Z h' a xs := Vec.ext F E
theorem ZV.other {Z : State} {h h' : Heap} {a b : Addr} {xs : List Int32} {sl : Nat} {v : Value} (F : ZV Z h b xs) (W : Wr h h' a sl v) (q : b ≠ a) : ZV Z h' b xs := Vec.other F W q
theorem ZV.keep {Z : State} {h h' : Heap} {a : Addr} {xs : List Int32} {ws : List Addr} (F : ZV Z h a xs) (K : Keep h h' ws) (q : a ∉ ws) : ZV Z h' a xs := Vec.keep F K q
theorem ZV.set {Z : State} {h h' : Heap} {a : Addr} {xs : List Int32} {i : Nat} {x : Int32} (F : ZV Z h a xs) (W : Wr h h' a i (Value.int x)) : ZV Z h' a (xs.set i x) := by
  have q := Vec.set F W
  rwa [← List.map_set] at q
theorem DV.new {Z : State} {h : Heap} {a : Addr} {N : Nat} (F : Vec Z h a (newarray.typeOf .double) (List.replicate N (defaultValue (newarray.typeOf .double)))) : DV Z h a (List.replicate N 0) := by
  unfold DV; rw [List.map_replicate]; exact F
theorem IV.new {Z : State} {h : Heap} {a : Addr} {N : Nat} (F : Vec Z h a (newarray.typeOf .int) (List.replicate N (defaultValue (newarray.typeOf .int)))) : IV Z h a (List.replicate N 0) := by
  unfold IV; rw [List.map_replicate]; exact F
theorem JV.new {Z : State} {h : Heap} {a : Addr} {N : Nat} (F : Vec Z h a (newarray.typeOf .long) (List.replicate N (defaultValue (newarray.typeOf .long)))) : JV Z h a (List.replicate N 0) := by
  unfold JV; rw [List.map_replicate]; exact F
theorem ZV.new {Z : State} {h : Heap} {a : Addr} {N : Nat} (F : Vec Z h a (newarray.typeOf .boolean) (List.replicate N (defaultValue (newarray.typeOf .boolean)))) : ZV Z h a (List.replicate N 0) := by
  unfold ZV; rw [List.map_replicate]; exact F
theorem mapAt {α : Type} {f : α → Value} {xs : List α} {i : Nat} {x : α} (h : xs[i]? = some x) : (xs.map f)[i]? = some (f x) := by rw [List.getElem?_map, h]; rfl
theorem mapLt {α : Type} {f : α → Value} {xs : List α} {i : Nat} (h : i < xs.length) : i < (xs.map f).length := by rwa [List.length_map]
theorem getDAt {α : Type} {xs : List α} {i : Nat} {d : α} (h : i < xs.length) : xs[i]? = some (xs.getD i d) := by rw [List.getD_eq_getElem?_getD, List.getElem?_eq_getElem h]; rfl
section Walk2
variable {p : Program} {l : Launch} {e : Env} {R : Room} {s : State} {m : MethodId} {args : Array Value} {below : List Frame} {meth : Method} {c : Code} {Z : State} {a0 : Array Value} {own nm : String} {bytes : ByteArray} {ml : Nat} {ret : Option FieldType} {n0 ce sl pc pc' : Nat} {h : Heap} {Ls Ls' : Array Slot} {S : List Value} {Q : Option Value → Heap → Prop} {a : Addr} {ty : FieldType} {xs : List Value} {v : Value} {j : Int32} {i : Nat}
theorem inb {cl : Cell} (e1 : cl.slots.toList = xs) (hj : j.toInt = i) (hi : i < xs.length) : ¬ (j < 0 ∨ cl.slots.size ≤ j.toNatClampNeg) := by
  obtain ⟨q1, q2⟩ := clamp hj
  subst e1
  rw [q1]; simp at hi; intro q; rcases q with q | q
  · exact q2 q
  · omega
theorem inv {cl : Cell} (e1 : cl.slots.toList = xs) (hj : j.toInt = i) (hv : xs[i]? = some v) : cl.slots[j.toNatClampNeg]? = some v := by
  obtain ⟨q1, q2⟩ := clamp hj
  subst e1
  rw [q1]; simpa using hv
theorem ltOf (hv : xs[i]? = some v) : i < xs.length := (List.getElem?_eq_some_iff.mp hv).1
theorem iaload (K : Cx Z own nm bytes ml ret p s m meth c) (F : Vec Z h a .int xs) (hj : j.toInt = i) (hv : xs[i]? = some v) (hd : decode bytes pc = .ok (.iaload, 1)) (hp : pc + 1 = pc') (q : Go p l e R s m args below meth c n0 h ce sl (mkF m pc' Ls (v :: S)) Q) : Go p l e R s m args below meth c n0 h ce sl (mkF m pc Ls (.int j :: .ref a :: S)) Q := by
  subst hp; obtain ⟨cl, A, e1, e2⟩ := F
  exact one (fun T L X eT t => X.iaload K.1 (by rw [eT]; exact A.1) (State.isArrayOf_alike K.2.1.alike A.2.1) A.2.2 (inb e1 hj (ltOf hv)) (inv e1 hj hv) (g := mkF m pc Ls (.int j :: .ref a :: S)) rfl rfl (hb K.2.2.2.1 hd) t) q
theorem laload (K : Cx Z own nm bytes ml ret p s m meth c) (F : Vec Z h a .long xs) (hj : j.toInt = i) (hv : xs[i]? = some v) (hd : decode bytes pc = .ok (.laload, 1)) (hp : pc + 1 = pc') (q : Go p l e R s m args below meth c n0 h ce sl (mkF m pc' Ls (v :: S)) Q) : Go p l e R s m args below meth c n0 h ce sl (mkF m pc Ls (.int j :: .ref a :: S)) Q := by
  subst hp; obtain ⟨cl, A, e1, e2⟩ := F
  exact one (fun T L X eT t => X.laload K.1 (by rw [eT]; exact A.1) (State.isArrayOf_alike K.2.1.alike A.2.1) A.2.2 (inb e1 hj (ltOf hv)) (inv e1 hj hv) (g := mkF m pc Ls (.int j :: .ref a :: S)) rfl rfl (hb K.2.2.2.1 hd) t) q
theorem daload (K : Cx Z own nm bytes ml ret p s m meth c) (F : Vec Z h a .double xs) (hj : j.toInt = i) (hv : xs[i]? = some v) (hd : decode bytes pc = .ok (.daload, 1)) (hp : pc + 1 = pc') (q : Go p l e R s m args below meth c n0 h ce sl (mkF m pc' Ls (v :: S)) Q) : Go p l e R s m args below meth c n0 h ce sl (mkF m pc Ls (.int j :: .ref a :: S)) Q := by
  subst hp; obtain ⟨cl, A, e1, e2⟩ := F
  exact one (fun T L X eT t => X.daload K.1 (by rw [eT]; exact A.1) (State.isArrayOf_alike K.2.1.alike A.2.1) A.2.2 (inb e1 hj (ltOf hv)) (inv e1 hj hv) (g := mkF m pc Ls (.int j :: .ref a :: S)) rfl rfl (hb K.2.2.2.1 hd) t) q
theorem zaload (K : Cx Z own nm bytes ml ret p s m meth c) (F : Vec Z h a .boolean xs) (hj : j.toInt = i) (hv : xs[i]? = some v) (hd : decode bytes pc = .ok (.baload, 1)) (hp : pc + 1 = pc') (q : Go p l e R s m args below meth c n0 h ce sl (mkF m pc' Ls (v :: S)) Q) : Go p l e R s m args below meth c n0 h ce sl (mkF m pc Ls (.int j :: .ref a :: S)) Q := by
  subst hp; obtain ⟨cl, A, e1, e2⟩ := F
  exact one (fun T L X eT t => X.baloadBooleans K.1 (by rw [eT]; exact A.1) (State.isArrayOf_alike K.2.1.alike A.2.1) A.2.2 (inb e1 hj (ltOf hv)) (inv e1 hj hv) (g := mkF m pc Ls (.int j :: .ref a :: S)) rfl rfl (hb K.2.2.2.1 hd) t) q
theorem baload (K : Cx Z own nm bytes ml ret p s m meth c) (F : Vec Z h a .byte xs) (hj : j.toInt = i) (hv : xs[i]? = some v) (hd : decode bytes pc = .ok (.baload, 1)) (hp : pc + 1 = pc') (q : Go p l e R s m args below meth c n0 h ce sl (mkF m pc' Ls (v :: S)) Q) : Go p l e R s m args below meth c n0 h ce sl (mkF m pc Ls (.int j :: .ref a :: S)) Q := by
  subst hp; obtain ⟨cl, A, e1, e2⟩ := F
  exact one (fun T L X eT t => X.baloadBytes K.1 (by rw [eT]; exact A.1) (State.isArrayOf_alike K.2.1.alike A.2.1) A.2.2 (inb e1 hj (ltOf hv)) (inv e1 hj hv) (g := mkF m pc Ls (.int j :: .ref a :: S)) rfl rfl (hb K.2.2.2.1 hd) t) q
theorem aaload (K : Cx Z own nm bytes ml ret p s m meth c) (F : Vec Z h a ty xs) (ht : ty.isReference = true) (hj : j.toInt = i) (hv : xs[i]? = some v) (hd : decode bytes pc = .ok (.aaload, 1)) (hp : pc + 1 = pc') (q : Go p l e R s m args below meth c n0 h ce sl (mkF m pc' Ls (v :: S)) Q) : Go p l e R s m args below meth c n0 h ce sl (mkF m pc Ls (.int j :: .ref a :: S)) Q := by
  subst hp; obtain ⟨cl, A, e1, e2⟩ := F
  exact one (fun T L X eT t => X.aaload K.1 (by rw [eT]; exact A.1) (State.isArrayOf_alike K.2.1.alike A.2.1) ht A.2.2 (inb e1 hj (ltOf hv)) (inv e1 hj hv) (g := mkF m pc Ls (.int j :: .ref a :: S)) rfl rfl (hb K.2.2.2.1 hd) t) q
theorem alen (K : Cx Z own nm bytes ml ret p s m meth c) (F : Vec Z h a ty xs) (hd : decode bytes pc = .ok (.arraylength, 1)) (hp : pc + 1 = pc') (q : Go p l e R s m args below meth c n0 h ce sl (mkF m pc' Ls (.int xs.length.toInt32 :: S)) Q) : Go p l e R s m args below meth c n0 h ce sl (mkF m pc Ls (.ref a :: S)) Q := by
  subst hp; obtain ⟨cl, A, e1, e2⟩ := F
  have hz : cl.slots.size = xs.length := by rw [← e1]; simp
  rw [← hz] at q
  exact one (fun T L X eT t => X.arraylength K.1 (by rw [eT]; exact A.1) (State.isArrayOf_alike K.2.1.alike A.2.1) (g := mkF m pc Ls (.ref a :: S)) rfl rfl (hb K.2.2.2.1 hd) t) q
theorem iastore (K : Cx Z own nm bytes ml ret p s m meth c) {x : Int32} (F : Vec Z h a .int xs) (hj : j.toInt = i) (hi : i < xs.length) (ga : n0 ≤ a) (hd : decode bytes pc = .ok (.iastore, 1)) (hp : pc + 1 = pc') (q : ∀ h', Wr h h' a i (.int x) → Go p l e R s m args below meth c n0 h' ce sl (mkF m pc' Ls S) Q) : Go p l e R s m args below meth c n0 h ce sl (mkF m pc Ls (.int x :: .int j :: .ref a :: S)) Q := by
  subst hp; obtain ⟨cl, A, e1, e2⟩ := F
  intro T L0 X N eT
  obtain ⟨T', h', X', e', W, st⟩ := stI X K.1 K.2.1 eT A (inb e1 hj hi) (g := mkF m pc Ls (.int x :: .int j :: .ref a :: S)) rfl rfl (hb K.2.2.2.1 hd)
  rw [(clamp hj).1] at W
  obtain ⟨s₂, u, L', a1, r⟩ := q h' W T' _ X' (Fr.snoc X' N ga) e'
  exact ⟨s₂, u, L', st _ a1, r⟩
theorem lastore (K : Cx Z own nm bytes ml ret p s m meth c) {x : Int64} (F : Vec Z h a .long xs) (hj : j.toInt = i) (hi : i < xs.length) (ga : n0 ≤ a) (hd : decode bytes pc = .ok (.lastore, 1)) (hp : pc + 1 = pc') (q : ∀ h', Wr h h' a i (.long x) → Go p l e R s m args below meth c n0 h' ce sl (mkF m pc' Ls S) Q) : Go p l e R s m args below meth c n0 h ce sl (mkF m pc Ls (.long x :: .int j :: .ref a :: S)) Q := by
  subst hp; obtain ⟨cl, A, e1, e2⟩ := F
  intro T L0 X N eT
  obtain ⟨T', h', X', e', W, st⟩ := stJ X K.1 K.2.1 eT A (inb e1 hj hi) (g := mkF m pc Ls (.long x :: .int j :: .ref a :: S)) rfl rfl (hb K.2.2.2.1 hd)
  rw [(clamp hj).1] at W
  obtain ⟨s₂, u, L', a1, r⟩ := q h' W T' _ X' (Fr.snoc X' N ga) e'
  exact ⟨s₂, u, L', st _ a1, r⟩
theorem dastore (K : Cx Z own nm bytes ml ret p s m meth c) {x : UInt64} (F : Vec Z h a .double xs) (hj : j.toInt = i) (hi : i < xs.length) (ga : n0 ≤ a) (hd : decode bytes pc = .ok (.dastore, 1)) (hp : pc + 1 = pc') (q : ∀ h', Wr h h' a i (.double x) → Go p l e R s m args below meth c n0 h' ce sl (mkF m pc' Ls S) Q) : Go p l e R s m args below meth c n0 h ce sl (mkF m pc Ls (.double x :: .int j :: .ref a :: S)) Q := by
  subst hp; obtain ⟨cl, A, e1, e2⟩ := F
  intro T L0 X N eT
  obtain ⟨T', h', X', e', W, st⟩ := stD X K.1 K.2.1 eT A (inb e1 hj hi) (g := mkF m pc Ls (.double x :: .int j :: .ref a :: S)) rfl rfl (hb K.2.2.2.1 hd)
  rw [(clamp hj).1] at W
  obtain ⟨s₂, u, L', a1, r⟩ := q h' W T' _ X' (Fr.snoc X' N ga) e'
  exact ⟨s₂, u, L', st _ a1, r⟩
theorem zastore (K : Cx Z own nm bytes ml ret p s m meth c) {x : Int32} (F : Vec Z h a .boolean xs) (hj : j.toInt = i) (hi : i < xs.length) (ga : n0 ≤ a) (hd : decode bytes pc = .ok (.bastore, 1)) (hp : pc + 1 = pc') (q : ∀ h', Wr h h' a i (.int (nar .boolean x)) → Go p l e R s m args below meth c n0 h' ce sl (mkF m pc' Ls S) Q) : Go p l e R s m args below meth c n0 h ce sl (mkF m pc Ls (.int x :: .int j :: .ref a :: S)) Q := by
  subst hp; obtain ⟨cl, A, e1, e2⟩ := F
  intro T L0 X N eT
  obtain ⟨T', h', X', e', W, st⟩ := stZ X K.1 K.2.1 eT A (inb e1 hj hi) (g := mkF m pc Ls (.int x :: .int j :: .ref a :: S)) rfl rfl (hb K.2.2.2.1 hd)
  rw [(clamp hj).1] at W
  obtain ⟨s₂, u, L', a1, r⟩ := q h' W T' _ X' (Fr.snoc X' N ga) e'
  exact ⟨s₂, u, L', st _ a1, r⟩
theorem bastore (K : Cx Z own nm bytes ml ret p s m meth c) {x : Int32} (F : Vec Z h a .byte xs) (hj : j.toInt = i) (hi : i < xs.length) (ga : n0 ≤ a) (hd : decode bytes pc = .ok (.bastore, 1)) (hp : pc + 1 = pc') (q : ∀ h', Wr h h' a i (.int (nar .byte x)) → Go p l e R s m args below meth c n0 h' ce sl (mkF m pc' Ls S) Q) : Go p l e R s m args below meth c n0 h ce sl (mkF m pc Ls (.int x :: .int j :: .ref a :: S)) Q := by
  subst hp; obtain ⟨cl, A, e1, e2⟩ := F
  intro T L0 X N eT
  obtain ⟨T', h', X', e', W, st⟩ := stB X K.1 K.2.1 eT A (inb e1 hj hi) (g := mkF m pc Ls (.int x :: .int j :: .ref a :: S)) rfl rfl (hb K.2.2.2.1 hd)
  rw [(clamp hj).1] at W
  obtain ⟨s₂, u, L', a1, r⟩ := q h' W T' _ X' (Fr.snoc X' N ga) e'
  exact ⟨s₂, u, L', st _ a1, r⟩
theorem aastore (K : Cx Z own nm bytes ml ret p s m meth c) {C : String} (F : VecR Z h a C xs) (hS : v = .null ∨ ∃ y, v = .ref y ∧ Ins Z h y C true) (hj : j.toInt = i) (hi : i < xs.length) (ga : n0 ≤ a) (hd : decode bytes pc = .ok (.aastore, 1)) (hp : pc + 1 = pc') (q : ∀ h', Wr h h' a i v → Go p l e R s m args below meth c n0 h' ce sl (mkF m pc' Ls S) Q) : Go p l e R s m args below meth c n0 h ce sl (mkF m pc Ls (v :: .int j :: .ref a :: S)) Q := by
  subst hp; obtain ⟨cl, A, e1, e2, O⟩ := F
  intro T L0 X N eT
  have hSt : Sto Z h a v := by
    rcases hS with rfl | ⟨y, rfl, I⟩
    · exact Or.inl rfl
    · exact Sto.of A O I
  obtain ⟨T', h', X', e', W, st⟩ := stR X K.1 K.2.1 eT A (inb e1 hj hi) rfl hSt (g := mkF m pc Ls (v :: .int j :: .ref a :: S)) rfl rfl (hb K.2.2.2.1 hd)
  rw [(clamp hj).1] at W
  obtain ⟨s₂, u, L', a1, r⟩ := q h' W T' _ X' (Fr.snoc X' N ga) e'
  exact ⟨s₂, u, L', st _ a1, r⟩
theorem newArr (K : Cx Z own nm bytes ml ret p s m meth c) {aty : ArrayType} {n : Int32} {N : Nat} (w : (Cond.arrayClass (newarray.typeOf aty)).before a0 Z = true) (hn : n.toInt = N) (hb : N * 8 ≤ 536870912) (hd : decode bytes pc = .ok (.newarray aty, 2)) (hc : ce + 1 ≤ R.cells) (hl : sl + N ≤ R.slots) (hp : pc + 2 = pc') (q : ∀ h' x, x = h.size → Ext h h' → Vec Z h' x (newarray.typeOf aty) (List.replicate N (defaultValue (newarray.typeOf aty))) → Go p l e R s m args below meth c n0 h' (ce + 1) (sl + N) (mkF m pc' Ls (.ref x :: S)) Q) : Go p l e R s m args below meth c n0 h ce sl (mkF m pc Ls (.int n :: S)) Q := by
  subst hp
  obtain ⟨c1, c2⟩ := clamp hn
  intro T L0 X N0 eT
  obtain ⟨T', h', cA, X', e', E, A, st⟩ := newP X K.1 K.2.1 w eT (g := mkF m pc Ls (.int n :: S)) rfl (Jvm.hb K.2.2.2.1 hd) rfl c2 (cap := N) (Nat.le_of_eq c1) hb hc hl
  obtain ⟨s₂, u, L', a1, r⟩ := q h' h.size rfl E ⟨_, A, by simp [newA, c1], by simp; omega⟩ T' _ X' N0 e'
  exact ⟨s₂, u, L', st _ a1, r⟩
theorem newArrR (K : Cx Z own nm bytes ml ret p s m meth c) {k : Nat} {C : String} {n : Int32} {N : Nat} (w1 : (Cond.classLink own k C).before a0 Z = true) (w2 : (Cond.arrayOver (.object C)).before a0 Z = true) (hn : n.toInt = N) (hb : N * 8 ≤ 536870912) (hd : decode bytes pc = .ok (.anewarray k, 3)) (hc : ce + 1 ≤ R.cells) (hl : sl + N ≤ R.slots) (hp : pc + 3 = pc') (q : ∀ h' x, x = h.size → Ext h h' → VecR Z h' x C (List.replicate N .null) → Go p l e R s m args below meth c n0 h' (ce + 1) (sl + N) (mkF m pc' Ls (.ref x :: S)) Q) : Go p l e R s m args below meth c n0 h ce sl (mkF m pc Ls (.int n :: S)) Q := by
  subst hp
  obtain ⟨c1, c2⟩ := clamp hn
  intro T L0 X N0 eT
  obtain ⟨T', h', cA, X', e', E, A, O, st⟩ := newR X K.1 K.2.1 K.2.2.1 w1 w2 eT (g := mkF m pc Ls (.int n :: S)) rfl (Jvm.hb K.2.2.2.1 hd) rfl c2 (cap := N) (Nat.le_of_eq c1) hb hc hl
  obtain ⟨s₂, u, L', a1, r⟩ := q h' h.size rfl E ⟨_, A, by simp [newA, c1, defaultValue], by simp; omega, O⟩ T' _ X' N0 e'
  exact ⟨s₂, u, L', st _ a1, r⟩
theorem cast' (K : Cx Z own nm bytes ml ret p s m meth c) {k : Nat} {K' : String} (w : (Cond.classLink own k K').before a0 Z = true) (F : Ins Z h a K' true) (hd : decode bytes pc = .ok (.checkcast k, 3)) (hp : pc + 3 = pc') (q : Go p l e R s m args below meth c n0 h ce sl (mkF m pc' Ls (.ref a :: S)) Q) : Go p l e R s m args below meth c n0 h ce sl (mkF m pc Ls (.ref a :: S)) Q := by
  subst hp; exact oneT (fun T L X eT => castY X K.1 K.2.1 K.2.2.1 w eT F (g := mkF m pc Ls (.ref a :: S)) rfl rfl (hb K.2.2.2.1 hd)) q
end Walk2
/-- a body's walk is its contract -/
theorem ctr {l : Launch} {Z : State} {y : MethodName} {bytes : ByteArray} {ml : Nat} {ret : Option FieldType} {ws : List Cond} {rm : Room} {n0 : Nat} {as' : Array Value} {h : Heap} {Q : Option Value → Heap → Prop} {own nm : String} (ho : y.cls = own) (hn : y.name = nm) {Ls : Array Slot} (hpl : plainFor y = true) (hef : ∀ m : MethodId, entryFrame m as' ml = mkF m 0 Ls [])
    (body : ∀ (p : Program) (e : Env) (s : State) (m : MethodId) (below : List Frame) (meth : Method) (c : Code), Cx Z own nm bytes ml ret p s m meth c → s.heap = h → Go p l e rm s m as' below meth c n0 h 0 0 (mkF m 0 Ls []) Q) : Ctr l Z y bytes ml ret ws rm n0 as' h Q := by
  subst ho hn
  refine MetFree.of_bodySF hpl hisR ?_
  intro p e s m args below meth c s₁ Bd hml hP hK
  obtain ⟨rfl, hZ, hh⟩ := hP
  have X0 : Stand p l e rm s m _ below meth c s₁ [] 0 0 := Stand.of_body Bd
  have e0 : s₁.heap = h := by rw [← hh, Bd.state]; rfl
  obtain ⟨s₂, v, L', a1, a2, a3, a4, a5, a6⟩ := body p e s m below meth c ⟨Bd.exec, hZ, findClass_of_methodNamed Bd.named, Bd.bytes, hml, Bd.returns, BodyLoose.notSynchronized Bd, (name_of_methodNamed Bd.named Bd.method).1⟩ hh s₁ [] X0 (Fr.nil n0) e0
  exact ⟨s₂, _, castTop (hef m) a1, a2, a3, v, L', rfl, ⟨a5, a4⟩, a6⟩
/-- a term that the case sets equal to a double -/
theorem eqD {args : Array Value} {first s : State} {o : Option Outcome} {idx : List Nat} {a b : Term} {n : UInt64} (h : (Cond.eq a b).value args first o s idx = some true) (hb : b.eval args first o idx s = some (.double n)) : a.eval args first o idx s = some (.double n) := by
  simp only [Cond.value, hb] at h
  cases ha : a.eval args first o idx s with
  | none => simp [ha] at h
  | some x => cases x <;> simp [ha] at h ⊢; exact h
/-- a term that the case sets equal to a reference -/
theorem eqR {args : Array Value} {first s : State} {o : Option Outcome} {idx : List Nat} {a b : Term} {n : Addr} (h : (Cond.eq a b).value args first o s idx = some true) (hb : b.eval args first o idx s = some (.ref n)) : a.eval args first o idx s = some (.ref n) := by
  simp only [Cond.value, hb] at h
  cases ha : a.eval args first o idx s with
  | none => simp [ha] at h
  | some x => cases x <;> simp [ha] at h ⊢; exact h
theorem eqI {args : Array Value} {first s : State} {o : Option Outcome} {idx : List Nat} {a b : Term} {n : Int32} (h : (Cond.eq a b).value args first o s idx = some true) (hb : b.eval args first o idx s = some (.int n)) : a.eval args first o idx s = some (.int n) := by
  simp only [Cond.value, hb] at h
  cases ha : a.eval args first o idx s with
  | none => simp [ha] at h
  | some x => cases x <;> simp [ha] at h ⊢; exact h
/-! the branch behind a comparison of doubles -/
def dge (r : Option Ordering) : Prop := r = some .eq ∨ r = some .gt
def dle (r : Option Ordering) : Prop := r = some .lt ∨ r = some .eq
section Dd
variable {r : Option Ordering}
theorem dd_l_eq_t (h : r = some .eq) : ifCond.holds .eq (cmpValue r .l) = true := by
  revert h; try unfold dge
  try unfold dle
  rcases r with _ | (_ | _ | _) <;> decide
theorem dd_l_eq_f (h : ¬ r = some .eq) : ifCond.holds .eq (cmpValue r .l) = false := by
  revert h; try unfold dge
  try unfold dle
  rcases r with _ | (_ | _ | _) <;> decide
theorem dd_l_ne_t (h : ¬ r = some .eq) : ifCond.holds .ne (cmpValue r .l) = true := by
  revert h; try unfold dge
  try unfold dle
  rcases r with _ | (_ | _ | _) <;> decide
theorem dd_l_ne_f (h : r = some .eq) : ifCond.holds .ne (cmpValue r .l) = false := by
  revert h; try unfold dge
  try unfold dle
  rcases r with _ | (_ | _ | _) <;> decide
theorem dd_l_lt_t (h : ¬ dge r) : ifCond.holds .lt (cmpValue r .l) = true := by
  revert h; try unfold dge
  try unfold dle
  rcases r with _ | (_ | _ | _) <;> decide
theorem dd_l_lt_f (h : dge r) : ifCond.holds .lt (cmpValue r .l) = false := by
  revert h; try unfold dge
  try unfold dle
  rcases r with _ | (_ | _ | _) <;> decide
theorem dd_l_ge_t (h : dge r) : ifCond.holds .ge (cmpValue r .l) = true := by
  revert h; try unfold dge
  try unfold dle
  rcases r with _ | (_ | _ | _) <;> decide
theorem dd_l_ge_f (h : ¬ dge r) : ifCond.holds .ge (cmpValue r .l) = false := by
  revert h; try unfold dge
  try unfold dle
  rcases r with _ | (_ | _ | _) <;> decide
theorem dd_l_gt_t (h : r = some .gt) : ifCond.holds .gt (cmpValue r .l) = true := by
  revert h; try unfold dge
  try unfold dle
  rcases r with _ | (_ | _ | _) <;> decide
theorem dd_l_gt_f (h : ¬ r = some .gt) : ifCond.holds .gt (cmpValue r .l) = false := by
  revert h; try unfold dge
  try unfold dle
  rcases r with _ | (_ | _ | _) <;> decide
theorem dd_l_le_t (h : ¬ r = some .gt) : ifCond.holds .le (cmpValue r .l) = true := by
  revert h; try unfold dge
  try unfold dle
  rcases r with _ | (_ | _ | _) <;> decide
theorem dd_l_le_f (h : r = some .gt) : ifCond.holds .le (cmpValue r .l) = false := by
  revert h; try unfold dge
  try unfold dle
  rcases r with _ | (_ | _ | _) <;> decide
theorem dd_g_eq_t (h : r = some .eq) : ifCond.holds .eq (cmpValue r .g) = true := by
  revert h; try unfold dge
  try unfold dle
  rcases r with _ | (_ | _ | _) <;> decide
theorem dd_g_eq_f (h : ¬ r = some .eq) : ifCond.holds .eq (cmpValue r .g) = false := by
  revert h; try unfold dge
  try unfold dle
  rcases r with _ | (_ | _ | _) <;> decide
theorem dd_g_ne_t (h : ¬ r = some .eq) : ifCond.holds .ne (cmpValue r .g) = true := by
  revert h; try unfold dge
  try unfold dle
  rcases r with _ | (_ | _ | _) <;> decide
theorem dd_g_ne_f (h : r = some .eq) : ifCond.holds .ne (cmpValue r .g) = false := by
  revert h; try unfold dge
  try unfold dle
  rcases r with _ | (_ | _ | _) <;> decide
theorem dd_g_lt_t (h : r = some .lt) : ifCond.holds .lt (cmpValue r .g) = true := by
  revert h; try unfold dge
  try unfold dle
  rcases r with _ | (_ | _ | _) <;> decide
theorem dd_g_lt_f (h : ¬ r = some .lt) : ifCond.holds .lt (cmpValue r .g) = false := by
  revert h; try unfold dge
  try unfold dle
  rcases r with _ | (_ | _ | _) <;> decide
theorem dd_g_ge_t (h : ¬ r = some .lt) : ifCond.holds .ge (cmpValue r .g) = true := by
  revert h; try unfold dge
  try unfold dle
  rcases r with _ | (_ | _ | _) <;> decide
theorem dd_g_ge_f (h : r = some .lt) : ifCond.holds .ge (cmpValue r .g) = false := by
  revert h; try unfold dge
  try unfold dle
  rcases r with _ | (_ | _ | _) <;> decide
theorem dd_g_gt_t (h : ¬ dle r) : ifCond.holds .gt (cmpValue r .g) = true := by
  revert h; try unfold dge
  try unfold dle
  rcases r with _ | (_ | _ | _) <;> decide
theorem dd_g_gt_f (h : dle r) : ifCond.holds .gt (cmpValue r .g) = false := by
  revert h; try unfold dge
  try unfold dle
  rcases r with _ | (_ | _ | _) <;> decide
theorem dd_g_le_t (h : dle r) : ifCond.holds .le (cmpValue r .g) = true := by
  revert h; try unfold dge
  try unfold dle
  rcases r with _ | (_ | _ | _) <;> decide
theorem dd_g_le_f (h : ¬ dle r) : ifCond.holds .le (cmpValue r .g) = false := by
  revert h; try unfold dge
  try unfold dle
  rcases r with _ | (_ | _ | _) <;> decide
end Dd
end Jvm.OwnWp
namespace Jvm.Pilot.@@N@@
open Jvm Jvm.ClassFile Sem Op Lib Jvm.Free Jvm.Stand Jvm.LawKit Jvm.RoadKit Bundle Jvm.Pilot.@@N@@.Jvm.D Jvm.OwnWp

theorem d_prog_13_method_1_0 : decode prog_13_method_1_code 0 = .ok (.aload_n 0, 1) := by decide +kernel
theorem d_prog_13_method_1_1 : decode prog_13_method_1_code 1 = .ok (.invokespecial 1, 3) := by decide +kernel
theorem d_prog_13_method_1_4 : decode prog_13_method_1_code 4 = .ok (.aload_n 0, 1) := by decide +kernel
theorem d_prog_13_method_1_5 : decode prog_13_method_1_code 5 = .ok (.bipush 64, 2) := by decide +kernel
theorem d_prog_13_method_1_7 : decode prog_13_method_1_code 7 = .ok (.newarray .double, 2) := by decide +kernel
theorem d_prog_13_method_1_9 : decode prog_13_method_1_code 9 = .ok (.putfield 7, 3) := by decide +kernel
theorem d_prog_13_method_1_12 : decode prog_13_method_1_code 12 = .ok (.aload_n 0, 1) := by decide +kernel
theorem d_prog_13_method_1_13 : decode prog_13_method_1_code 13 = .ok (.bipush 64, 2) := by decide +kernel
theorem d_prog_13_method_1_15 : decode prog_13_method_1_code 15 = .ok (.newarray .int, 2) := by decide +kernel
theorem d_prog_13_method_1_17 : decode prog_13_method_1_code 17 = .ok (.putfield 13, 3) := by decide +kernel
theorem d_prog_13_method_1_20 : decode prog_13_method_1_code 20 = .ok (.return_, 1) := by decide +kernel
theorem d_prog_13_method_2_0 : decode prog_13_method_2_code 0 = .ok (.aload_n 0, 1) := by decide +kernel
theorem d_prog_13_method_2_1 : decode prog_13_method_2_code 1 = .ok (.getfield 17, 3) := by decide +kernel
theorem d_prog_13_method_2_4 : decode prog_13_method_2_code 4 = .ok (.ifCond .ne 7, 3) := by decide +kernel
theorem d_prog_13_method_2_7 : decode prog_13_method_2_code 7 = .ok (.iconst 1, 1) := by decide +kernel
theorem d_prog_13_method_2_8 : decode prog_13_method_2_code 8 = .ok (.goto 4, 3) := by decide +kernel
theorem d_prog_13_method_2_11 : decode prog_13_method_2_code 11 = .ok (.iconst 0, 1) := by decide +kernel
theorem d_prog_13_method_2_12 : decode prog_13_method_2_code 12 = .ok (.ireturn, 1) := by decide +kernel
theorem d_prog_13_method_3_0 : decode prog_13_method_3_code 0 = .ok (.aload_n 0, 1) := by decide +kernel
theorem d_prog_13_method_3_1 : decode prog_13_method_3_code 1 = .ok (.getfield 17, 3) := by decide +kernel
theorem d_prog_13_method_3_4 : decode prog_13_method_3_code 4 = .ok (.aload_n 0, 1) := by decide +kernel
theorem d_prog_13_method_3_5 : decode prog_13_method_3_code 5 = .ok (.getfield 7, 3) := by decide +kernel
theorem d_prog_13_method_3_8 : decode prog_13_method_3_code 8 = .ok (.arraylength, 1) := by decide +kernel
theorem d_prog_13_method_3_9 : decode prog_13_method_3_code 9 = .ok (.if_icmp .ne 37, 3) := by decide +kernel
theorem d_prog_13_method_3_46 : decode prog_13_method_3_code 46 = .ok (.aload_n 0, 1) := by decide +kernel
theorem d_prog_13_method_3_47 : decode prog_13_method_3_code 47 = .ok (.dup, 1) := by decide +kernel
theorem d_prog_13_method_3_48 : decode prog_13_method_3_code 48 = .ok (.getfield 17, 3) := by decide +kernel
theorem d_prog_13_method_3_51 : decode prog_13_method_3_code 51 = .ok (.dup_x1, 1) := by decide +kernel
theorem d_prog_13_method_3_52 : decode prog_13_method_3_code 52 = .ok (.iconst 1, 1) := by decide +kernel
theorem d_prog_13_method_3_53 : decode prog_13_method_3_code 53 = .ok (.iadd, 1) := by decide +kernel
theorem d_prog_13_method_3_54 : decode prog_13_method_3_code 54 = .ok (.putfield 17, 3) := by decide +kernel
theorem d_prog_13_method_3_57 : decode prog_13_method_3_code 57 = .ok (.istore 4, 2) := by decide +kernel
theorem d_prog_13_method_3_59 : decode prog_13_method_3_code 59 = .ok (.iload 4, 2) := by decide +kernel
theorem d_prog_13_method_3_61 : decode prog_13_method_3_code 61 = .ok (.ifCond .le 62, 3) := by decide +kernel
theorem d_prog_13_method_3_64 : decode prog_13_method_3_code 64 = .ok (.aload_n 0, 1) := by decide +kernel
theorem d_prog_13_method_3_65 : decode prog_13_method_3_code 65 = .ok (.getfield 7, 3) := by decide +kernel
theorem d_prog_13_method_3_68 : decode prog_13_method_3_code 68 = .ok (.iload 4, 2) := by decide +kernel
theorem d_prog_13_method_3_70 : decode prog_13_method_3_code 70 = .ok (.iconst 1, 1) := by decide +kernel
theorem d_prog_13_method_3_71 : decode prog_13_method_3_code 71 = .ok (.isub, 1) := by decide +kernel
theorem d_prog_13_method_3_72 : decode prog_13_method_3_code 72 = .ok (.iconst 2, 1) := by decide +kernel
theorem d_prog_13_method_3_73 : decode prog_13_method_3_code 73 = .ok (.idiv, 1) := by decide +kernel
theorem d_prog_13_method_3_74 : decode prog_13_method_3_code 74 = .ok (.daload, 1) := by decide +kernel
theorem d_prog_13_method_3_75 : decode prog_13_method_3_code 75 = .ok (.dload_n 2, 1) := by decide +kernel
theorem d_prog_13_method_3_76 : decode prog_13_method_3_code 76 = .ok (.dcmp .l, 1) := by decide +kernel
theorem d_prog_13_method_3_77 : decode prog_13_method_3_code 77 = .ok (.ifCond .le 46, 3) := by decide +kernel
theorem d_prog_13_method_3_80 : decode prog_13_method_3_code 80 = .ok (.iload 4, 2) := by decide +kernel
theorem d_prog_13_method_3_82 : decode prog_13_method_3_code 82 = .ok (.iconst 1, 1) := by decide +kernel
theorem d_prog_13_method_3_83 : decode prog_13_method_3_code 83 = .ok (.isub, 1) := by decide +kernel
theorem d_prog_13_method_3_84 : decode prog_13_method_3_code 84 = .ok (.iconst 2, 1) := by decide +kernel
theorem d_prog_13_method_3_85 : decode prog_13_method_3_code 85 = .ok (.idiv, 1) := by decide +kernel
theorem d_prog_13_method_3_86 : decode prog_13_method_3_code 86 = .ok (.istore 5, 2) := by decide +kernel
theorem d_prog_13_method_3_88 : decode prog_13_method_3_code 88 = .ok (.aload_n 0, 1) := by decide +kernel
theorem d_prog_13_method_3_89 : decode prog_13_method_3_code 89 = .ok (.getfield 7, 3) := by decide +kernel
theorem d_prog_13_method_3_92 : decode prog_13_method_3_code 92 = .ok (.iload 4, 2) := by decide +kernel
theorem d_prog_13_method_3_94 : decode prog_13_method_3_code 94 = .ok (.aload_n 0, 1) := by decide +kernel
theorem d_prog_13_method_3_95 : decode prog_13_method_3_code 95 = .ok (.getfield 7, 3) := by decide +kernel
theorem d_prog_13_method_3_98 : decode prog_13_method_3_code 98 = .ok (.iload 5, 2) := by decide +kernel
theorem d_prog_13_method_3_100 : decode prog_13_method_3_code 100 = .ok (.daload, 1) := by decide +kernel
theorem d_prog_13_method_3_101 : decode prog_13_method_3_code 101 = .ok (.dastore, 1) := by decide +kernel
theorem d_prog_13_method_3_102 : decode prog_13_method_3_code 102 = .ok (.aload_n 0, 1) := by decide +kernel
theorem d_prog_13_method_3_103 : decode prog_13_method_3_code 103 = .ok (.getfield 13, 3) := by decide +kernel
theorem d_prog_13_method_3_106 : decode prog_13_method_3_code 106 = .ok (.iload 4, 2) := by decide +kernel
theorem d_prog_13_method_3_108 : decode prog_13_method_3_code 108 = .ok (.aload_n 0, 1) := by decide +kernel
theorem d_prog_13_method_3_109 : decode prog_13_method_3_code 109 = .ok (.getfield 13, 3) := by decide +kernel
theorem d_prog_13_method_3_112 : decode prog_13_method_3_code 112 = .ok (.iload 5, 2) := by decide +kernel
theorem d_prog_13_method_3_114 : decode prog_13_method_3_code 114 = .ok (.iaload, 1) := by decide +kernel
theorem d_prog_13_method_3_115 : decode prog_13_method_3_code 115 = .ok (.iastore, 1) := by decide +kernel
theorem d_prog_13_method_3_116 : decode prog_13_method_3_code 116 = .ok (.iload 5, 2) := by decide +kernel
theorem d_prog_13_method_3_118 : decode prog_13_method_3_code 118 = .ok (.istore 4, 2) := by decide +kernel
theorem d_prog_13_method_3_120 : decode prog_13_method_3_code 120 = .ok (.goto (-61), 3) := by decide +kernel
theorem d_prog_13_method_3_123 : decode prog_13_method_3_code 123 = .ok (.aload_n 0, 1) := by decide +kernel
theorem d_prog_13_method_3_124 : decode prog_13_method_3_code 124 = .ok (.getfield 7, 3) := by decide +kernel
theorem d_prog_13_method_3_127 : decode prog_13_method_3_code 127 = .ok (.iload 4, 2) := by decide +kernel
theorem d_prog_13_method_3_129 : decode prog_13_method_3_code 129 = .ok (.dload_n 2, 1) := by decide +kernel
theorem d_prog_13_method_3_130 : decode prog_13_method_3_code 130 = .ok (.dastore, 1) := by decide +kernel
theorem d_prog_13_method_3_131 : decode prog_13_method_3_code 131 = .ok (.aload_n 0, 1) := by decide +kernel
theorem d_prog_13_method_3_132 : decode prog_13_method_3_code 132 = .ok (.getfield 13, 3) := by decide +kernel
theorem d_prog_13_method_3_135 : decode prog_13_method_3_code 135 = .ok (.iload 4, 2) := by decide +kernel
theorem d_prog_13_method_3_137 : decode prog_13_method_3_code 137 = .ok (.iload_n 1, 1) := by decide +kernel
theorem d_prog_13_method_3_138 : decode prog_13_method_3_code 138 = .ok (.iastore, 1) := by decide +kernel
theorem d_prog_13_method_3_139 : decode prog_13_method_3_code 139 = .ok (.return_, 1) := by decide +kernel
theorem d_prog_13_method_4_0 : decode prog_13_method_4_code 0 = .ok (.aload_n 0, 1) := by decide +kernel
theorem d_prog_13_method_4_1 : decode prog_13_method_4_code 1 = .ok (.getfield 13, 3) := by decide +kernel
theorem d_prog_13_method_4_4 : decode prog_13_method_4_code 4 = .ok (.iconst 0, 1) := by decide +kernel
theorem d_prog_13_method_4_5 : decode prog_13_method_4_code 5 = .ok (.iaload, 1) := by decide +kernel
theorem d_prog_13_method_4_6 : decode prog_13_method_4_code 6 = .ok (.istore_n 1, 1) := by decide +kernel
theorem d_prog_13_method_4_7 : decode prog_13_method_4_code 7 = .ok (.aload_n 0, 1) := by decide +kernel
theorem d_prog_13_method_4_8 : decode prog_13_method_4_code 8 = .ok (.dup, 1) := by decide +kernel
theorem d_prog_13_method_4_9 : decode prog_13_method_4_code 9 = .ok (.getfield 17, 3) := by decide +kernel
theorem d_prog_13_method_4_12 : decode prog_13_method_4_code 12 = .ok (.iconst 1, 1) := by decide +kernel
theorem d_prog_13_method_4_13 : decode prog_13_method_4_code 13 = .ok (.isub, 1) := by decide +kernel
theorem d_prog_13_method_4_14 : decode prog_13_method_4_code 14 = .ok (.putfield 17, 3) := by decide +kernel
theorem d_prog_13_method_4_17 : decode prog_13_method_4_code 17 = .ok (.aload_n 0, 1) := by decide +kernel
theorem d_prog_13_method_4_18 : decode prog_13_method_4_code 18 = .ok (.getfield 7, 3) := by decide +kernel
theorem d_prog_13_method_4_21 : decode prog_13_method_4_code 21 = .ok (.aload_n 0, 1) := by decide +kernel
theorem d_prog_13_method_4_22 : decode prog_13_method_4_code 22 = .ok (.getfield 17, 3) := by decide +kernel
theorem d_prog_13_method_4_25 : decode prog_13_method_4_code 25 = .ok (.daload, 1) := by decide +kernel
theorem d_prog_13_method_4_26 : decode prog_13_method_4_code 26 = .ok (.dstore_n 2, 1) := by decide +kernel
theorem d_prog_13_method_4_27 : decode prog_13_method_4_code 27 = .ok (.aload_n 0, 1) := by decide +kernel
theorem d_prog_13_method_4_28 : decode prog_13_method_4_code 28 = .ok (.getfield 13, 3) := by decide +kernel
theorem d_prog_13_method_4_31 : decode prog_13_method_4_code 31 = .ok (.aload_n 0, 1) := by decide +kernel
theorem d_prog_13_method_4_32 : decode prog_13_method_4_code 32 = .ok (.getfield 17, 3) := by decide +kernel
theorem d_prog_13_method_4_35 : decode prog_13_method_4_code 35 = .ok (.iaload, 1) := by decide +kernel
theorem d_prog_13_method_4_36 : decode prog_13_method_4_code 36 = .ok (.istore 4, 2) := by decide +kernel
theorem d_prog_13_method_4_38 : decode prog_13_method_4_code 38 = .ok (.iconst 0, 1) := by decide +kernel
theorem d_prog_13_method_4_39 : decode prog_13_method_4_code 39 = .ok (.istore 5, 2) := by decide +kernel
theorem d_prog_13_method_4_41 : decode prog_13_method_4_code 41 = .ok (.iconst 2, 1) := by decide +kernel
theorem d_prog_13_method_4_42 : decode prog_13_method_4_code 42 = .ok (.iload 5, 2) := by decide +kernel
theorem d_prog_13_method_4_44 : decode prog_13_method_4_code 44 = .ok (.imul, 1) := by decide +kernel
theorem d_prog_13_method_4_45 : decode prog_13_method_4_code 45 = .ok (.iconst 1, 1) := by decide +kernel
theorem d_prog_13_method_4_46 : decode prog_13_method_4_code 46 = .ok (.iadd, 1) := by decide +kernel
theorem d_prog_13_method_4_47 : decode prog_13_method_4_code 47 = .ok (.aload_n 0, 1) := by decide +kernel
theorem d_prog_13_method_4_48 : decode prog_13_method_4_code 48 = .ok (.getfield 17, 3) := by decide +kernel
theorem d_prog_13_method_4_51 : decode prog_13_method_4_code 51 = .ok (.if_icmp .ge 95, 3) := by decide +kernel
theorem d_prog_13_method_4_54 : decode prog_13_method_4_code 54 = .ok (.iconst 2, 1) := by decide +kernel
theorem d_prog_13_method_4_55 : decode prog_13_method_4_code 55 = .ok (.iload 5, 2) := by decide +kernel
theorem d_prog_13_method_4_57 : decode prog_13_method_4_code 57 = .ok (.imul, 1) := by decide +kernel
theorem d_prog_13_method_4_58 : decode prog_13_method_4_code 58 = .ok (.iconst 1, 1) := by decide +kernel
theorem d_prog_13_method_4_59 : decode prog_13_method_4_code 59 = .ok (.iadd, 1) := by decide +kernel
theorem d_prog_13_method_4_60 : decode prog_13_method_4_code 60 = .ok (.istore 6, 2) := by decide +kernel
theorem d_prog_13_method_4_62 : decode prog_13_method_4_code 62 = .ok (.iload 6, 2) := by decide +kernel
theorem d_prog_13_method_4_64 : decode prog_13_method_4_code 64 = .ok (.iconst 1, 1) := by decide +kernel
theorem d_prog_13_method_4_65 : decode prog_13_method_4_code 65 = .ok (.iadd, 1) := by decide +kernel
theorem d_prog_13_method_4_66 : decode prog_13_method_4_code 66 = .ok (.aload_n 0, 1) := by decide +kernel
theorem d_prog_13_method_4_67 : decode prog_13_method_4_code 67 = .ok (.getfield 17, 3) := by decide +kernel
theorem d_prog_13_method_4_70 : decode prog_13_method_4_code 70 = .ok (.if_icmp .ge 26, 3) := by decide +kernel
theorem d_prog_13_method_4_73 : decode prog_13_method_4_code 73 = .ok (.aload_n 0, 1) := by decide +kernel
theorem d_prog_13_method_4_74 : decode prog_13_method_4_code 74 = .ok (.getfield 7, 3) := by decide +kernel
theorem d_prog_13_method_4_77 : decode prog_13_method_4_code 77 = .ok (.iload 6, 2) := by decide +kernel
theorem d_prog_13_method_4_79 : decode prog_13_method_4_code 79 = .ok (.iconst 1, 1) := by decide +kernel
theorem d_prog_13_method_4_80 : decode prog_13_method_4_code 80 = .ok (.iadd, 1) := by decide +kernel
theorem d_prog_13_method_4_81 : decode prog_13_method_4_code 81 = .ok (.daload, 1) := by decide +kernel
theorem d_prog_13_method_4_82 : decode prog_13_method_4_code 82 = .ok (.aload_n 0, 1) := by decide +kernel
theorem d_prog_13_method_4_83 : decode prog_13_method_4_code 83 = .ok (.getfield 7, 3) := by decide +kernel
theorem d_prog_13_method_4_86 : decode prog_13_method_4_code 86 = .ok (.iload 6, 2) := by decide +kernel
theorem d_prog_13_method_4_88 : decode prog_13_method_4_code 88 = .ok (.daload, 1) := by decide +kernel
theorem d_prog_13_method_4_89 : decode prog_13_method_4_code 89 = .ok (.dcmp .g, 1) := by decide +kernel
theorem d_prog_13_method_4_90 : decode prog_13_method_4_code 90 = .ok (.ifCond .ge 6, 3) := by decide +kernel
theorem d_prog_13_method_4_93 : decode prog_13_method_4_code 93 = .ok (.iinc 6 1, 3) := by decide +kernel
theorem d_prog_13_method_4_96 : decode prog_13_method_4_code 96 = .ok (.aload_n 0, 1) := by decide +kernel
theorem d_prog_13_method_4_97 : decode prog_13_method_4_code 97 = .ok (.getfield 7, 3) := by decide +kernel
theorem d_prog_13_method_4_100 : decode prog_13_method_4_code 100 = .ok (.iload 6, 2) := by decide +kernel
theorem d_prog_13_method_4_102 : decode prog_13_method_4_code 102 = .ok (.daload, 1) := by decide +kernel
theorem d_prog_13_method_4_103 : decode prog_13_method_4_code 103 = .ok (.dload_n 2, 1) := by decide +kernel
theorem d_prog_13_method_4_104 : decode prog_13_method_4_code 104 = .ok (.dcmp .l, 1) := by decide +kernel
theorem d_prog_13_method_4_105 : decode prog_13_method_4_code 105 = .ok (.ifCond .lt 6, 3) := by decide +kernel
theorem d_prog_13_method_4_108 : decode prog_13_method_4_code 108 = .ok (.goto 38, 3) := by decide +kernel
theorem d_prog_13_method_4_111 : decode prog_13_method_4_code 111 = .ok (.aload_n 0, 1) := by decide +kernel
theorem d_prog_13_method_4_112 : decode prog_13_method_4_code 112 = .ok (.getfield 7, 3) := by decide +kernel
theorem d_prog_13_method_4_115 : decode prog_13_method_4_code 115 = .ok (.iload 5, 2) := by decide +kernel
theorem d_prog_13_method_4_117 : decode prog_13_method_4_code 117 = .ok (.aload_n 0, 1) := by decide +kernel
theorem d_prog_13_method_4_118 : decode prog_13_method_4_code 118 = .ok (.getfield 7, 3) := by decide +kernel
theorem d_prog_13_method_4_121 : decode prog_13_method_4_code 121 = .ok (.iload 6, 2) := by decide +kernel
theorem d_prog_13_method_4_123 : decode prog_13_method_4_code 123 = .ok (.daload, 1) := by decide +kernel
theorem d_prog_13_method_4_124 : decode prog_13_method_4_code 124 = .ok (.dastore, 1) := by decide +kernel
theorem d_prog_13_method_4_125 : decode prog_13_method_4_code 125 = .ok (.aload_n 0, 1) := by decide +kernel
theorem d_prog_13_method_4_126 : decode prog_13_method_4_code 126 = .ok (.getfield 13, 3) := by decide +kernel
theorem d_prog_13_method_4_129 : decode prog_13_method_4_code 129 = .ok (.iload 5, 2) := by decide +kernel
theorem d_prog_13_method_4_131 : decode prog_13_method_4_code 131 = .ok (.aload_n 0, 1) := by decide +kernel
theorem d_prog_13_method_4_132 : decode prog_13_method_4_code 132 = .ok (.getfield 13, 3) := by decide +kernel
theorem d_prog_13_method_4_135 : decode prog_13_method_4_code 135 = .ok (.iload 6, 2) := by decide +kernel
theorem d_prog_13_method_4_137 : decode prog_13_method_4_code 137 = .ok (.iaload, 1) := by decide +kernel
theorem d_prog_13_method_4_138 : decode prog_13_method_4_code 138 = .ok (.iastore, 1) := by decide +kernel
theorem d_prog_13_method_4_139 : decode prog_13_method_4_code 139 = .ok (.iload 6, 2) := by decide +kernel
theorem d_prog_13_method_4_141 : decode prog_13_method_4_code 141 = .ok (.istore 5, 2) := by decide +kernel
theorem d_prog_13_method_4_143 : decode prog_13_method_4_code 143 = .ok (.goto (-102), 3) := by decide +kernel
theorem d_prog_13_method_4_146 : decode prog_13_method_4_code 146 = .ok (.aload_n 0, 1) := by decide +kernel
theorem d_prog_13_method_4_147 : decode prog_13_method_4_code 147 = .ok (.getfield 7, 3) := by decide +kernel
theorem d_prog_13_method_4_150 : decode prog_13_method_4_code 150 = .ok (.iload 5, 2) := by decide +kernel
theorem d_prog_13_method_4_152 : decode prog_13_method_4_code 152 = .ok (.dload_n 2, 1) := by decide +kernel
theorem d_prog_13_method_4_153 : decode prog_13_method_4_code 153 = .ok (.dastore, 1) := by decide +kernel
theorem d_prog_13_method_4_154 : decode prog_13_method_4_code 154 = .ok (.aload_n 0, 1) := by decide +kernel
theorem d_prog_13_method_4_155 : decode prog_13_method_4_code 155 = .ok (.getfield 13, 3) := by decide +kernel
theorem d_prog_13_method_4_158 : decode prog_13_method_4_code 158 = .ok (.iload 5, 2) := by decide +kernel
theorem d_prog_13_method_4_160 : decode prog_13_method_4_code 160 = .ok (.iload 4, 2) := by decide +kernel
theorem d_prog_13_method_4_162 : decode prog_13_method_4_code 162 = .ok (.iastore, 1) := by decide +kernel
theorem d_prog_13_method_4_163 : decode prog_13_method_4_code 163 = .ok (.iload_n 1, 1) := by decide +kernel
theorem d_prog_13_method_4_164 : decode prog_13_method_4_code 164 = .ok (.ireturn, 1) := by decide +kernel
theorem wd0 {a0 : Array Value} {Z : State} (hw : ∀ d ∈ tables_1, d.before a0 Z = true) : Jvm.Cond.before (Jvm.Cond.classLink "com/example/routeloom/routeloom/MinQueueIsEmptyPinLaw" (7 : Nat) "com/example/routeloom/routeloom/MinQueue") a0 Z = true := hw _ (List.mem_of_getElem? (i := 0) rfl)
theorem wd1 {a0 : Array Value} {Z : State} (hw : ∀ d ∈ tables_1, d.before a0 Z = true) : Jvm.Cond.before (Jvm.Cond.instantiable "com/example/routeloom/routeloom/MinQueue" (3 : Nat)) a0 Z = true := hw _ (List.mem_of_getElem? (i := 1) rfl)
theorem wd2 {a0 : Array Value} {Z : State} (hw : ∀ d ∈ tables_1, d.before a0 Z = true) : Jvm.Cond.before (Jvm.Cond.initialized "com/example/routeloom/routeloom/MinQueue") a0 Z = true := hw _ (List.mem_of_getElem? (i := 2) rfl)
theorem wd3 {a0 : Array Value} {Z : State} (hw : ∀ d ∈ tables_1, d.before a0 Z = true) : Jvm.Cond.before (Jvm.Cond.methodLink "com/example/routeloom/routeloom/MinQueueIsEmptyPinLaw" (9 : Nat) ({ cls := "com/example/routeloom/routeloom/MinQueue", name := "<init>", desc := "()V" } : Jvm.MethodName)) a0 Z = true := hw _ (List.mem_of_getElem? (i := 3) rfl)
theorem wd4 {a0 : Array Value} {Z : State} (hw : ∀ d ∈ tables_1, d.before a0 Z = true) : Jvm.Cond.before (Jvm.Cond.instanceMethod ({ cls := "com/example/routeloom/routeloom/MinQueue", name := "<init>", desc := "()V" } : Jvm.MethodName)) a0 Z = true := hw _ (List.mem_of_getElem? (i := 4) rfl)
theorem wd5 {a0 : Array Value} {Z : State} (hw : ∀ d ∈ tables_1, d.before a0 Z = true) : Jvm.Cond.before (Jvm.Cond.code ({ cls := "com/example/routeloom/routeloom/MinQueue", name := "<init>", desc := "()V" } : Jvm.MethodName) prog_13_method_1_code (1 : Nat) (Option.none : Option Jvm.ClassFile.FieldType)) a0 Z = true := hw _ (List.mem_of_getElem? (i := 5) rfl)
theorem wd6 {a0 : Array Value} {Z : State} (hw : ∀ d ∈ tables_1, d.before a0 Z = true) : Jvm.Cond.before (Jvm.Cond.methodLink "com/example/routeloom/routeloom/MinQueue" (1 : Nat) ({ cls := "java/lang/Object", name := "<init>", desc := "()V" } : Jvm.MethodName)) a0 Z = true := hw _ (List.mem_of_getElem? (i := 6) rfl)
theorem wd7 {a0 : Array Value} {Z : State} (hw : ∀ d ∈ tables_1, d.before a0 Z = true) : Jvm.Cond.before (Jvm.Cond.instanceMethod ({ cls := "java/lang/Object", name := "<init>", desc := "()V" } : Jvm.MethodName)) a0 Z = true := hw _ (List.mem_of_getElem? (i := 7) rfl)
theorem wd8 {a0 : Array Value} {Z : State} (hw : ∀ d ∈ tables_1, d.before a0 Z = true) : Jvm.Cond.before (Jvm.Cond.code ({ cls := "java/lang/Object", name := "<init>", desc := "()V" } : Jvm.MethodName) object_method_1_code (1 : Nat) (Option.none : Option Jvm.ClassFile.FieldType)) a0 Z = true := hw _ (List.mem_of_getElem? (i := 8) rfl)
theorem wd9 {a0 : Array Value} {Z : State} (hw : ∀ d ∈ tables_1, d.before a0 Z = true) : Jvm.Cond.before (Jvm.Cond.arrayClass Jvm.ClassFile.FieldType.double) a0 Z = true := hw _ (List.mem_of_getElem? (i := 9) rfl)
theorem wd10 {a0 : Array Value} {Z : State} (hw : ∀ d ∈ tables_1, d.before a0 Z = true) : Jvm.Cond.before (Jvm.Cond.fieldLink "com/example/routeloom/routeloom/MinQueue" (7 : Nat) "com/example/routeloom/routeloom/MinQueue" "keys" "[D") a0 Z = true := hw _ (List.mem_of_getElem? (i := 10) rfl)
theorem wd11 {a0 : Array Value} {Z : State} (hw : ∀ d ∈ tables_1, d.before a0 Z = true) : Jvm.Cond.before (Jvm.Cond.lays "com/example/routeloom/routeloom/MinQueue" "com/example/routeloom/routeloom/MinQueue" "keys" "[D") a0 Z = true := hw _ (List.mem_of_getElem? (i := 11) rfl)
theorem wd12 {a0 : Array Value} {Z : State} (hw : ∀ d ∈ tables_1, d.before a0 Z = true) : Jvm.Cond.before (Jvm.Cond.arrayClass Jvm.ClassFile.FieldType.int) a0 Z = true := hw _ (List.mem_of_getElem? (i := 12) rfl)
theorem wd13 {a0 : Array Value} {Z : State} (hw : ∀ d ∈ tables_1, d.before a0 Z = true) : Jvm.Cond.before (Jvm.Cond.fieldLink "com/example/routeloom/routeloom/MinQueue" (13 : Nat) "com/example/routeloom/routeloom/MinQueue" "items" "[I") a0 Z = true := hw _ (List.mem_of_getElem? (i := 13) rfl)
theorem wd14 {a0 : Array Value} {Z : State} (hw : ∀ d ∈ tables_1, d.before a0 Z = true) : Jvm.Cond.before (Jvm.Cond.lays "com/example/routeloom/routeloom/MinQueue" "com/example/routeloom/routeloom/MinQueue" "items" "[I") a0 Z = true := hw _ (List.mem_of_getElem? (i := 14) rfl)
theorem wd15 {a0 : Array Value} {Z : State} (hw : ∀ d ∈ tables_1, d.before a0 Z = true) : Jvm.Cond.before (Jvm.Cond.methodLink "com/example/routeloom/routeloom/MinQueueIsEmptyPinLaw" (10 : Nat) ({ cls := "com/example/routeloom/routeloom/MinQueue", name := "isEmpty", desc := "()Z" } : Jvm.MethodName)) a0 Z = true := hw _ (List.mem_of_getElem? (i := 15) rfl)
theorem wd16 {a0 : Array Value} {Z : State} (hw : ∀ d ∈ tables_1, d.before a0 Z = true) : Jvm.Cond.before (Jvm.Cond.declares ({ cls := "com/example/routeloom/routeloom/MinQueue", name := "isEmpty", desc := "()Z" } : Jvm.MethodName)) a0 Z = true := hw _ (List.mem_of_getElem? (i := 16) rfl)
theorem wd17 {a0 : Array Value} {Z : State} (hw : ∀ d ∈ tables_1, d.before a0 Z = true) : Jvm.Cond.before (Jvm.Cond.instanceMethod ({ cls := "com/example/routeloom/routeloom/MinQueue", name := "isEmpty", desc := "()Z" } : Jvm.MethodName)) a0 Z = true := hw _ (List.mem_of_getElem? (i := 17) rfl)
theorem wd18 {a0 : Array Value} {Z : State} (hw : ∀ d ∈ tables_1, d.before a0 Z = true) : Jvm.Cond.before (Jvm.Cond.selects "com/example/routeloom/routeloom/MinQueue" ({ cls := "com/example/routeloom/routeloom/MinQueue", name := "isEmpty", desc := "()Z" } : Jvm.MethodName) ({ cls := "com/example/routeloom/routeloom/MinQueue", name := "isEmpty", desc := "()Z" } : Jvm.MethodName)) a0 Z = true := hw _ (List.mem_of_getElem? (i := 18) rfl)
theorem wd19 {a0 : Array Value} {Z : State} (hw : ∀ d ∈ tables_1, d.before a0 Z = true) : Jvm.Cond.before (Jvm.Cond.code ({ cls := "com/example/routeloom/routeloom/MinQueue", name := "isEmpty", desc := "()Z" } : Jvm.MethodName) prog_13_method_2_code (1 : Nat) (Option.some Jvm.ClassFile.FieldType.boolean)) a0 Z = true := hw _ (List.mem_of_getElem? (i := 19) rfl)
theorem wd20 {a0 : Array Value} {Z : State} (hw : ∀ d ∈ tables_1, d.before a0 Z = true) : Jvm.Cond.before (Jvm.Cond.fieldLink "com/example/routeloom/routeloom/MinQueue" (17 : Nat) "com/example/routeloom/routeloom/MinQueue" "size" "I") a0 Z = true := hw _ (List.mem_of_getElem? (i := 20) rfl)
theorem wd21 {a0 : Array Value} {Z : State} (hw : ∀ d ∈ tables_1, d.before a0 Z = true) : Jvm.Cond.before (Jvm.Cond.lays "com/example/routeloom/routeloom/MinQueue" "com/example/routeloom/routeloom/MinQueue" "size" "I") a0 Z = true := hw _ (List.mem_of_getElem? (i := 21) rfl)
theorem wd22 {a0 : Array Value} {Z : State} (hw : ∀ d ∈ tables_1, d.before a0 Z = true) : Jvm.Cond.before (Jvm.Cond.methodLink "com/example/routeloom/routeloom/MinQueueIsEmptyPinLaw" (14 : Nat) ({ cls := "com/example/routeloom/routeloom/MinQueue", name := "add", desc := "(ID)V" } : Jvm.MethodName)) a0 Z = true := hw _ (List.mem_of_getElem? (i := 22) rfl)
theorem wd23 {a0 : Array Value} {Z : State} (hw : ∀ d ∈ tables_1, d.before a0 Z = true) : Jvm.Cond.before (Jvm.Cond.declares ({ cls := "com/example/routeloom/routeloom/MinQueue", name := "add", desc := "(ID)V" } : Jvm.MethodName)) a0 Z = true := hw _ (List.mem_of_getElem? (i := 23) rfl)
theorem wd24 {a0 : Array Value} {Z : State} (hw : ∀ d ∈ tables_1, d.before a0 Z = true) : Jvm.Cond.before (Jvm.Cond.instanceMethod ({ cls := "com/example/routeloom/routeloom/MinQueue", name := "add", desc := "(ID)V" } : Jvm.MethodName)) a0 Z = true := hw _ (List.mem_of_getElem? (i := 24) rfl)
theorem wd25 {a0 : Array Value} {Z : State} (hw : ∀ d ∈ tables_1, d.before a0 Z = true) : Jvm.Cond.before (Jvm.Cond.selects "com/example/routeloom/routeloom/MinQueue" ({ cls := "com/example/routeloom/routeloom/MinQueue", name := "add", desc := "(ID)V" } : Jvm.MethodName) ({ cls := "com/example/routeloom/routeloom/MinQueue", name := "add", desc := "(ID)V" } : Jvm.MethodName)) a0 Z = true := hw _ (List.mem_of_getElem? (i := 25) rfl)
theorem wd26 {a0 : Array Value} {Z : State} (hw : ∀ d ∈ tables_1, d.before a0 Z = true) : Jvm.Cond.before (Jvm.Cond.code ({ cls := "com/example/routeloom/routeloom/MinQueue", name := "add", desc := "(ID)V" } : Jvm.MethodName) prog_13_method_3_code (6 : Nat) (Option.none : Option Jvm.ClassFile.FieldType)) a0 Z = true := hw _ (List.mem_of_getElem? (i := 26) rfl)
theorem wd27 {a0 : Array Value} {Z : State} (hw : ∀ d ∈ tables_1, d.before a0 Z = true) : Jvm.Cond.before (Jvm.Cond.methodLink "com/example/routeloom/routeloom/MinQueueIsEmptyPinLaw" (18 : Nat) ({ cls := "com/example/routeloom/routeloom/MinQueue", name := "removeMin", desc := "()I" } : Jvm.MethodName)) a0 Z = true := hw _ (List.mem_of_getElem? (i := 27) rfl)
theorem wd28 {a0 : Array Value} {Z : State} (hw : ∀ d ∈ tables_1, d.before a0 Z = true) : Jvm.Cond.before (Jvm.Cond.declares ({ cls := "com/example/routeloom/routeloom/MinQueue", name := "removeMin", desc := "()I" } : Jvm.MethodName)) a0 Z = true := hw _ (List.mem_of_getElem? (i := 28) rfl)
theorem wd29 {a0 : Array Value} {Z : State} (hw : ∀ d ∈ tables_1, d.before a0 Z = true) : Jvm.Cond.before (Jvm.Cond.instanceMethod ({ cls := "com/example/routeloom/routeloom/MinQueue", name := "removeMin", desc := "()I" } : Jvm.MethodName)) a0 Z = true := hw _ (List.mem_of_getElem? (i := 29) rfl)
theorem wd30 {a0 : Array Value} {Z : State} (hw : ∀ d ∈ tables_1, d.before a0 Z = true) : Jvm.Cond.before (Jvm.Cond.selects "com/example/routeloom/routeloom/MinQueue" ({ cls := "com/example/routeloom/routeloom/MinQueue", name := "removeMin", desc := "()I" } : Jvm.MethodName) ({ cls := "com/example/routeloom/routeloom/MinQueue", name := "removeMin", desc := "()I" } : Jvm.MethodName)) a0 Z = true := hw _ (List.mem_of_getElem? (i := 30) rfl)
theorem wd31 {a0 : Array Value} {Z : State} (hw : ∀ d ∈ tables_1, d.before a0 Z = true) : Jvm.Cond.before (Jvm.Cond.code ({ cls := "com/example/routeloom/routeloom/MinQueue", name := "removeMin", desc := "()I" } : Jvm.MethodName) prog_13_method_4_code (7 : Nat) (Option.some Jvm.ClassFile.FieldType.int)) a0 Z = true := hw _ (List.mem_of_getElem? (i := 31) rfl)
theorem sn_MinQueue_items_keys {a0 : Array Value} {Z : State} (hw : ∀ d ∈ tables_1, d.before a0 Z = true) : Jvm.RoadKit.slotOf Z "com/example/routeloom/routeloom/MinQueue" "items" "[I" ≠ Jvm.RoadKit.slotOf Z "com/example/routeloom/routeloom/MinQueue" "keys" "[D" := slot_ne (C := "com/example/routeloom/routeloom/MinQueue") (a0 := a0) (t := (.array .int)) (t' := (.array .double)) (Or.inl (wd14 hw)) (Or.inl (wd11 hw)) (by decide) (by decide) (by decide)
theorem sn_MinQueue_size_keys {a0 : Array Value} {Z : State} (hw : ∀ d ∈ tables_1, d.before a0 Z = true) : Jvm.RoadKit.slotOf Z "com/example/routeloom/routeloom/MinQueue" "size" "I" ≠ Jvm.RoadKit.slotOf Z "com/example/routeloom/routeloom/MinQueue" "keys" "[D" := slot_ne (C := "com/example/routeloom/routeloom/MinQueue") (a0 := a0) (t := .int) (t' := (.array .double)) (Or.inl (wd21 hw)) (Or.inl (wd11 hw)) (by decide) (by decide) (by decide)
theorem sn_MinQueue_keys_items {a0 : Array Value} {Z : State} (hw : ∀ d ∈ tables_1, d.before a0 Z = true) : Jvm.RoadKit.slotOf Z "com/example/routeloom/routeloom/MinQueue" "keys" "[D" ≠ Jvm.RoadKit.slotOf Z "com/example/routeloom/routeloom/MinQueue" "items" "[I" := slot_ne (C := "com/example/routeloom/routeloom/MinQueue") (a0 := a0) (t := (.array .double)) (t' := (.array .int)) (Or.inl (wd11 hw)) (Or.inl (wd14 hw)) (by decide) (by decide) (by decide)
theorem sn_MinQueue_size_items {a0 : Array Value} {Z : State} (hw : ∀ d ∈ tables_1, d.before a0 Z = true) : Jvm.RoadKit.slotOf Z "com/example/routeloom/routeloom/MinQueue" "size" "I" ≠ Jvm.RoadKit.slotOf Z "com/example/routeloom/routeloom/MinQueue" "items" "[I" := slot_ne (C := "com/example/routeloom/routeloom/MinQueue") (a0 := a0) (t := .int) (t' := (.array .int)) (Or.inl (wd21 hw)) (Or.inl (wd14 hw)) (by decide) (by decide) (by decide)
theorem sn_MinQueue_keys_size {a0 : Array Value} {Z : State} (hw : ∀ d ∈ tables_1, d.before a0 Z = true) : Jvm.RoadKit.slotOf Z "com/example/routeloom/routeloom/MinQueue" "keys" "[D" ≠ Jvm.RoadKit.slotOf Z "com/example/routeloom/routeloom/MinQueue" "size" "I" := slot_ne (C := "com/example/routeloom/routeloom/MinQueue") (a0 := a0) (t := (.array .double)) (t' := .int) (Or.inl (wd11 hw)) (Or.inl (wd21 hw)) (by decide) (by decide) (by decide)
theorem sn_MinQueue_items_size {a0 : Array Value} {Z : State} (hw : ∀ d ∈ tables_1, d.before a0 Z = true) : Jvm.RoadKit.slotOf Z "com/example/routeloom/routeloom/MinQueue" "items" "[I" ≠ Jvm.RoadKit.slotOf Z "com/example/routeloom/routeloom/MinQueue" "size" "I" := slot_ne (C := "com/example/routeloom/routeloom/MinQueue") (a0 := a0) (t := (.array .int)) (t' := .int) (Or.inl (wd14 hw)) (Or.inl (wd21 hw)) (by decide) (by decide) (by decide)
theorem pd0 : parseMethodDescriptor "()V" = some ⟨[], none⟩ := by decide +kernel
theorem pd1 : parseMethodDescriptor "()Z" = some ⟨[], some .boolean⟩ := by decide +kernel
theorem pd2 : parseMethodDescriptor "(ID)V" = some ⟨[.int, .double], none⟩ := by decide +kernel
theorem pd3 : parseMethodDescriptor "()I" = some ⟨[], some .int⟩ := by decide +kernel
theorem pn0 : plainName "com/example/routeloom/routeloom/MinQueue" = true := by first | (simp [plainName, overriddenIn]; done) | decide +kernel
theorem pn1 : plainName "com/example/routeloom/routeloom/MinQueueIsEmptyPinLaw" = true := by first | (simp [plainName, overriddenIn]; done) | decide +kernel
/-- the sift of 'add': the hole goes up -/
def up (key : UInt64) (item : Int32) (K : List UInt64) (I : List Int32) (hole : Nat) : List UInt64 × List Int32 :=
  if h : 0 < hole then
    if FP.dcmp (K.getD ((hole - 1) / 2) 0) key = some .gt then up key item (K.set hole (K.getD ((hole - 1) / 2) 0)) (I.set hole (I.getD ((hole - 1) / 2) 0)) ((hole - 1) / 2)
    else (K.set hole key, I.set hole item)
  else (K.set hole key, I.set hole item)
termination_by hole
decreasing_by omega
theorem up_zero {key : UInt64} {item : Int32} {K : List UInt64} {I : List Int32} {i : Nat} (h : ¬ 0 < i) : up key item K I i = (K.set i key, I.set i item) := by rw [up, dif_neg h]
theorem up_stop {key : UInt64} {item : Int32} {K : List UInt64} {I : List Int32} {i : Nat} (h : 0 < i) (c : ¬ FP.dcmp (K.getD ((i - 1) / 2) 0) key = some .gt) : up key item K I i = (K.set i key, I.set i item) := by rw [up, dif_pos h, if_neg c]
theorem up_go {key : UInt64} {item : Int32} {K : List UInt64} {I : List Int32} {i : Nat} (h : 0 < i) (c : FP.dcmp (K.getD ((i - 1) / 2) 0) key = some .gt) : up key item K I i = up key item (K.set i (K.getD ((i - 1) / 2) 0)) (I.set i (I.getD ((i - 1) / 2) 0)) ((i - 1) / 2) := by rw [up, dif_pos h, if_pos c]
theorem up_len {key : UInt64} {item : Int32} : ∀ (i : Nat) (K : List UInt64) (I : List Int32), (up key item K I i).1.length = K.length ∧ (up key item K I i).2.length = I.length := by
  intro i
  induction i using Nat.strongRecOn with
  | _ i ih =>
    intro K I
    by_cases h : 0 < i
    · by_cases c : FP.dcmp (K.getD ((i - 1) / 2) 0) key = some .gt
      · rw [up_go h c]; obtain ⟨a, b⟩ := ih ((i - 1) / 2) (by omega) (K.set i (K.getD ((i - 1) / 2) 0)) (I.set i (I.getD ((i - 1) / 2) 0)); rw [List.length_set] at a b; exact ⟨a, b⟩
      · rw [up_stop h c]; simp
    · rw [up_zero h]; simp
/-- the child to go on with -/
def kid (n : Nat) (K : List UInt64) (i : Nat) : Nat := if 2 * i + 2 < n ∧ FP.dcmp (K.getD (2 * i + 2) 0) (K.getD (2 * i + 1) 0) = some .lt then 2 * i + 2 else 2 * i + 1
theorem kid_bd (n : Nat) (K : List UInt64) (i : Nat) : kid n K i = 2 * i + 1 ∨ (kid n K i = 2 * i + 2 ∧ 2 * i + 2 < n) := by unfold kid; split <;> omega
/-- the sift of 'removeMin': the hole goes down -/
def down (n : Nat) (key : UInt64) (item : Int32) (K : List UInt64) (I : List Int32) (hole : Nat) : List UInt64 × List Int32 :=
  if h : 2 * hole + 1 < n then
    if FP.dcmp (K.getD (kid n K hole) 0) key = some .eq ∨ FP.dcmp (K.getD (kid n K hole) 0) key = some .gt then (K.set hole key, I.set hole item)
    else down n key item (K.set hole (K.getD (kid n K hole) 0)) (I.set hole (I.getD (kid n K hole) 0)) (kid n K hole)
  else (K.set hole key, I.set hole item)
termination_by n - hole
decreasing_by have := kid_bd n K hole; omega
theorem down_end {n : Nat} {key : UInt64} {item : Int32} {K : List UInt64} {I : List Int32} {i : Nat} (h : ¬ 2 * i + 1 < n) : down n key item K I i = (K.set i key, I.set i item) := by rw [down, dif_neg h]
theorem down_stop {n : Nat} {key : UInt64} {item : Int32} {K : List UInt64} {I : List Int32} {i : Nat} (h : 2 * i + 1 < n) (c : Jvm.OwnWp.dge (FP.dcmp (K.getD (kid n K i) 0) key)) : down n key item K I i = (K.set i key, I.set i item) := by rw [down, dif_pos h]; exact if_pos c
theorem down_go {n : Nat} {key : UInt64} {item : Int32} {K : List UInt64} {I : List Int32} {i : Nat} (h : 2 * i + 1 < n) (c : ¬ Jvm.OwnWp.dge (FP.dcmp (K.getD (kid n K i) 0) key)) : down n key item K I i = down n key item (K.set i (K.getD (kid n K i) 0)) (I.set i (I.getD (kid n K i) 0)) (kid n K i) := by rw [down, dif_pos h]; exact if_neg c
theorem down_len {n : Nat} {key : UInt64} {item : Int32} : ∀ (f : Nat) (i : Nat) (K : List UInt64) (I : List Int32), n - i ≤ f → (down n key item K I i).1.length = K.length ∧ (down n key item K I i).2.length = I.length := by
  intro f
  induction f with
  | zero => intro i K I hf; rw [down_end (by omega)]; simp
  | succ f ih =>
    intro i K I hf
    by_cases h : 2 * i + 1 < n
    · by_cases c : Jvm.OwnWp.dge (FP.dcmp (K.getD (kid n K i) 0) key)
      · rw [down_stop h c]; simp
      · rw [down_go h c]; obtain ⟨a, b⟩ := ih (kid n K i) (K.set i (K.getD (kid n K i) 0)) (I.set i (I.getD (kid n K i) 0)) (by have := kid_bd n K i; omega); rw [List.length_set] at a b; exact ⟨a, b⟩
    · rw [down_end h]; simp
theorem n_par {j : Int32} {i : Nat} (hj : j.toInt = i) (h : 0 < i) : ((j - 1) / 2).toInt = (((i - 1) / 2 : Nat) : Int) := by
  have h1 := j.toInt_lt
  have e1 : (j - 1).toInt = i - 1 := by rw [Int32.toInt_sub, hj]; have := Int.bmod_eq_of_le (n := (i : Int) - (1 : Int32).toInt) (m := 2 ^ 32) (by simp; omega) (by simp; omega); rw [this]; simp
  rw [(c_idiv (j - 1) 2 2 (by decide) (by decide)).1 (by omega), e1]; omega
theorem n_kid1 {j : Int32} {i : Nat} (hj : j.toInt = i) (h : i < 64) : (2 * j + 1).toInt = ((2 * i + 1 : Nat) : Int) := by
  have e1 : (2 * j).toInt = 2 * i := by rw [Int32.toInt_mul, hj]; exact Int.bmod_eq_of_le (by simp; omega) (by simp; omega)
  rw [Int32.toInt_add, e1]; have := Int.bmod_eq_of_le (n := 2 * (i : Int) + (1 : Int32).toInt) (m := 2 ^ 32) (by simp; omega) (by simp; omega); rw [this]; simp
theorem n_add1 {j : Int32} {i : Nat} (hj : j.toInt = i) (h : i < 1000) : (j + 1).toInt = ((i + 1 : Nat) : Int) := by
  rw [Int32.toInt_add, hj]; have := Int.bmod_eq_of_le (n := (i : Int) + (1 : Int32).toInt) (m := 2 ^ 32) (by simp; omega) (by simp; omega); rw [this]; simp
theorem n_sub1 {j : Int32} {i : Nat} (hj : j.toInt = i) (h : 0 < i) : (j - 1).toInt = ((i - 1 : Nat) : Int) := by
  have h1 := j.toInt_lt
  rw [Int32.toInt_sub, hj]; have := Int.bmod_eq_of_le (n := (i : Int) - (1 : Int32).toInt) (m := 2 ^ 32) (by simp; omega) (by simp; omega); rw [this]; simp; omega
theorem n_lt {j k : Int32} {i n : Nat} (hj : j.toInt = i) (hk : k.toInt = n) : j < k ↔ i < n := by rw [Int32.lt_iff_toInt_lt, hj, hk]; omega
theorem n_pos {j : Int32} {i : Nat} (hj : j.toInt = i) : 0 < j ↔ 0 < i := by rw [Int32.lt_iff_toInt_lt, hj]; simp
theorem n_ne64 {j : Int32} {i : Nat} {K : List UInt64} (hj : j.toInt = i) (h : i < 64) (hK : K.length = 64) : ¬ j = (K.map Value.double).length.toInt32 := by
  rw [List.length_map, hK]; intro q; rw [q] at hj; have : (Nat.toInt32 64).toInt = 64 := by decide
  omega
set_option maxRecDepth 65536 in
set_option maxHeartbeats 40000000 in
theorem c_init (l : Launch) (Z : State) (a0 : Array Value) (hw : ∀ d ∈ tables_1, d.before a0 Z = true) (ws : List Jvm.Cond) (q : Addr) (h0 : Heap) (n0 : Nat) (Z0 : n0 ≤ h0.size) (E : Exa Z h0 q "com/example/routeloom/routeloom/MinQueue") (ge_q : n0 ≤ q) (G1 : Fld Z h0 q "com/example/routeloom/routeloom/MinQueue" "keys" "[D" .null) (G2 : Fld Z h0 q "com/example/routeloom/routeloom/MinQueue" "items" "[I" .null) (G3 : Fld Z h0 q "com/example/routeloom/routeloom/MinQueue" "size" "I" (.int 0)) :
    Ctr l Z (⟨"com/example/routeloom/routeloom/MinQueue", "<init>", "()V"⟩ : MethodName) prog_13_method_1_code 1 none ws ({ frames := 1, cells := 2, slots := 128, locals := 12 } : Room) n0 #[(.ref q)] h0 (fun v h => v = none ∧ Keep h0 h [q] ∧ ∃ ks is : Addr, h0.size ≤ ks ∧ h0.size ≤ is ∧ is ≠ ks ∧ Fld Z h q "com/example/routeloom/routeloom/MinQueue" "keys" "[D" (.ref ks) ∧ Fld Z h q "com/example/routeloom/routeloom/MinQueue" "items" "[I" (.ref is) ∧ Fld Z h q "com/example/routeloom/routeloom/MinQueue" "size" "I" (.int 0) ∧ DV Z h ks (List.replicate 64 0) ∧ IV Z h is (List.replicate 64 0)) := by
  refine ctr (own := "com/example/routeloom/routeloom/MinQueue") (nm := "<init>") rfl rfl (Ls := #[.val (.ref q)]) (plainFor_of_name pn0) (fun m => by first | (simp [entryFrame, mkF, argsToLocals, Value.category]; done) | rfl) ?_
  intro p e s m below meth c K eh
  have P0 := Keep.refl h0 [q]
  refine Jvm.OwnWp.aloadN K d_prog_13_method_1_0 rfl rfl (pc' := 1) rfl ?_
  refine initObj K (wd6 hw) (wd7 hw) (wd8 hw) d_prog_13_method_1_1 rfl (Nat.le_of_ble_eq_true rfl) (Nat.le_of_ble_eq_true rfl) (pc' := 4) rfl ?_
  refine Jvm.OwnWp.aloadN K d_prog_13_method_1_4 rfl rfl (pc' := 5) rfl ?_
  refine Jvm.OwnWp.bipush K (64 : Int32) d_prog_13_method_1_5 (by decide) (pc' := 7) rfl ?_
  refine newArr K (aty := ArrayType.double) (N := 64) (wd9 hw) (by decide) (by decide) d_prog_13_method_1_7 (Nat.le_of_ble_eq_true rfl) (Nat.le_of_ble_eq_true rfl) (pc' := 9) rfl ?_
  intro h1 b1 g1 E1 A1
  have ne_q_b1 : q ≠ b1 := Nat.ne_of_lt (Nat.lt_of_lt_of_eq (Exa.lt E) g1.symm)
  have lt_b1 : h0.size ≤ b1 := Nat.le_trans P0.1 (Nat.le_of_eq g1.symm)
  have ge_b1 : n0 ≤ b1 := Nat.le_trans Z0 lt_b1
  have F1_keys_q := (Fld.ext E1 G1)
  have F1_items_q := (Fld.ext E1 G2)
  have F1_size_q := (Fld.ext E1 G3)
  have X1_q := (Exa.ext E1 E)
  have P1 := (P0.ext E1)
  have A1 := DV.new A1
  refine putf K (wd10 hw) Via.refl F1_keys_q X1_q (Or.inl (wd11 hw)) (wd1 hw) (ty := (.array .double)) (by decide) rfl rfl ge_q d_prog_13_method_1_9 (pc' := 12) rfl ?_
  intro h2 W2
  have F2_items_q := (Fld.other W2 F1_items_q (Or.inr (sn_MinQueue_items_keys hw)))
  have F2_size_q := (Fld.other W2 F1_size_q (Or.inr (sn_MinQueue_size_keys hw)))
  have X2_q := (Exa.wr W2 X1_q)
  have V2_b1 := (A1.other W2 (Ne.symm ne_q_b1))
  have P2 := (P1.wr W2 (Or.inl (List.mem_of_getElem? (i := 0) rfl)))
  have F2_keys_q := Fld.same W2 F1_keys_q
  refine Jvm.OwnWp.aloadN K d_prog_13_method_1_12 rfl rfl (pc' := 13) rfl ?_
  refine Jvm.OwnWp.bipush K (64 : Int32) d_prog_13_method_1_13 (by decide) (pc' := 15) rfl ?_
  refine newArr K (aty := ArrayType.int) (N := 64) (wd12 hw) (by decide) (by decide) d_prog_13_method_1_15 (Nat.le_of_ble_eq_true rfl) (Nat.le_of_ble_eq_true rfl) (pc' := 17) rfl ?_
  intro h3 b3 g3 E3 A3
  have ne_q_b3 : q ≠ b3 := Nat.ne_of_lt (Nat.lt_of_lt_of_eq (Exa.lt X2_q) g3.symm)
  have ne_b1_b3 : b1 ≠ b3 := Nat.ne_of_lt (Nat.lt_of_lt_of_eq (V2_b1.lt) g3.symm)
  have lt_b3 : h0.size ≤ b3 := Nat.le_trans P2.1 (Nat.le_of_eq g3.symm)
  have ge_b3 : n0 ≤ b3 := Nat.le_trans Z0 lt_b3
  have F3_keys_q := (Fld.ext E3 F2_keys_q)
  have F3_items_q := (Fld.ext E3 F2_items_q)
  have F3_size_q := (Fld.ext E3 F2_size_q)
  have X3_q := (Exa.ext E3 X2_q)
  have V3_b1 := (V2_b1.ext E3)
  have P3 := (P2.ext E3)
  have A3 := IV.new A3
  refine putf K (wd13 hw) Via.refl F3_items_q X3_q (Or.inl (wd14 hw)) (wd1 hw) (ty := (.array .int)) (by decide) rfl rfl ge_q d_prog_13_method_1_17 (pc' := 20) rfl ?_
  intro h4 W4
  have F4_keys_q := (Fld.other W4 F3_keys_q (Or.inr (sn_MinQueue_keys_items hw)))
  have F4_size_q := (Fld.other W4 F3_size_q (Or.inr (sn_MinQueue_size_items hw)))
  have X4_q := (Exa.wr W4 X3_q)
  have V4_b1 := (V3_b1.other W4 (Ne.symm ne_q_b1))
  have V4_b3 := (A3.other W4 (Ne.symm ne_q_b3))
  have P4 := (P3.wr W4 (Or.inl (List.mem_of_getElem? (i := 0) rfl)))
  have F4_items_q := Fld.same W4 F3_items_q
  refine retV K rfl d_prog_13_method_1_20 (Nat.le_of_ble_eq_true rfl) (Nat.le_of_ble_eq_true rfl) ?_
  exact ⟨rfl, P4, b1, b3, lt_b1, lt_b3, (Ne.symm ne_b1_b3), F4_keys_q, F4_items_q, F4_size_q, V4_b1, V4_b3⟩
set_option maxRecDepth 65536 in
set_option maxHeartbeats 40000000 in
theorem c_empty (l : Launch) (Z : State) (a0 : Array Value) (hw : ∀ d ∈ tables_1, d.before a0 Z = true) (ws : List Jvm.Cond) (q : Addr) (sz : Int32) (h0 : Heap) (n0 : Nat) (Z0 : n0 ≤ h0.size) (F : Fld Z h0 q "com/example/routeloom/routeloom/MinQueue" "size" "I" (.int sz)) :
    Ctr l Z (⟨"com/example/routeloom/routeloom/MinQueue", "isEmpty", "()Z"⟩ : MethodName) prog_13_method_2_code 1 (some .boolean) ws ({ frames := 0, cells := 0, slots := 0, locals := 0 } : Room) n0 #[(.ref q)] h0 (fun v h => v = some (.int (if sz = 0 then 1 else 0)) ∧ h0 = h) := by
  refine ctr (own := "com/example/routeloom/routeloom/MinQueue") (nm := "isEmpty") rfl rfl (Ls := #[.val (.ref q)]) (plainFor_of_name pn0) (fun m => by first | (simp [entryFrame, mkF, argsToLocals, Value.category]; done) | rfl) ?_
  intro p e s m below meth c K eh
  refine Jvm.OwnWp.aloadN K d_prog_13_method_2_0 rfl rfl (pc' := 1) rfl ?_
  refine Jvm.OwnWp.getf K (wd20 hw) Via.refl F d_prog_13_method_2_1 (pc' := 4) rfl ?_
  by_cases c1 : sz = 0
  · refine ifN K d_prog_13_method_2_4 (XT.i0_ne_f c1) (pc' := 7) rfl ?_
    refine Jvm.OwnWp.iconst K (1 : Int32) d_prog_13_method_2_7 (by decide) (pc' := 8) rfl ?_
    refine goto' K d_prog_13_method_2_8 (pc' := 12) (by decide) (by decide) ?_
    refine retB K (t := .boolean) rfl (by simp) d_prog_13_method_2_12 (Nat.le_of_ble_eq_true rfl) (Nat.le_of_ble_eq_true rfl) ?_
    exact ⟨by rw [if_pos c1]; rfl, rfl⟩
  · refine ifY K d_prog_13_method_2_4 (XT.i0_ne_t c1) (pc' := 11) (by decide) (by decide) ?_
    refine Jvm.OwnWp.iconst K (0 : Int32) d_prog_13_method_2_11 (by decide) (pc' := 12) rfl ?_
    refine retB K (t := .boolean) rfl (by simp) d_prog_13_method_2_12 (Nat.le_of_ble_eq_true rfl) (Nat.le_of_ble_eq_true rfl) ?_
    exact ⟨by rw [if_neg c1]; rfl, rfl⟩
set_option maxRecDepth 65536 in
set_option maxHeartbeats 40000000 in
theorem c_add (l : Launch) (Z : State) (a0 : Array Value) (hw : ∀ d ∈ tables_1, d.before a0 Z = true) (ws : List Jvm.Cond) (q ks is : Addr) (item : Int32) (key : UInt64) (n : Nat) (sz : Int32) (Kl : List UInt64) (Il : List Int32) (h0 : Heap) (n0 : Nat) (Z0 : n0 ≤ h0.size) (hsz : sz.toInt = n) (hn : n < 64) (hK : Kl.length = 64) (hI : Il.length = 64) (E : Exa Z h0 q "com/example/routeloom/routeloom/MinQueue") (F_keys : Fld Z h0 q "com/example/routeloom/routeloom/MinQueue" "keys" "[D" (.ref ks)) (F_items : Fld Z h0 q "com/example/routeloom/routeloom/MinQueue" "items" "[I" (.ref is)) (F_size : Fld Z h0 q "com/example/routeloom/routeloom/MinQueue" "size" "I" (.int sz)) (VK : DV Z h0 ks Kl) (VI : IV Z h0 is Il) (ne_ks_q : ks ≠ q) (ne_is_q : is ≠ q) (ne_is_ks : is ≠ ks) (ge_q : n0 ≤ q) (ge_ks : n0 ≤ ks) (ge_is : n0 ≤ is) :
    Ctr l Z (⟨"com/example/routeloom/routeloom/MinQueue", "add", "(ID)V"⟩ : MethodName) prog_13_method_3_code 6 none ws ({ frames := 0, cells := 0, slots := 0, locals := 0 } : Room) n0 #[(.ref q), (.int item), (.double key)] h0 (fun v h => v = none ∧ Keep h0 h [q, ks, is] ∧ Exa Z h q "com/example/routeloom/routeloom/MinQueue" ∧ Fld Z h q "com/example/routeloom/routeloom/MinQueue" "keys" "[D" (.ref ks) ∧ Fld Z h q "com/example/routeloom/routeloom/MinQueue" "items" "[I" (.ref is) ∧ Fld Z h q "com/example/routeloom/routeloom/MinQueue" "size" "I" (.int (sz + 1)) ∧ DV Z h ks (up key item Kl Il n).1 ∧ IV Z h is (up key item Kl Il n).2) := by
  refine ctr (own := "com/example/routeloom/routeloom/MinQueue") (nm := "add") rfl rfl (Ls := #[.val (.ref q), .val (.int item), .val (.double key), .second, .unset, .unset]) (plainFor_of_name pn0) (fun m => by first | (simp [entryFrame, mkF, argsToLocals, Value.category]; done) | rfl) ?_
  intro p e s m below meth c K eh
  have P0 := Keep.refl h0 [q, ks, is]
  refine Jvm.OwnWp.aloadN K d_prog_13_method_3_0 rfl rfl (pc' := 1) rfl ?_
  refine Jvm.OwnWp.getf K (wd20 hw) Via.refl F_size d_prog_13_method_3_1 (pc' := 4) rfl ?_
  refine Jvm.OwnWp.aloadN K d_prog_13_method_3_4 rfl rfl (pc' := 5) rfl ?_
  refine Jvm.OwnWp.getf K (wd10 hw) Via.refl F_keys d_prog_13_method_3_5 (pc' := 8) rfl ?_
  refine alen K VK d_prog_13_method_3_8 (pc' := 9) rfl ?_
  refine icY K d_prog_13_method_3_9 (XT.ii_ne_t (n_ne64 hsz hn hK)) (pc' := 46) (by decide) (by decide) ?_
  refine Jvm.OwnWp.aloadN K d_prog_13_method_3_46 rfl rfl (pc' := 47) rfl ?_
  refine Jvm.OwnWp.dup K d_prog_13_method_3_47 rfl (pc' := 48) rfl ?_
  refine Jvm.OwnWp.getf K (wd20 hw) Via.refl F_size d_prog_13_method_3_48 (pc' := 51) rfl ?_
  refine Jvm.OwnWp.dupX1 K d_prog_13_method_3_51 rfl rfl (pc' := 52) rfl ?_
  refine Jvm.OwnWp.iconst K (1 : Int32) d_prog_13_method_3_52 (by decide) (pc' := 53) rfl ?_
  refine Jvm.OwnWp.iadd K d_prog_13_method_3_53 (pc' := 54) rfl ?_
  refine putf K (wd20 hw) Via.refl F_size E (Or.inl (wd21 hw)) (wd1 hw) (ty := .int) (by decide) rfl rfl ge_q d_prog_13_method_3_54 (pc' := 57) rfl ?_
  intro h5 W5
  have F5_keys_q := (Fld.other W5 F_keys (Or.inr (sn_MinQueue_keys_size hw)))
  have F5_items_q := (Fld.other W5 F_items (Or.inr (sn_MinQueue_items_size hw)))
  have X5_q := (Exa.wr W5 E)
  have V5_ks := (VK.other W5 ne_ks_q)
  have V5_is := (VI.other W5 ne_is_q)
  have P5 := (P0.wr W5 (Or.inl (List.mem_of_getElem? (i := 0) rfl)))
  have F5_size_q := Fld.same W5 F_size
  refine Jvm.OwnWp.istore K d_prog_13_method_3_57 (Ls' := #[.val (.ref q), .val (.int item), .val (.double key), .second, .val (.int sz), .unset]) rfl (pc' := 59) rfl ?_
  have loop : ∀ (i : Nat) (hl : Int32) (o5 : Slot) (K' : List UInt64) (I' : List Int32) (hh : Heap), One o5 → hl.toInt = i → i < 64 → K'.length = 64 → I'.length = 64 → up key item K' I' i = (up key item Kl Il n) → Keep h0 hh [q, ks, is] → Exa Z hh q "com/example/routeloom/routeloom/MinQueue" → Fld Z hh q "com/example/routeloom/routeloom/MinQueue" "keys" "[D" (.ref ks) → Fld Z hh q "com/example/routeloom/routeloom/MinQueue" "items" "[I" (.ref is) → Fld Z hh q "com/example/routeloom/routeloom/MinQueue" "size" "I" (.int (sz + (1 : Int32))) → DV Z hh ks K' → IV Z hh is I' → Go p l e ({ frames := 0, cells := 0, slots := 0, locals := 0 } : Room) s m #[(.ref q), (.int item), (.double key)] below meth c n0 hh 0 0 (mkF m 59 #[.val (.ref q), .val (.int item), .val (.double key), .second, .val (.int hl), o5] []) (fun v h => v = none ∧ Keep h0 h [q, ks, is] ∧ Exa Z h q "com/example/routeloom/routeloom/MinQueue" ∧ Fld Z h q "com/example/routeloom/routeloom/MinQueue" "keys" "[D" (.ref ks) ∧ Fld Z h q "com/example/routeloom/routeloom/MinQueue" "items" "[I" (.ref is) ∧ Fld Z h q "com/example/routeloom/routeloom/MinQueue" "size" "I" (.int (sz + 1)) ∧ DV Z h ks (up key item Kl Il n).1 ∧ IV Z h is (up key item Kl Il n).2) := by
    intro i
    induction i using Nat.strongRecOn with
    | _ i ih =>
      intro hl o5 K' I' hh ho5 hi hi64 hK' hI' hup LP LE LF_keys LF_items LF_size LVK LVI
      refine Jvm.OwnWp.iload K d_prog_13_method_3_59 rfl (pc' := 61) rfl ?_
      by_cases c1 : 0 < hl
      · refine ifN K d_prog_13_method_3_61 (XT.i0_le_f c1) (pc' := 64) rfl ?_
        have i0 := (n_pos hi).mp c1
        have hpar := n_par hi i0
        have ip : (i - 1) / 2 < 64 := by omega
        refine Jvm.OwnWp.aloadN K d_prog_13_method_3_64 rfl rfl (pc' := 65) rfl ?_
        refine Jvm.OwnWp.getf K (wd10 hw) Via.refl LF_keys d_prog_13_method_3_65 (pc' := 68) rfl ?_
        refine Jvm.OwnWp.iload K d_prog_13_method_3_68 rfl (pc' := 70) rfl ?_
        refine Jvm.OwnWp.iconst K (1 : Int32) d_prog_13_method_3_70 (by decide) (pc' := 71) rfl ?_
        refine Jvm.OwnWp.isub K d_prog_13_method_3_71 (pc' := 72) rfl ?_
        refine Jvm.OwnWp.iconst K (2 : Int32) d_prog_13_method_3_72 (by decide) (pc' := 73) rfl ?_
        refine Jvm.OwnWp.idiv K d_prog_13_method_3_73 (by decide) (pc' := 74) rfl ?_
        refine daload K (i := ((i - 1) / 2)) LVK hpar (mapAt (getDAt (d := 0) (by rw [hK']; exact ip))) d_prog_13_method_3_74 (pc' := 75) rfl ?_
        refine Jvm.OwnWp.dloadN K d_prog_13_method_3_75 rfl (pc' := 76) rfl ?_
        refine Jvm.OwnWp.dcmp K d_prog_13_method_3_76 (pc' := 77) rfl ?_
        by_cases c2 : FP.dcmp (K'.getD ((i - 1) / 2) 0) key = some .gt
        · refine ifN K d_prog_13_method_3_77 (dd_l_le_f c2) (pc' := 80) rfl ?_
          refine Jvm.OwnWp.iload K d_prog_13_method_3_80 rfl (pc' := 82) rfl ?_
          refine Jvm.OwnWp.iconst K (1 : Int32) d_prog_13_method_3_82 (by decide) (pc' := 83) rfl ?_
          refine Jvm.OwnWp.isub K d_prog_13_method_3_83 (pc' := 84) rfl ?_
          refine Jvm.OwnWp.iconst K (2 : Int32) d_prog_13_method_3_84 (by decide) (pc' := 85) rfl ?_
          refine Jvm.OwnWp.idiv K d_prog_13_method_3_85 (by decide) (pc' := 86) rfl ?_
          refine Jvm.OwnWp.istoreS K d_prog_13_method_3_86 rfl ho5 (Ls' := #[.val (.ref q), .val (.int item), .val (.double key), .second, .val (.int hl), .val (.int ((hl - (1 : Int32)) / (2 : Int32)))]) rfl (pc' := 88) rfl ?_
          refine Jvm.OwnWp.aloadN K d_prog_13_method_3_88 rfl rfl (pc' := 89) rfl ?_
          refine Jvm.OwnWp.getf K (wd10 hw) Via.refl LF_keys d_prog_13_method_3_89 (pc' := 92) rfl ?_
          refine Jvm.OwnWp.iload K d_prog_13_method_3_92 rfl (pc' := 94) rfl ?_
          refine Jvm.OwnWp.aloadN K d_prog_13_method_3_94 rfl rfl (pc' := 95) rfl ?_
          refine Jvm.OwnWp.getf K (wd10 hw) Via.refl LF_keys d_prog_13_method_3_95 (pc' := 98) rfl ?_
          refine Jvm.OwnWp.iload K d_prog_13_method_3_98 rfl (pc' := 100) rfl ?_
          refine daload K (i := ((i - 1) / 2)) LVK hpar (mapAt (getDAt (d := 0) (by rw [hK']; exact ip))) d_prog_13_method_3_100 (pc' := 101) rfl ?_
          refine dastore K (i := i) LVK hi (mapLt (by rw [hK']; exact hi64)) ge_ks d_prog_13_method_3_101 (pc' := 102) rfl ?_
          intro h6 W6
          have F6_keys_q := (Fld.other W6 LF_keys (Or.inl (Ne.symm ne_ks_q)))
          have F6_items_q := (Fld.other W6 LF_items (Or.inl (Ne.symm ne_ks_q)))
          have F6_size_q := (Fld.other W6 LF_size (Or.inl (Ne.symm ne_ks_q)))
          have X6_q := (Exa.wr W6 LE)
          have V6_is := (LVI.other W6 ne_is_ks)
          have P6 := (LP.wr W6 (Or.inl (List.mem_of_getElem? (i := 1) rfl)))
          have V6_ks := LVK.set W6
          refine Jvm.OwnWp.aloadN K d_prog_13_method_3_102 rfl rfl (pc' := 103) rfl ?_
          refine Jvm.OwnWp.getf K (wd13 hw) Via.refl F6_items_q d_prog_13_method_3_103 (pc' := 106) rfl ?_
          refine Jvm.OwnWp.iload K d_prog_13_method_3_106 rfl (pc' := 108) rfl ?_
          refine Jvm.OwnWp.aloadN K d_prog_13_method_3_108 rfl rfl (pc' := 109) rfl ?_
          refine Jvm.OwnWp.getf K (wd13 hw) Via.refl F6_items_q d_prog_13_method_3_109 (pc' := 112) rfl ?_
          refine Jvm.OwnWp.iload K d_prog_13_method_3_112 rfl (pc' := 114) rfl ?_
          refine iaload K (i := ((i - 1) / 2)) V6_is hpar (mapAt (getDAt (d := 0) (by rw [hI']; exact ip))) d_prog_13_method_3_114 (pc' := 115) rfl ?_
          refine iastore K (i := i) V6_is hi (mapLt (by rw [hI']; exact hi64)) ge_is d_prog_13_method_3_115 (pc' := 116) rfl ?_
          intro h7 W7
          have F7_keys_q := (Fld.other W7 F6_keys_q (Or.inl (Ne.symm ne_is_q)))
          have F7_items_q := (Fld.other W7 F6_items_q (Or.inl (Ne.symm ne_is_q)))
          have F7_size_q := (Fld.other W7 F6_size_q (Or.inl (Ne.symm ne_is_q)))
          have X7_q := (Exa.wr W7 X6_q)
          have V7_ks := (V6_ks.other W7 (Ne.symm ne_is_ks))
          have P7 := (P6.wr W7 (Or.inl (List.mem_of_getElem? (i := 2) rfl)))
          have V7_is := V6_is.set W7
          refine Jvm.OwnWp.iload K d_prog_13_method_3_116 rfl (pc' := 118) rfl ?_
          refine Jvm.OwnWp.istore K d_prog_13_method_3_118 (Ls' := #[.val (.ref q), .val (.int item), .val (.double key), .second, .val (.int ((hl - (1 : Int32)) / (2 : Int32))), .val (.int ((hl - (1 : Int32)) / (2 : Int32)))]) rfl (pc' := 120) rfl ?_
          refine goto' K d_prog_13_method_3_120 (pc' := 59) (by decide) (by decide) ?_
          exact ih ((i - 1) / 2) (by omega) _ _ _ _ _ (One.val rfl) hpar ip (by simpa using hK') (by simpa using hI') ((up_go i0 c2).symm.trans hup) P7 X7_q F7_keys_q F7_items_q F7_size_q V7_ks V7_is
        · refine ifY K d_prog_13_method_3_77 (dd_l_le_t c2) (pc' := 123) (by decide) (by decide) ?_
          have e := hup.symm.trans (up_stop i0 c2)
          refine Jvm.OwnWp.aloadN K d_prog_13_method_3_123 rfl rfl (pc' := 124) rfl ?_
          refine Jvm.OwnWp.getf K (wd10 hw) Via.refl LF_keys d_prog_13_method_3_124 (pc' := 127) rfl ?_
          refine Jvm.OwnWp.iload K d_prog_13_method_3_127 rfl (pc' := 129) rfl ?_
          refine Jvm.OwnWp.dloadN K d_prog_13_method_3_129 rfl (pc' := 130) rfl ?_
          refine dastore K (i := i) LVK hi (mapLt (by rw [hK']; exact hi64)) ge_ks d_prog_13_method_3_130 (pc' := 131) rfl ?_
          intro h8 W8
          have F8_keys_q := (Fld.other W8 LF_keys (Or.inl (Ne.symm ne_ks_q)))
          have F8_items_q := (Fld.other W8 LF_items (Or.inl (Ne.symm ne_ks_q)))
          have F8_size_q := (Fld.other W8 LF_size (Or.inl (Ne.symm ne_ks_q)))
          have X8_q := (Exa.wr W8 LE)
          have V8_is := (LVI.other W8 ne_is_ks)
          have P8 := (LP.wr W8 (Or.inl (List.mem_of_getElem? (i := 1) rfl)))
          have V8_ks := LVK.set W8
          refine Jvm.OwnWp.aloadN K d_prog_13_method_3_131 rfl rfl (pc' := 132) rfl ?_
          refine Jvm.OwnWp.getf K (wd13 hw) Via.refl F8_items_q d_prog_13_method_3_132 (pc' := 135) rfl ?_
          refine Jvm.OwnWp.iload K d_prog_13_method_3_135 rfl (pc' := 137) rfl ?_
          refine Jvm.OwnWp.iloadN K d_prog_13_method_3_137 rfl (pc' := 138) rfl ?_
          refine iastore K (i := i) V8_is hi (mapLt (by rw [hI']; exact hi64)) ge_is d_prog_13_method_3_138 (pc' := 139) rfl ?_
          intro h9 W9
          have F9_keys_q := (Fld.other W9 F8_keys_q (Or.inl (Ne.symm ne_is_q)))
          have F9_items_q := (Fld.other W9 F8_items_q (Or.inl (Ne.symm ne_is_q)))
          have F9_size_q := (Fld.other W9 F8_size_q (Or.inl (Ne.symm ne_is_q)))
          have X9_q := (Exa.wr W9 X8_q)
          have V9_ks := (V8_ks.other W9 (Ne.symm ne_is_ks))
          have P9 := (P8.wr W9 (Or.inl (List.mem_of_getElem? (i := 2) rfl)))
          have V9_is := V8_is.set W9
          refine retV K rfl d_prog_13_method_3_139 (Nat.le_of_ble_eq_true rfl) (Nat.le_of_ble_eq_true rfl) ?_
          rw [e]
          exact ⟨rfl, P9, X9_q, F9_keys_q, F9_items_q, F9_size_q, V9_ks, V9_is⟩
      · refine ifY K d_prog_13_method_3_61 (XT.i0_le_t c1) (pc' := 123) (by decide) (by decide) ?_
        have e := hup.symm.trans (up_zero (fun q => c1 ((n_pos hi).mpr q)))
        refine Jvm.OwnWp.aloadN K d_prog_13_method_3_123 rfl rfl (pc' := 124) rfl ?_
        refine Jvm.OwnWp.getf K (wd10 hw) Via.refl LF_keys d_prog_13_method_3_124 (pc' := 127) rfl ?_
        refine Jvm.OwnWp.iload K d_prog_13_method_3_127 rfl (pc' := 129) rfl ?_
        refine Jvm.OwnWp.dloadN K d_prog_13_method_3_129 rfl (pc' := 130) rfl ?_
        refine dastore K (i := i) LVK hi (mapLt (by rw [hK']; exact hi64)) ge_ks d_prog_13_method_3_130 (pc' := 131) rfl ?_
        intro h10 W10
        have F10_keys_q := (Fld.other W10 LF_keys (Or.inl (Ne.symm ne_ks_q)))
        have F10_items_q := (Fld.other W10 LF_items (Or.inl (Ne.symm ne_ks_q)))
        have F10_size_q := (Fld.other W10 LF_size (Or.inl (Ne.symm ne_ks_q)))
        have X10_q := (Exa.wr W10 LE)
        have V10_is := (LVI.other W10 ne_is_ks)
        have P10 := (LP.wr W10 (Or.inl (List.mem_of_getElem? (i := 1) rfl)))
        have V10_ks := LVK.set W10
        refine Jvm.OwnWp.aloadN K d_prog_13_method_3_131 rfl rfl (pc' := 132) rfl ?_
        refine Jvm.OwnWp.getf K (wd13 hw) Via.refl F10_items_q d_prog_13_method_3_132 (pc' := 135) rfl ?_
        refine Jvm.OwnWp.iload K d_prog_13_method_3_135 rfl (pc' := 137) rfl ?_
        refine Jvm.OwnWp.iloadN K d_prog_13_method_3_137 rfl (pc' := 138) rfl ?_
        refine iastore K (i := i) V10_is hi (mapLt (by rw [hI']; exact hi64)) ge_is d_prog_13_method_3_138 (pc' := 139) rfl ?_
        intro h11 W11
        have F11_keys_q := (Fld.other W11 F10_keys_q (Or.inl (Ne.symm ne_is_q)))
        have F11_items_q := (Fld.other W11 F10_items_q (Or.inl (Ne.symm ne_is_q)))
        have F11_size_q := (Fld.other W11 F10_size_q (Or.inl (Ne.symm ne_is_q)))
        have X11_q := (Exa.wr W11 X10_q)
        have V11_ks := (V10_ks.other W11 (Ne.symm ne_is_ks))
        have P11 := (P10.wr W11 (Or.inl (List.mem_of_getElem? (i := 2) rfl)))
        have V11_is := V10_is.set W11
        refine retV K rfl d_prog_13_method_3_139 (Nat.le_of_ble_eq_true rfl) (Nat.le_of_ble_eq_true rfl) ?_
        rw [e]
        exact ⟨rfl, P11, X11_q, F11_keys_q, F11_items_q, F11_size_q, V11_ks, V11_is⟩
  exact loop n sz .unset Kl Il _ One.u hsz hn hK hI rfl P5 X5_q F5_keys_q F5_items_q F5_size_q V5_ks V5_is
set_option maxRecDepth 65536 in
set_option maxHeartbeats 40000000 in
theorem c_rem (l : Launch) (Z : State) (a0 : Array Value) (hw : ∀ d ∈ tables_1, d.before a0 Z = true) (ws : List Jvm.Cond) (q ks is : Addr) (n : Nat) (sz : Int32) (Kl : List UInt64) (Il : List Int32) (h0 : Heap) (n0 : Nat) (Z0 : n0 ≤ h0.size) (hsz : sz.toInt = n) (h0n : 0 < n) (hn : n ≤ 64) (hK : Kl.length = 64) (hI : Il.length = 64) (E : Exa Z h0 q "com/example/routeloom/routeloom/MinQueue") (F_keys : Fld Z h0 q "com/example/routeloom/routeloom/MinQueue" "keys" "[D" (.ref ks)) (F_items : Fld Z h0 q "com/example/routeloom/routeloom/MinQueue" "items" "[I" (.ref is)) (F_size : Fld Z h0 q "com/example/routeloom/routeloom/MinQueue" "size" "I" (.int sz)) (VK : DV Z h0 ks Kl) (VI : IV Z h0 is Il) (ne_ks_q : ks ≠ q) (ne_is_q : is ≠ q) (ne_is_ks : is ≠ ks) (ge_q : n0 ≤ q) (ge_ks : n0 ≤ ks) (ge_is : n0 ≤ is) :
    Ctr l Z (⟨"com/example/routeloom/routeloom/MinQueue", "removeMin", "()I"⟩ : MethodName) prog_13_method_4_code 7 (some .int) ws ({ frames := 0, cells := 0, slots := 0, locals := 0 } : Room) n0 #[(.ref q)] h0 (fun v h => v = some (.int (Il.getD 0 0)) ∧ Keep h0 h [q, ks, is] ∧ Exa Z h q "com/example/routeloom/routeloom/MinQueue" ∧ Fld Z h q "com/example/routeloom/routeloom/MinQueue" "keys" "[D" (.ref ks) ∧ Fld Z h q "com/example/routeloom/routeloom/MinQueue" "items" "[I" (.ref is) ∧ Fld Z h q "com/example/routeloom/routeloom/MinQueue" "size" "I" (.int (sz - 1)) ∧ DV Z h ks (down (n - 1) (Kl.getD (n - 1) 0) (Il.getD (n - 1) 0) Kl Il 0).1 ∧ IV Z h is (down (n - 1) (Kl.getD (n - 1) 0) (Il.getD (n - 1) 0) Kl Il 0).2) := by
  refine ctr (own := "com/example/routeloom/routeloom/MinQueue") (nm := "removeMin") rfl rfl (Ls := #[.val (.ref q), .unset, .unset, .unset, .unset, .unset, .unset]) (plainFor_of_name pn0) (fun m => by first | (simp [entryFrame, mkF, argsToLocals, Value.category]; done) | rfl) ?_
  intro p e s m below meth c K eh
  have P0 := Keep.refl h0 [q, ks, is]
  have hs1 := n_sub1 hsz h0n
  have hn1 : n - 1 < 64 := by omega
  refine Jvm.OwnWp.aloadN K d_prog_13_method_4_0 rfl rfl (pc' := 1) rfl ?_
  refine Jvm.OwnWp.getf K (wd13 hw) Via.refl F_items d_prog_13_method_4_1 (pc' := 4) rfl ?_
  refine Jvm.OwnWp.iconst K (0 : Int32) d_prog_13_method_4_4 (by decide) (pc' := 5) rfl ?_
  refine iaload K (i := 0) VI (by decide) (mapAt (getDAt (d := 0) (by rw [hI]; decide))) d_prog_13_method_4_5 (pc' := 6) rfl ?_
  refine Jvm.OwnWp.istoreN K d_prog_13_method_4_6 (Ls' := #[.val (.ref q), .val (.int (Il.getD 0 0)), .unset, .unset, .unset, .unset, .unset]) rfl (pc' := 7) rfl ?_
  refine Jvm.OwnWp.aloadN K d_prog_13_method_4_7 rfl rfl (pc' := 8) rfl ?_
  refine Jvm.OwnWp.dup K d_prog_13_method_4_8 rfl (pc' := 9) rfl ?_
  refine Jvm.OwnWp.getf K (wd20 hw) Via.refl F_size d_prog_13_method_4_9 (pc' := 12) rfl ?_
  refine Jvm.OwnWp.iconst K (1 : Int32) d_prog_13_method_4_12 (by decide) (pc' := 13) rfl ?_
  refine Jvm.OwnWp.isub K d_prog_13_method_4_13 (pc' := 14) rfl ?_
  refine putf K (wd20 hw) Via.refl F_size E (Or.inl (wd21 hw)) (wd1 hw) (ty := .int) (by decide) rfl rfl ge_q d_prog_13_method_4_14 (pc' := 17) rfl ?_
  intro h12 W12
  have F12_keys_q := (Fld.other W12 F_keys (Or.inr (sn_MinQueue_keys_size hw)))
  have F12_items_q := (Fld.other W12 F_items (Or.inr (sn_MinQueue_items_size hw)))
  have X12_q := (Exa.wr W12 E)
  have V12_ks := (VK.other W12 ne_ks_q)
  have V12_is := (VI.other W12 ne_is_q)
  have P12 := (P0.wr W12 (Or.inl (List.mem_of_getElem? (i := 0) rfl)))
  have F12_size_q := Fld.same W12 F_size
  refine Jvm.OwnWp.aloadN K d_prog_13_method_4_17 rfl rfl (pc' := 18) rfl ?_
  refine Jvm.OwnWp.getf K (wd10 hw) Via.refl F12_keys_q d_prog_13_method_4_18 (pc' := 21) rfl ?_
  refine Jvm.OwnWp.aloadN K d_prog_13_method_4_21 rfl rfl (pc' := 22) rfl ?_
  refine Jvm.OwnWp.getf K (wd20 hw) Via.refl F12_size_q d_prog_13_method_4_22 (pc' := 25) rfl ?_
  refine daload K (i := (n - 1)) V12_ks hs1 (mapAt (getDAt (d := 0) (by rw [hK]; exact hn1))) d_prog_13_method_4_25 (pc' := 26) rfl ?_
  refine Jvm.OwnWp.dstoreN K d_prog_13_method_4_26 (Ls' := #[.val (.ref q), .val (.int (Il.getD 0 0)), .val (.double (Kl.getD (n - 1) 0)), .second, .unset, .unset, .unset]) rfl (pc' := 27) rfl ?_
  refine Jvm.OwnWp.aloadN K d_prog_13_method_4_27 rfl rfl (pc' := 28) rfl ?_
  refine Jvm.OwnWp.getf K (wd13 hw) Via.refl F12_items_q d_prog_13_method_4_28 (pc' := 31) rfl ?_
  refine Jvm.OwnWp.aloadN K d_prog_13_method_4_31 rfl rfl (pc' := 32) rfl ?_
  refine Jvm.OwnWp.getf K (wd20 hw) Via.refl F12_size_q d_prog_13_method_4_32 (pc' := 35) rfl ?_
  refine iaload K (i := (n - 1)) V12_is hs1 (mapAt (getDAt (d := 0) (by rw [hI]; exact hn1))) d_prog_13_method_4_35 (pc' := 36) rfl ?_
  refine Jvm.OwnWp.istore K d_prog_13_method_4_36 (Ls' := #[.val (.ref q), .val (.int (Il.getD 0 0)), .val (.double (Kl.getD (n - 1) 0)), .second, .val (.int (Il.getD (n - 1) 0)), .unset, .unset]) rfl (pc' := 38) rfl ?_
  refine Jvm.OwnWp.iconst K (0 : Int32) d_prog_13_method_4_38 (by decide) (pc' := 39) rfl ?_
  refine Jvm.OwnWp.istore K d_prog_13_method_4_39 (Ls' := #[.val (.ref q), .val (.int (Il.getD 0 0)), .val (.double (Kl.getD (n - 1) 0)), .second, .val (.int (Il.getD (n - 1) 0)), .val (.int (0 : Int32)), .unset]) rfl (pc' := 41) rfl ?_
  generalize Kl.getD (n - 1) 0 = key at *
  generalize Il.getD (n - 1) 0 = item at *
  have loop : ∀ (f i : Nat) (hl : Int32) (o6 : Slot) (K' : List UInt64) (I' : List Int32) (hh : Heap), n - i ≤ f → One o6 → hl.toInt = i → i < 64 → K'.length = 64 → I'.length = 64 → down (n - 1) key item K' I' i = (down (n - 1) key item Kl Il 0) → Keep h0 hh [q, ks, is] → Exa Z hh q "com/example/routeloom/routeloom/MinQueue" → Fld Z hh q "com/example/routeloom/routeloom/MinQueue" "keys" "[D" (.ref ks) → Fld Z hh q "com/example/routeloom/routeloom/MinQueue" "items" "[I" (.ref is) → Fld Z hh q "com/example/routeloom/routeloom/MinQueue" "size" "I" (.int (sz - (1 : Int32))) → DV Z hh ks K' → IV Z hh is I' → Go p l e ({ frames := 0, cells := 0, slots := 0, locals := 0 } : Room) s m #[(.ref q)] below meth c n0 hh 0 0 (mkF m 41 #[.val (.ref q), .val (.int (Il.getD 0 0)), .val (.double key), .second, .val (.int item), .val (.int hl), o6] []) (fun v h => v = some (.int (Il.getD 0 0)) ∧ Keep h0 h [q, ks, is] ∧ Exa Z h q "com/example/routeloom/routeloom/MinQueue" ∧ Fld Z h q "com/example/routeloom/routeloom/MinQueue" "keys" "[D" (.ref ks) ∧ Fld Z h q "com/example/routeloom/routeloom/MinQueue" "items" "[I" (.ref is) ∧ Fld Z h q "com/example/routeloom/routeloom/MinQueue" "size" "I" (.int (sz - 1)) ∧ DV Z h ks (down (n - 1) key item Kl Il 0).1 ∧ IV Z h is (down (n - 1) key item Kl Il 0).2) := by
    intro f
    induction f with
    | zero =>
      intro i hl o6 K' I' hh hf ho6 hi hi64 hK' hI' hup LP LE LF_keys LF_items LF_size LVK LVI
      have hk1 := n_kid1 hi hi64
      refine Jvm.OwnWp.iconst K (2 : Int32) d_prog_13_method_4_41 (by decide) (pc' := 42) rfl ?_
      refine Jvm.OwnWp.iload K d_prog_13_method_4_42 rfl (pc' := 44) rfl ?_
      refine Jvm.OwnWp.imul K d_prog_13_method_4_44 (pc' := 45) rfl ?_
      refine Jvm.OwnWp.iconst K (1 : Int32) d_prog_13_method_4_45 (by decide) (pc' := 46) rfl ?_
      refine Jvm.OwnWp.iadd K d_prog_13_method_4_46 (pc' := 47) rfl ?_
      refine Jvm.OwnWp.aloadN K d_prog_13_method_4_47 rfl rfl (pc' := 48) rfl ?_
      refine Jvm.OwnWp.getf K (wd20 hw) Via.refl LF_size d_prog_13_method_4_48 (pc' := 51) rfl ?_
      refine icY K d_prog_13_method_4_51 (XT.ii_ge_t (fun q => absurd ((n_lt hk1 hs1).mp q) (by omega))) (pc' := 146) (by decide) (by decide) ?_
      have e := hup.symm.trans (down_end (by omega))
      refine Jvm.OwnWp.aloadN K d_prog_13_method_4_146 rfl rfl (pc' := 147) rfl ?_
      refine Jvm.OwnWp.getf K (wd10 hw) Via.refl LF_keys d_prog_13_method_4_147 (pc' := 150) rfl ?_
      refine Jvm.OwnWp.iload K d_prog_13_method_4_150 rfl (pc' := 152) rfl ?_
      refine Jvm.OwnWp.dloadN K d_prog_13_method_4_152 rfl (pc' := 153) rfl ?_
      refine dastore K (i := i) LVK hi (mapLt (by rw [hK']; exact hi64)) ge_ks d_prog_13_method_4_153 (pc' := 154) rfl ?_
      intro h13 W13
      have F13_keys_q := (Fld.other W13 LF_keys (Or.inl (Ne.symm ne_ks_q)))
      have F13_items_q := (Fld.other W13 LF_items (Or.inl (Ne.symm ne_ks_q)))
      have F13_size_q := (Fld.other W13 LF_size (Or.inl (Ne.symm ne_ks_q)))
      have X13_q := (Exa.wr W13 LE)
      have V13_is := (LVI.other W13 ne_is_ks)
      have P13 := (LP.wr W13 (Or.inl (List.mem_of_getElem? (i := 1) rfl)))
      have V13_ks := LVK.set W13
      refine Jvm.OwnWp.aloadN K d_prog_13_method_4_154 rfl rfl (pc' := 155) rfl ?_
      refine Jvm.OwnWp.getf K (wd13 hw) Via.refl F13_items_q d_prog_13_method_4_155 (pc' := 158) rfl ?_
      refine Jvm.OwnWp.iload K d_prog_13_method_4_158 rfl (pc' := 160) rfl ?_
      refine Jvm.OwnWp.iload K d_prog_13_method_4_160 rfl (pc' := 162) rfl ?_
      refine iastore K (i := i) V13_is hi (mapLt (by rw [hI']; exact hi64)) ge_is d_prog_13_method_4_162 (pc' := 163) rfl ?_
      intro h14 W14
      have F14_keys_q := (Fld.other W14 F13_keys_q (Or.inl (Ne.symm ne_is_q)))
      have F14_items_q := (Fld.other W14 F13_items_q (Or.inl (Ne.symm ne_is_q)))
      have F14_size_q := (Fld.other W14 F13_size_q (Or.inl (Ne.symm ne_is_q)))
      have X14_q := (Exa.wr W14 X13_q)
      have V14_ks := (V13_ks.other W14 (Ne.symm ne_is_ks))
      have P14 := (P13.wr W14 (Or.inl (List.mem_of_getElem? (i := 2) rfl)))
      have V14_is := V13_is.set W14
      refine Jvm.OwnWp.iloadN K d_prog_13_method_4_163 rfl (pc' := 164) rfl ?_
      refine retI K rfl d_prog_13_method_4_164 (Nat.le_of_ble_eq_true rfl) (Nat.le_of_ble_eq_true rfl) ?_
      rw [e]
      exact ⟨rfl, P14, X14_q, F14_keys_q, F14_items_q, F14_size_q, V14_ks, V14_is⟩
    | succ f ih =>
      intro i hl o6 K' I' hh hf ho6 hi hi64 hK' hI' hup LP LE LF_keys LF_items LF_size LVK LVI
      have hk1 := n_kid1 hi hi64
      refine Jvm.OwnWp.iconst K (2 : Int32) d_prog_13_method_4_41 (by decide) (pc' := 42) rfl ?_
      refine Jvm.OwnWp.iload K d_prog_13_method_4_42 rfl (pc' := 44) rfl ?_
      refine Jvm.OwnWp.imul K d_prog_13_method_4_44 (pc' := 45) rfl ?_
      refine Jvm.OwnWp.iconst K (1 : Int32) d_prog_13_method_4_45 (by decide) (pc' := 46) rfl ?_
      refine Jvm.OwnWp.iadd K d_prog_13_method_4_46 (pc' := 47) rfl ?_
      refine Jvm.OwnWp.aloadN K d_prog_13_method_4_47 rfl rfl (pc' := 48) rfl ?_
      refine Jvm.OwnWp.getf K (wd20 hw) Via.refl LF_size d_prog_13_method_4_48 (pc' := 51) rfl ?_
      by_cases c1 : (((2 : Int32) * hl) + (1 : Int32)) < (sz - (1 : Int32))
      · refine icN K d_prog_13_method_4_51 (XT.ii_ge_f c1) (pc' := 54) rfl ?_
        have i1 := (n_lt hk1 hs1).mp c1
        have hk2 := n_add1 hk1 (by omega)
        refine Jvm.OwnWp.iconst K (2 : Int32) d_prog_13_method_4_54 (by decide) (pc' := 55) rfl ?_
        refine Jvm.OwnWp.iload K d_prog_13_method_4_55 rfl (pc' := 57) rfl ?_
        refine Jvm.OwnWp.imul K d_prog_13_method_4_57 (pc' := 58) rfl ?_
        refine Jvm.OwnWp.iconst K (1 : Int32) d_prog_13_method_4_58 (by decide) (pc' := 59) rfl ?_
        refine Jvm.OwnWp.iadd K d_prog_13_method_4_59 (pc' := 60) rfl ?_
        refine Jvm.OwnWp.istoreS K d_prog_13_method_4_60 rfl ho6 (Ls' := #[.val (.ref q), .val (.int (Il.getD 0 0)), .val (.double key), .second, .val (.int item), .val (.int hl), .val (.int (((2 : Int32) * hl) + (1 : Int32)))]) rfl (pc' := 62) rfl ?_
        refine Jvm.OwnWp.iload K d_prog_13_method_4_62 rfl (pc' := 64) rfl ?_
        refine Jvm.OwnWp.iconst K (1 : Int32) d_prog_13_method_4_64 (by decide) (pc' := 65) rfl ?_
        refine Jvm.OwnWp.iadd K d_prog_13_method_4_65 (pc' := 66) rfl ?_
        refine Jvm.OwnWp.aloadN K d_prog_13_method_4_66 rfl rfl (pc' := 67) rfl ?_
        refine Jvm.OwnWp.getf K (wd20 hw) Via.refl LF_size d_prog_13_method_4_67 (pc' := 70) rfl ?_
        have join : ∀ cj : Int32, cj.toInt = (kid (n - 1) K' i : Nat) → Go p l e ({ frames := 0, cells := 0, slots := 0, locals := 0 } : Room) s m #[(.ref q)] below meth c n0 hh 0 0 (mkF m 96 #[.val (.ref q), .val (.int (Il.getD 0 0)), .val (.double key), .second, .val (.int item), .val (.int hl), .val (.int cj)] []) (fun v h => v = some (.int (Il.getD 0 0)) ∧ Keep h0 h [q, ks, is] ∧ Exa Z h q "com/example/routeloom/routeloom/MinQueue" ∧ Fld Z h q "com/example/routeloom/routeloom/MinQueue" "keys" "[D" (.ref ks) ∧ Fld Z h q "com/example/routeloom/routeloom/MinQueue" "items" "[I" (.ref is) ∧ Fld Z h q "com/example/routeloom/routeloom/MinQueue" "size" "I" (.int (sz - 1)) ∧ DV Z h ks (down (n - 1) key item Kl Il 0).1 ∧ IV Z h is (down (n - 1) key item Kl Il 0).2) := by
          intro cj hc
          have hkb := kid_bd (n - 1) K' i
          have hc64 : kid (n - 1) K' i < 64 := by omega
          refine Jvm.OwnWp.aloadN K d_prog_13_method_4_96 rfl rfl (pc' := 97) rfl ?_
          refine Jvm.OwnWp.getf K (wd10 hw) Via.refl LF_keys d_prog_13_method_4_97 (pc' := 100) rfl ?_
          refine Jvm.OwnWp.iload K d_prog_13_method_4_100 rfl (pc' := 102) rfl ?_
          refine daload K (i := (kid (n - 1) K' i)) LVK hc (mapAt (getDAt (d := 0) (by rw [hK']; exact hc64))) d_prog_13_method_4_102 (pc' := 103) rfl ?_
          refine Jvm.OwnWp.dloadN K d_prog_13_method_4_103 rfl (pc' := 104) rfl ?_
          refine Jvm.OwnWp.dcmp K d_prog_13_method_4_104 (pc' := 105) rfl ?_
          by_cases c2 : Jvm.OwnWp.dge (FP.dcmp (K'.getD (kid (n - 1) K' i) 0) key)
          · refine ifN K d_prog_13_method_4_105 (dd_l_lt_f c2) (pc' := 108) rfl ?_
            refine goto' K d_prog_13_method_4_108 (pc' := 146) (by decide) (by decide) ?_
            have e := hup.symm.trans (down_stop i1 c2)
            refine Jvm.OwnWp.aloadN K d_prog_13_method_4_146 rfl rfl (pc' := 147) rfl ?_
            refine Jvm.OwnWp.getf K (wd10 hw) Via.refl LF_keys d_prog_13_method_4_147 (pc' := 150) rfl ?_
            refine Jvm.OwnWp.iload K d_prog_13_method_4_150 rfl (pc' := 152) rfl ?_
            refine Jvm.OwnWp.dloadN K d_prog_13_method_4_152 rfl (pc' := 153) rfl ?_
            refine dastore K (i := i) LVK hi (mapLt (by rw [hK']; exact hi64)) ge_ks d_prog_13_method_4_153 (pc' := 154) rfl ?_
            intro h15 W15
            have F15_keys_q := (Fld.other W15 LF_keys (Or.inl (Ne.symm ne_ks_q)))
            have F15_items_q := (Fld.other W15 LF_items (Or.inl (Ne.symm ne_ks_q)))
            have F15_size_q := (Fld.other W15 LF_size (Or.inl (Ne.symm ne_ks_q)))
            have X15_q := (Exa.wr W15 LE)
            have V15_is := (LVI.other W15 ne_is_ks)
            have P15 := (LP.wr W15 (Or.inl (List.mem_of_getElem? (i := 1) rfl)))
            have V15_ks := LVK.set W15
            refine Jvm.OwnWp.aloadN K d_prog_13_method_4_154 rfl rfl (pc' := 155) rfl ?_
            refine Jvm.OwnWp.getf K (wd13 hw) Via.refl F15_items_q d_prog_13_method_4_155 (pc' := 158) rfl ?_
            refine Jvm.OwnWp.iload K d_prog_13_method_4_158 rfl (pc' := 160) rfl ?_
            refine Jvm.OwnWp.iload K d_prog_13_method_4_160 rfl (pc' := 162) rfl ?_
            refine iastore K (i := i) V15_is hi (mapLt (by rw [hI']; exact hi64)) ge_is d_prog_13_method_4_162 (pc' := 163) rfl ?_
            intro h16 W16
            have F16_keys_q := (Fld.other W16 F15_keys_q (Or.inl (Ne.symm ne_is_q)))
            have F16_items_q := (Fld.other W16 F15_items_q (Or.inl (Ne.symm ne_is_q)))
            have F16_size_q := (Fld.other W16 F15_size_q (Or.inl (Ne.symm ne_is_q)))
            have X16_q := (Exa.wr W16 X15_q)
            have V16_ks := (V15_ks.other W16 (Ne.symm ne_is_ks))
            have P16 := (P15.wr W16 (Or.inl (List.mem_of_getElem? (i := 2) rfl)))
            have V16_is := V15_is.set W16
            refine Jvm.OwnWp.iloadN K d_prog_13_method_4_163 rfl (pc' := 164) rfl ?_
            refine retI K rfl d_prog_13_method_4_164 (Nat.le_of_ble_eq_true rfl) (Nat.le_of_ble_eq_true rfl) ?_
            rw [e]
            exact ⟨rfl, P16, X16_q, F16_keys_q, F16_items_q, F16_size_q, V16_ks, V16_is⟩
          · refine ifY K d_prog_13_method_4_105 (dd_l_lt_t c2) (pc' := 111) (by decide) (by decide) ?_
            refine Jvm.OwnWp.aloadN K d_prog_13_method_4_111 rfl rfl (pc' := 112) rfl ?_
            refine Jvm.OwnWp.getf K (wd10 hw) Via.refl LF_keys d_prog_13_method_4_112 (pc' := 115) rfl ?_
            refine Jvm.OwnWp.iload K d_prog_13_method_4_115 rfl (pc' := 117) rfl ?_
            refine Jvm.OwnWp.aloadN K d_prog_13_method_4_117 rfl rfl (pc' := 118) rfl ?_
            refine Jvm.OwnWp.getf K (wd10 hw) Via.refl LF_keys d_prog_13_method_4_118 (pc' := 121) rfl ?_
            refine Jvm.OwnWp.iload K d_prog_13_method_4_121 rfl (pc' := 123) rfl ?_
            refine daload K (i := (kid (n - 1) K' i)) LVK hc (mapAt (getDAt (d := 0) (by rw [hK']; exact hc64))) d_prog_13_method_4_123 (pc' := 124) rfl ?_
            refine dastore K (i := i) LVK hi (mapLt (by rw [hK']; exact hi64)) ge_ks d_prog_13_method_4_124 (pc' := 125) rfl ?_
            intro h17 W17
            have F17_keys_q := (Fld.other W17 LF_keys (Or.inl (Ne.symm ne_ks_q)))
            have F17_items_q := (Fld.other W17 LF_items (Or.inl (Ne.symm ne_ks_q)))
            have F17_size_q := (Fld.other W17 LF_size (Or.inl (Ne.symm ne_ks_q)))
            have X17_q := (Exa.wr W17 LE)
            have V17_is := (LVI.other W17 ne_is_ks)
            have P17 := (LP.wr W17 (Or.inl (List.mem_of_getElem? (i := 1) rfl)))
            have V17_ks := LVK.set W17
            refine Jvm.OwnWp.aloadN K d_prog_13_method_4_125 rfl rfl (pc' := 126) rfl ?_
            refine Jvm.OwnWp.getf K (wd13 hw) Via.refl F17_items_q d_prog_13_method_4_126 (pc' := 129) rfl ?_
            refine Jvm.OwnWp.iload K d_prog_13_method_4_129 rfl (pc' := 131) rfl ?_
            refine Jvm.OwnWp.aloadN K d_prog_13_method_4_131 rfl rfl (pc' := 132) rfl ?_
            refine Jvm.OwnWp.getf K (wd13 hw) Via.refl F17_items_q d_prog_13_method_4_132 (pc' := 135) rfl ?_
            refine Jvm.OwnWp.iload K d_prog_13_method_4_135 rfl (pc' := 137) rfl ?_
            refine iaload K (i := (kid (n - 1) K' i)) V17_is hc (mapAt (getDAt (d := 0) (by rw [hI']; exact hc64))) d_prog_13_method_4_137 (pc' := 138) rfl ?_
            refine iastore K (i := i) V17_is hi (mapLt (by rw [hI']; exact hi64)) ge_is d_prog_13_method_4_138 (pc' := 139) rfl ?_
            intro h18 W18
            have F18_keys_q := (Fld.other W18 F17_keys_q (Or.inl (Ne.symm ne_is_q)))
            have F18_items_q := (Fld.other W18 F17_items_q (Or.inl (Ne.symm ne_is_q)))
            have F18_size_q := (Fld.other W18 F17_size_q (Or.inl (Ne.symm ne_is_q)))
            have X18_q := (Exa.wr W18 X17_q)
            have V18_ks := (V17_ks.other W18 (Ne.symm ne_is_ks))
            have P18 := (P17.wr W18 (Or.inl (List.mem_of_getElem? (i := 2) rfl)))
            have V18_is := V17_is.set W18
            refine Jvm.OwnWp.iload K d_prog_13_method_4_139 rfl (pc' := 141) rfl ?_
            refine Jvm.OwnWp.istore K d_prog_13_method_4_141 (Ls' := #[.val (.ref q), .val (.int (Il.getD 0 0)), .val (.double key), .second, .val (.int item), .val (.int cj), .val (.int cj)]) rfl (pc' := 143) rfl ?_
            refine goto' K d_prog_13_method_4_143 (pc' := 41) (by decide) (by decide) ?_
            exact ih _ _ _ _ _ _ (by omega) (One.val rfl) hc hc64 (by simpa using hK') (by simpa using hI') ((down_go i1 c2).symm.trans hup) P18 X18_q F18_keys_q F18_items_q F18_size_q V18_ks V18_is
        by_cases c3 : ((((2 : Int32) * hl) + (1 : Int32)) + (1 : Int32)) < (sz - (1 : Int32))
        · refine icN K d_prog_13_method_4_70 (XT.ii_ge_f c3) (pc' := 73) rfl ?_
          have i2 := (n_lt hk2 hs1).mp c3
          refine Jvm.OwnWp.aloadN K d_prog_13_method_4_73 rfl rfl (pc' := 74) rfl ?_
          refine Jvm.OwnWp.getf K (wd10 hw) Via.refl LF_keys d_prog_13_method_4_74 (pc' := 77) rfl ?_
          refine Jvm.OwnWp.iload K d_prog_13_method_4_77 rfl (pc' := 79) rfl ?_
          refine Jvm.OwnWp.iconst K (1 : Int32) d_prog_13_method_4_79 (by decide) (pc' := 80) rfl ?_
          refine Jvm.OwnWp.iadd K d_prog_13_method_4_80 (pc' := 81) rfl ?_
          refine daload K (i := (2 * i + 2)) LVK hk2 (mapAt (getDAt (d := 0) (by rw [hK']; omega))) d_prog_13_method_4_81 (pc' := 82) rfl ?_
          refine Jvm.OwnWp.aloadN K d_prog_13_method_4_82 rfl rfl (pc' := 83) rfl ?_
          refine Jvm.OwnWp.getf K (wd10 hw) Via.refl LF_keys d_prog_13_method_4_83 (pc' := 86) rfl ?_
          refine Jvm.OwnWp.iload K d_prog_13_method_4_86 rfl (pc' := 88) rfl ?_
          refine daload K (i := (2 * i + 1)) LVK hk1 (mapAt (getDAt (d := 0) (by rw [hK']; omega))) d_prog_13_method_4_88 (pc' := 89) rfl ?_
          refine Jvm.OwnWp.dcmp K d_prog_13_method_4_89 (pc' := 90) rfl ?_
          by_cases c4 : FP.dcmp (K'.getD (2 * i + 2) 0) (K'.getD (2 * i + 1) 0) = some .lt
          · refine ifN K d_prog_13_method_4_90 (dd_g_ge_f c4) (pc' := 93) rfl ?_
            refine Jvm.OwnWp.iinc K (1 : Int32) d_prog_13_method_4_93 (by decide) rfl (Ls' := #[.val (.ref q), .val (.int (Il.getD 0 0)), .val (.double key), .second, .val (.int item), .val (.int hl), .val (.int ((((2 : Int32) * hl) + (1 : Int32)) + (1 : Int32)))]) rfl (pc' := 96) rfl ?_
            exact join _ (by rw [hk2]; unfold kid; rw [if_pos ⟨i2, c4⟩])
          · refine ifY K d_prog_13_method_4_90 (dd_g_ge_t c4) (pc' := 96) (by decide) (by decide) ?_
            exact join _ (by rw [hk1]; unfold kid; rw [if_neg (fun q => c4 q.2)])
        · refine icY K d_prog_13_method_4_70 (XT.ii_ge_t c3) (pc' := 96) (by decide) (by decide) ?_
          exact join _ (by rw [hk1]; unfold kid; rw [if_neg (fun q => c3 ((n_lt hk2 hs1).mpr q.1))])
      · refine icY K d_prog_13_method_4_51 (XT.ii_ge_t c1) (pc' := 146) (by decide) (by decide) ?_
        have e := hup.symm.trans (down_end (fun q => c1 ((n_lt hk1 hs1).mpr q)))
        refine Jvm.OwnWp.aloadN K d_prog_13_method_4_146 rfl rfl (pc' := 147) rfl ?_
        refine Jvm.OwnWp.getf K (wd10 hw) Via.refl LF_keys d_prog_13_method_4_147 (pc' := 150) rfl ?_
        refine Jvm.OwnWp.iload K d_prog_13_method_4_150 rfl (pc' := 152) rfl ?_
        refine Jvm.OwnWp.dloadN K d_prog_13_method_4_152 rfl (pc' := 153) rfl ?_
        refine dastore K (i := i) LVK hi (mapLt (by rw [hK']; exact hi64)) ge_ks d_prog_13_method_4_153 (pc' := 154) rfl ?_
        intro h19 W19
        have F19_keys_q := (Fld.other W19 LF_keys (Or.inl (Ne.symm ne_ks_q)))
        have F19_items_q := (Fld.other W19 LF_items (Or.inl (Ne.symm ne_ks_q)))
        have F19_size_q := (Fld.other W19 LF_size (Or.inl (Ne.symm ne_ks_q)))
        have X19_q := (Exa.wr W19 LE)
        have V19_is := (LVI.other W19 ne_is_ks)
        have P19 := (LP.wr W19 (Or.inl (List.mem_of_getElem? (i := 1) rfl)))
        have V19_ks := LVK.set W19
        refine Jvm.OwnWp.aloadN K d_prog_13_method_4_154 rfl rfl (pc' := 155) rfl ?_
        refine Jvm.OwnWp.getf K (wd13 hw) Via.refl F19_items_q d_prog_13_method_4_155 (pc' := 158) rfl ?_
        refine Jvm.OwnWp.iload K d_prog_13_method_4_158 rfl (pc' := 160) rfl ?_
        refine Jvm.OwnWp.iload K d_prog_13_method_4_160 rfl (pc' := 162) rfl ?_
        refine iastore K (i := i) V19_is hi (mapLt (by rw [hI']; exact hi64)) ge_is d_prog_13_method_4_162 (pc' := 163) rfl ?_
        intro h20 W20
        have F20_keys_q := (Fld.other W20 F19_keys_q (Or.inl (Ne.symm ne_is_q)))
        have F20_items_q := (Fld.other W20 F19_items_q (Or.inl (Ne.symm ne_is_q)))
        have F20_size_q := (Fld.other W20 F19_size_q (Or.inl (Ne.symm ne_is_q)))
        have X20_q := (Exa.wr W20 X19_q)
        have V20_ks := (V19_ks.other W20 (Ne.symm ne_is_ks))
        have P20 := (P19.wr W20 (Or.inl (List.mem_of_getElem? (i := 2) rfl)))
        have V20_is := V19_is.set W20
        refine Jvm.OwnWp.iloadN K d_prog_13_method_4_163 rfl (pc' := 164) rfl ?_
        refine retI K rfl d_prog_13_method_4_164 (Nat.le_of_ble_eq_true rfl) (Nat.le_of_ble_eq_true rfl) ?_
        rw [e]
        exact ⟨rfl, P20, X20_q, F20_keys_q, F20_items_q, F20_size_q, V20_ks, V20_is⟩
  exact loop _ 0 0 .unset Kl Il _ (Nat.le_refl _) One.u (by decide) (by decide) hK hI rfl P12 X12_q F12_keys_q F12_items_q F12_size_q V12_ks V12_is
theorem own_le3 {x : Int32} (h1 : 0 ≤ x.toInt) (h2 : x.toInt ≤ 3) : x = 0 ∨ x = 1 ∨ x = 2 ∨ x = 3 := by
  have : x.toInt = 0 ∨ x.toInt = 1 ∨ x.toInt = 2 ∨ x.toInt = 3 := by omega
  rcases this with q | q | q | q
  · exact Or.inl (Int32.toInt_inj.mp q)
  · exact Or.inr (Or.inl (Int32.toInt_inj.mp q))
  · exact Or.inr (Or.inr (Or.inl (Int32.toInt_inj.mp q)))
  · exact Or.inr (Or.inr (Or.inr (Int32.toInt_inj.mp q)))
theorem own_mask3 (x : Int32) : x &&& 3 = 0 ∨ x &&& 3 = 1 ∨ x &&& 3 = 2 ∨ x &&& 3 = 3 := by
  obtain ⟨a, b⟩ := c_and x 3 (by decide)
  exact own_le3 a (by simpa using b)
theorem own_rem (x y : Int32) (k : Int) (hy : y.toInt = k + 1) (hk : 0 ≤ k) : 0 ≤ ((x &&& 3) % y).toInt ∧ ((x &&& 3) % y).toInt ≤ k := by
  obtain ⟨a, b⟩ := c_and x 3 (by decide)
  obtain ⟨r1, r2, -⟩ := (c_iremV (x &&& 3) y).1 a (by omega)
  exact ⟨r1, by omega⟩
theorem own_r0 (x : Int32) : (x &&& 3) % (0 + 1) = 0 := by
  have h := own_rem x (0 + 1) 0 (by decide) (by decide)
  exact Int32.toInt_inj.mp (by simp only [Int32.reduceToInt]; omega)
theorem own_r1 (x : Int32) : (x &&& 3) % (1 + 1) = 0 ∨ (x &&& 3) % (1 + 1) = 1 := by
  have h := own_rem x (1 + 1) 1 (by decide) (by decide)
  generalize (x &&& 3) % (1 + 1) = r at *
  rcases own_le3 h.1 (by omega) with rfl | rfl | rfl | rfl
  · exact Or.inl rfl
  · exact Or.inr rfl
  · exact absurd h.2 (by decide)
  · exact absurd h.2 (by decide)
theorem own_r2 (x : Int32) : (x &&& 3) % (2 + 1) = 0 ∨ (x &&& 3) % (2 + 1) = 1 ∨ (x &&& 3) % (2 + 1) = 2 := by
  have h := own_rem x (2 + 1) 2 (by decide) (by decide)
  generalize (x &&& 3) % (2 + 1) = r at *
  rcases own_le3 h.1 (by omega) with rfl | rfl | rfl | rfl
  · exact Or.inl rfl
  · exact Or.inr (Or.inl rfl)
  · exact Or.inr (Or.inr rfl)
  · exact absurd h.2 (by decide)
theorem own_r3 (x : Int32) : (x &&& 3) % (3 + 1) = 0 ∨ (x &&& 3) % (3 + 1) = 1 ∨ (x &&& 3) % (3 + 1) = 2 ∨ (x &&& 3) % (3 + 1) = 3 := by
  have h := own_rem x (3 + 1) 3 (by decide) (by decide)
  exact own_le3 h.1 (by omega)
set_option maxRecDepth 65536 in
set_option maxHeartbeats 40000000 in
theorem c_law (l : Launch) (Z : State) (a0 : Array Value) (hw : ∀ d ∈ tables_1, d.before a0 Z = true) (ws : List Jvm.Cond) (p0 p1 p2 p3 p4 p5 : Int32) (h0 : Heap) (n0 : Nat) (Z0 : n0 ≤ h0.size) :
    Ctr l Z x code maxLocals ret ws room_1 n0 #[(.int p0), (.int p1), (.int p2), (.int p3), (.int p4), (.int p5)] h0 (fun v h => v = some (.int 1)) := by
  refine ctr (own := "com/example/routeloom/routeloom/MinQueueIsEmptyPinLaw") (nm := "law") rfl rfl (Ls := #[.val (.int p0), .val (.int p1), .val (.int p2), .val (.int p3), .val (.int p4), .val (.int p5), .unset, .unset, .unset, .unset, .unset, .unset, .unset, .unset, .unset, .unset]) (plainFor_of_name pn1) (fun m => by first | (simp [entryFrame, mkF, argsToLocals, Value.category, maxLocals]; done) | rfl) ?_
  intro p e s m below meth c K eh
  have P0 := Keep.refl h0 []
  refine Jvm.OwnWp.iloadN K at_0 rfl (pc' := 1) rfl ?_
  refine Jvm.OwnWp.iconst K (3 : Int32) at_1 (by decide) (pc' := 2) rfl ?_
  refine Jvm.OwnWp.iand K at_2 (pc' := 3) rfl ?_
  have hk := own_mask3 p0
  generalize p0 &&& (3 : Int32) = kv at *
  rcases hk with rfl | rfl | rfl | rfl
  · refine Jvm.OwnWp.istore K at_3 (Ls' := #[.val (.int p0), .val (.int p1), .val (.int p2), .val (.int p3), .val (.int p4), .val (.int p5), .val (.int (0 : Int32)), .unset, .unset, .unset, .unset, .unset, .unset, .unset, .unset, .unset]) rfl (pc' := 5) rfl ?_
    refine Jvm.OwnWp.iloadN K at_5 rfl (pc' := 6) rfl ?_
    refine Jvm.OwnWp.iconst K (3 : Int32) at_6 (by decide) (pc' := 7) rfl ?_
    refine Jvm.OwnWp.iand K at_7 (pc' := 8) rfl ?_
    refine Jvm.OwnWp.iload K at_8 rfl (pc' := 10) rfl ?_
    refine Jvm.OwnWp.iconst K (1 : Int32) at_10 (by decide) (pc' := 11) rfl ?_
    refine Jvm.OwnWp.iadd K at_11 (pc' := 12) rfl ?_
    refine Jvm.OwnWp.irem K at_12 (by decide) (pc' := 13) rfl ?_
    have hr := own_r0 p1
    generalize (p1 &&& (3 : Int32)) % ((0 : Int32) + (1 : Int32)) = rv at *
    subst hr
    refine Jvm.OwnWp.istore K at_13 (Ls' := #[.val (.int p0), .val (.int p1), .val (.int p2), .val (.int p3), .val (.int p4), .val (.int p5), .val (.int (0 : Int32)), .val (.int (0 : Int32)), .unset, .unset, .unset, .unset, .unset, .unset, .unset, .unset]) rfl (pc' := 15) rfl ?_
    refine Jvm.OwnWp.iload K at_15 rfl (pc' := 17) rfl ?_
    refine Jvm.OwnWp.bipush K (28 : Int32) at_17 (by decide) (pc' := 19) rfl ?_
    refine Jvm.OwnWp.ishl K at_19 (pc' := 20) rfl ?_
    refine Jvm.OwnWp.bipush K (28 : Int32) at_20 (by decide) (pc' := 22) rfl ?_
    refine Jvm.OwnWp.ishr K at_22 (pc' := 23) rfl ?_
    refine Jvm.OwnWp.i2d K at_23 (pc' := 24) rfl ?_
    refine Jvm.OwnWp.dstore K at_24 (Ls' := #[.val (.int p0), .val (.int p1), .val (.int p2), .val (.int p3), .val (.int p4), .val (.int p5), .val (.int (0 : Int32)), .val (.int (0 : Int32)), .val (.double (FP.i2d ((p5 <<< ((28 : Int32) &&& 31)) >>> ((28 : Int32) &&& 31)))), .second, .unset, .unset, .unset, .unset, .unset, .unset]) rfl (pc' := 26) rfl ?_
    refine Jvm.OwnWp.iload K at_26 rfl (pc' := 28) rfl ?_
    refine Jvm.OwnWp.bipush K (24 : Int32) at_28 (by decide) (pc' := 30) rfl ?_
    refine Jvm.OwnWp.ishl K at_30 (pc' := 31) rfl ?_
    refine Jvm.OwnWp.bipush K (28 : Int32) at_31 (by decide) (pc' := 33) rfl ?_
    refine Jvm.OwnWp.ishr K at_33 (pc' := 34) rfl ?_
    refine Jvm.OwnWp.i2d K at_34 (pc' := 35) rfl ?_
    refine Jvm.OwnWp.dstore K at_35 (Ls' := #[.val (.int p0), .val (.int p1), .val (.int p2), .val (.int p3), .val (.int p4), .val (.int p5), .val (.int (0 : Int32)), .val (.int (0 : Int32)), .val (.double (FP.i2d ((p5 <<< ((28 : Int32) &&& 31)) >>> ((28 : Int32) &&& 31)))), .second, .val (.double (FP.i2d ((p5 <<< ((24 : Int32) &&& 31)) >>> ((28 : Int32) &&& 31)))), .second, .unset, .unset, .unset, .unset]) rfl (pc' := 37) rfl ?_
    refine Jvm.OwnWp.iload K at_37 rfl (pc' := 39) rfl ?_
    refine Jvm.OwnWp.bipush K (20 : Int32) at_39 (by decide) (pc' := 41) rfl ?_
    refine Jvm.OwnWp.ishl K at_41 (pc' := 42) rfl ?_
    refine Jvm.OwnWp.bipush K (28 : Int32) at_42 (by decide) (pc' := 44) rfl ?_
    refine Jvm.OwnWp.ishr K at_44 (pc' := 45) rfl ?_
    refine Jvm.OwnWp.i2d K at_45 (pc' := 46) rfl ?_
    refine Jvm.OwnWp.dstore K at_46 (Ls' := #[.val (.int p0), .val (.int p1), .val (.int p2), .val (.int p3), .val (.int p4), .val (.int p5), .val (.int (0 : Int32)), .val (.int (0 : Int32)), .val (.double (FP.i2d ((p5 <<< ((28 : Int32) &&& 31)) >>> ((28 : Int32) &&& 31)))), .second, .val (.double (FP.i2d ((p5 <<< ((24 : Int32) &&& 31)) >>> ((28 : Int32) &&& 31)))), .second, .val (.double (FP.i2d ((p5 <<< ((20 : Int32) &&& 31)) >>> ((28 : Int32) &&& 31)))), .second, .unset, .unset]) rfl (pc' := 48) rfl ?_
    refine newObj K (wd0 hw) (wd1 hw) (wd2 hw) at_48 (by decide) (by decide) (pc' := 51) rfl ?_
    intro h21 b21 g21 E21 A21 D21
    have lt_b21 : h0.size ≤ b21 := Nat.le_trans P0.1 (Nat.le_of_eq g21.symm)
    have ge_b21 : n0 ≤ b21 := Nat.le_trans Z0 lt_b21
    have P21 := (P0.ext E21)
    have F21_keys_b21 : Fld Z h21 b21 "com/example/routeloom/routeloom/MinQueue" "keys" "[D" .null := D21 (Or.inl (wd11 hw)) (ty := (.array .double)) (by decide)
    have F21_items_b21 : Fld Z h21 b21 "com/example/routeloom/routeloom/MinQueue" "items" "[I" .null := D21 (Or.inl (wd14 hw)) (ty := (.array .int)) (by decide)
    have F21_size_b21 : Fld Z h21 b21 "com/example/routeloom/routeloom/MinQueue" "size" "I" (.int (0 : Int32)) := D21 (Or.inl (wd21 hw)) (ty := .int) (by decide)
    refine Jvm.OwnWp.dup K at_51 rfl (pc' := 52) rfl ?_
    refine callInit K (y := (⟨"com/example/routeloom/routeloom/MinQueue", "<init>", "()V"⟩ : MethodName)) (b := b21) (argsL := []) (S := [(.ref b21)]) rfl (wd3 hw) (wd4 hw) (wd2 hw) (wd5 hw) rfl (by decide) (c_init l Z a0 hw [] b21 h21 n0 (Nat.le_trans Z0 P21.1) A21 ge_b21 F21_keys_b21 F21_items_b21 F21_size_b21) (lenOf pd0 rfl) at_52 rfl (Nat.le_of_ble_eq_true rfl) (Nat.le_of_ble_eq_true rfl) (Nat.le_of_ble_eq_true rfl) (Nat.le_of_ble_eq_true rfl) rfl (pc' := 55) rfl ?_
    rintro v22 h22 ⟨rfl, K22, ks, is, lk22, li22, ne_is_ks, Q22_F_keys, Q22_F_items, Q22_F_size, Q22_VK, Q22_VI⟩
    have ne_b21_ks : b21 ≠ ks := Nat.ne_of_lt (Nat.lt_of_lt_of_le (Exa.lt A21) lk22)
    have lt_ks : h0.size ≤ ks := Nat.le_trans P21.1 lk22
    have ge_ks : n0 ≤ ks := Nat.le_trans Z0 lt_ks
    have ne_b21_is : b21 ≠ is := Nat.ne_of_lt (Nat.lt_of_lt_of_le (Exa.lt A21) li22)
    have lt_is : h0.size ≤ is := Nat.le_trans P21.1 li22
    have ge_is : n0 ≤ is := Nat.le_trans Z0 lt_is
    have X22_b21 := (Exa.keep A21 K22)
    have P22 := (P21.trans K22 (allS (Or.inr lt_b21) (all0)))
    show Go _ _ _ _ _ _ _ _ _ _ _ h22 3 131 (mkF m 55 #[.val (.int p0), .val (.int p1), .val (.int p2), .val (.int p3), .val (.int p4), .val (.int p5), .val (.int (0 : Int32)), .val (.int (0 : Int32)), .val (.double (FP.i2d ((p5 <<< ((28 : Int32) &&& 31)) >>> ((28 : Int32) &&& 31)))), .second, .val (.double (FP.i2d ((p5 <<< ((24 : Int32) &&& 31)) >>> ((28 : Int32) &&& 31)))), .second, .val (.double (FP.i2d ((p5 <<< ((20 : Int32) &&& 31)) >>> ((28 : Int32) &&& 31)))), .second, .unset, .unset] [(.ref b21)]) _
    refine Jvm.OwnWp.astore K at_55 rfl (Ls' := #[.val (.int p0), .val (.int p1), .val (.int p2), .val (.int p3), .val (.int p4), .val (.int p5), .val (.int (0 : Int32)), .val (.int (0 : Int32)), .val (.double (FP.i2d ((p5 <<< ((28 : Int32) &&& 31)) >>> ((28 : Int32) &&& 31)))), .second, .val (.double (FP.i2d ((p5 <<< ((24 : Int32) &&& 31)) >>> ((28 : Int32) &&& 31)))), .second, .val (.double (FP.i2d ((p5 <<< ((20 : Int32) &&& 31)) >>> ((28 : Int32) &&& 31)))), .second, .val (.ref b21), .unset]) rfl (pc' := 57) rfl ?_
    refine Jvm.OwnWp.aload K at_57 rfl rfl (pc' := 59) rfl ?_
    refine callVirt K (y := (⟨"com/example/routeloom/routeloom/MinQueue", "isEmpty", "()Z"⟩ : MethodName)) (b := b21) (argsL := []) (S := []) (wd15 hw) (wd16 hw) (wd18 hw) (wd17 hw) (wd2 hw) (wd19 hw) (by decide) X22_b21 (c_empty l Z a0 hw [] b21 (0 : Int32) h22 n0 (Nat.le_trans Z0 P22.1) Q22_F_size) (lenOf pd1 rfl) at_59 rfl (Nat.le_of_ble_eq_true rfl) (Nat.le_of_ble_eq_true rfl) (Nat.le_of_ble_eq_true rfl) (Nat.le_of_ble_eq_true rfl) rfl (pc' := 62) rfl ?_
    rintro v23 h23 ⟨rfl, rfl⟩
    show Go _ _ _ _ _ _ _ _ _ _ _ h22 3 131 (mkF m 62 #[.val (.int p0), .val (.int p1), .val (.int p2), .val (.int p3), .val (.int p4), .val (.int p5), .val (.int (0 : Int32)), .val (.int (0 : Int32)), .val (.double (FP.i2d ((p5 <<< ((28 : Int32) &&& 31)) >>> ((28 : Int32) &&& 31)))), .second, .val (.double (FP.i2d ((p5 <<< ((24 : Int32) &&& 31)) >>> ((28 : Int32) &&& 31)))), .second, .val (.double (FP.i2d ((p5 <<< ((20 : Int32) &&& 31)) >>> ((28 : Int32) &&& 31)))), .second, .val (.ref b21), .unset] [(.int (1 : Int32))]) _
    refine Jvm.OwnWp.istore K at_62 (Ls' := #[.val (.int p0), .val (.int p1), .val (.int p2), .val (.int p3), .val (.int p4), .val (.int p5), .val (.int (0 : Int32)), .val (.int (0 : Int32)), .val (.double (FP.i2d ((p5 <<< ((28 : Int32) &&& 31)) >>> ((28 : Int32) &&& 31)))), .second, .val (.double (FP.i2d ((p5 <<< ((24 : Int32) &&& 31)) >>> ((28 : Int32) &&& 31)))), .second, .val (.double (FP.i2d ((p5 <<< ((20 : Int32) &&& 31)) >>> ((28 : Int32) &&& 31)))), .second, .val (.ref b21), .val (.int (1 : Int32))]) rfl (pc' := 64) rfl ?_
    refine Jvm.OwnWp.iload K at_64 rfl (pc' := 66) rfl ?_
    refine Jvm.OwnWp.iconst K (1 : Int32) at_66 (by decide) (pc' := 67) rfl ?_
    refine icY K at_67 (by decide) (pc' := 78) (by decide) (by decide) ?_
    refine Jvm.OwnWp.iload K at_78 rfl (pc' := 80) rfl ?_
    refine Jvm.OwnWp.iconst K (2 : Int32) at_80 (by decide) (pc' := 81) rfl ?_
    refine icY K at_81 (by decide) (pc' := 92) (by decide) (by decide) ?_
    refine Jvm.OwnWp.iload K at_92 rfl (pc' := 94) rfl ?_
    refine Jvm.OwnWp.iconst K (3 : Int32) at_94 (by decide) (pc' := 95) rfl ?_
    refine icY K at_95 (by decide) (pc' := 107) (by decide) (by decide) ?_
    refine Jvm.OwnWp.iload K at_107 rfl (pc' := 109) rfl ?_
    refine ifN K at_109 (by decide) (pc' := 112) rfl ?_
    refine Jvm.OwnWp.aload K at_112 rfl rfl (pc' := 114) rfl ?_
    refine callVirt K (y := (⟨"com/example/routeloom/routeloom/MinQueue", "isEmpty", "()Z"⟩ : MethodName)) (b := b21) (argsL := []) (S := []) (wd15 hw) (wd16 hw) (wd18 hw) (wd17 hw) (wd2 hw) (wd19 hw) (by decide) X22_b21 (c_empty l Z a0 hw [] b21 (0 : Int32) h22 n0 (Nat.le_trans Z0 P22.1) Q22_F_size) (lenOf pd1 rfl) at_114 rfl (Nat.le_of_ble_eq_true rfl) (Nat.le_of_ble_eq_true rfl) (Nat.le_of_ble_eq_true rfl) (Nat.le_of_ble_eq_true rfl) rfl (pc' := 117) rfl ?_
    rintro v24 h24 ⟨rfl, rfl⟩
    show Go _ _ _ _ _ _ _ _ _ _ _ h22 3 131 (mkF m 117 #[.val (.int p0), .val (.int p1), .val (.int p2), .val (.int p3), .val (.int p4), .val (.int p5), .val (.int (0 : Int32)), .val (.int (0 : Int32)), .val (.double (FP.i2d ((p5 <<< ((28 : Int32) &&& 31)) >>> ((28 : Int32) &&& 31)))), .second, .val (.double (FP.i2d ((p5 <<< ((24 : Int32) &&& 31)) >>> ((28 : Int32) &&& 31)))), .second, .val (.double (FP.i2d ((p5 <<< ((20 : Int32) &&& 31)) >>> ((28 : Int32) &&& 31)))), .second, .val (.ref b21), .val (.int (1 : Int32))] [(.int (1 : Int32))]) _
    refine Jvm.OwnWp.iload K at_117 rfl (pc' := 119) rfl ?_
    refine ifN K at_119 (by decide) (pc' := 122) rfl ?_
    refine Jvm.OwnWp.iconst K (1 : Int32) at_122 (by decide) (pc' := 123) rfl ?_
    refine goto' K at_123 (pc' := 127) (by decide) (by decide) ?_
    refine icN K at_127 (by decide) (pc' := 130) rfl ?_
    refine Jvm.OwnWp.iconst K (1 : Int32) at_130 (by decide) (pc' := 131) rfl ?_
    refine goto' K at_131 (pc' := 135) (by decide) (by decide) ?_
    refine Jvm.OwnWp.istore K at_135 (Ls' := #[.val (.int p0), .val (.int p1), .val (.int p2), .val (.int p3), .val (.int p4), .val (.int p5), .val (.int (0 : Int32)), .val (.int (0 : Int32)), .val (.double (FP.i2d ((p5 <<< ((28 : Int32) &&& 31)) >>> ((28 : Int32) &&& 31)))), .second, .val (.double (FP.i2d ((p5 <<< ((24 : Int32) &&& 31)) >>> ((28 : Int32) &&& 31)))), .second, .val (.double (FP.i2d ((p5 <<< ((20 : Int32) &&& 31)) >>> ((28 : Int32) &&& 31)))), .second, .val (.ref b21), .val (.int (1 : Int32))]) rfl (pc' := 137) rfl ?_
    refine Jvm.OwnWp.iload K at_137 rfl (pc' := 139) rfl ?_
    refine Jvm.OwnWp.iconst K (1 : Int32) at_139 (by decide) (pc' := 140) rfl ?_
    refine icY K at_140 (by decide) (pc' := 149) (by decide) (by decide) ?_
    refine Jvm.OwnWp.iload K at_149 rfl (pc' := 151) rfl ?_
    refine Jvm.OwnWp.iconst K (2 : Int32) at_151 (by decide) (pc' := 152) rfl ?_
    refine icY K at_152 (by decide) (pc' := 161) (by decide) (by decide) ?_
    refine Jvm.OwnWp.iload K at_161 rfl (pc' := 163) rfl ?_
    refine Jvm.OwnWp.iconst K (3 : Int32) at_163 (by decide) (pc' := 164) rfl ?_
    refine icY K at_164 (by decide) (pc' := 173) (by decide) (by decide) ?_
    refine Jvm.OwnWp.iload K at_173 rfl (pc' := 175) rfl ?_
    refine ifN K at_175 (by decide) (pc' := 178) rfl ?_
    refine Jvm.OwnWp.aload K at_178 rfl rfl (pc' := 180) rfl ?_
    refine callVirt K (y := (⟨"com/example/routeloom/routeloom/MinQueue", "isEmpty", "()Z"⟩ : MethodName)) (b := b21) (argsL := []) (S := []) (wd15 hw) (wd16 hw) (wd18 hw) (wd17 hw) (wd2 hw) (wd19 hw) (by decide) X22_b21 (c_empty l Z a0 hw [] b21 (0 : Int32) h22 n0 (Nat.le_trans Z0 P22.1) Q22_F_size) (lenOf pd1 rfl) at_180 rfl (Nat.le_of_ble_eq_true rfl) (Nat.le_of_ble_eq_true rfl) (Nat.le_of_ble_eq_true rfl) (Nat.le_of_ble_eq_true rfl) rfl (pc' := 183) rfl ?_
    rintro v25 h25 ⟨rfl, rfl⟩
    show Go _ _ _ _ _ _ _ _ _ _ _ h22 3 131 (mkF m 183 #[.val (.int p0), .val (.int p1), .val (.int p2), .val (.int p3), .val (.int p4), .val (.int p5), .val (.int (0 : Int32)), .val (.int (0 : Int32)), .val (.double (FP.i2d ((p5 <<< ((28 : Int32) &&& 31)) >>> ((28 : Int32) &&& 31)))), .second, .val (.double (FP.i2d ((p5 <<< ((24 : Int32) &&& 31)) >>> ((28 : Int32) &&& 31)))), .second, .val (.double (FP.i2d ((p5 <<< ((20 : Int32) &&& 31)) >>> ((28 : Int32) &&& 31)))), .second, .val (.ref b21), .val (.int (1 : Int32))] [(.int (1 : Int32))]) _
    refine Jvm.OwnWp.iload K at_183 rfl (pc' := 185) rfl ?_
    refine Jvm.OwnWp.iload K at_185 rfl (pc' := 187) rfl ?_
    refine Jvm.OwnWp.isub K at_187 (pc' := 188) rfl ?_
    refine ifN K at_188 (by decide) (pc' := 191) rfl ?_
    refine Jvm.OwnWp.iconst K (1 : Int32) at_191 (by decide) (pc' := 192) rfl ?_
    refine goto' K at_192 (pc' := 196) (by decide) (by decide) ?_
    refine icN K at_196 (by decide) (pc' := 199) rfl ?_
    refine Jvm.OwnWp.iconst K (1 : Int32) at_199 (by decide) (pc' := 200) rfl ?_
    refine goto' K at_200 (pc' := 204) (by decide) (by decide) ?_
    refine Jvm.OwnWp.istore K at_204 (Ls' := #[.val (.int p0), .val (.int p1), .val (.int p2), .val (.int p3), .val (.int p4), .val (.int p5), .val (.int (0 : Int32)), .val (.int (0 : Int32)), .val (.double (FP.i2d ((p5 <<< ((28 : Int32) &&& 31)) >>> ((28 : Int32) &&& 31)))), .second, .val (.double (FP.i2d ((p5 <<< ((24 : Int32) &&& 31)) >>> ((28 : Int32) &&& 31)))), .second, .val (.double (FP.i2d ((p5 <<< ((20 : Int32) &&& 31)) >>> ((28 : Int32) &&& 31)))), .second, .val (.ref b21), .val (.int (1 : Int32))]) rfl (pc' := 206) rfl ?_
    refine Jvm.OwnWp.iload K at_206 rfl (pc' := 208) rfl ?_
    refine retB K (t := .boolean) rfl (by simp) at_208 (Nat.le_of_ble_eq_true rfl) (Nat.le_of_ble_eq_true rfl) ?_
    rfl
  · refine Jvm.OwnWp.istore K at_3 (Ls' := #[.val (.int p0), .val (.int p1), .val (.int p2), .val (.int p3), .val (.int p4), .val (.int p5), .val (.int (1 : Int32)), .unset, .unset, .unset, .unset, .unset, .unset, .unset, .unset, .unset]) rfl (pc' := 5) rfl ?_
    refine Jvm.OwnWp.iloadN K at_5 rfl (pc' := 6) rfl ?_
    refine Jvm.OwnWp.iconst K (3 : Int32) at_6 (by decide) (pc' := 7) rfl ?_
    refine Jvm.OwnWp.iand K at_7 (pc' := 8) rfl ?_
    refine Jvm.OwnWp.iload K at_8 rfl (pc' := 10) rfl ?_
    refine Jvm.OwnWp.iconst K (1 : Int32) at_10 (by decide) (pc' := 11) rfl ?_
    refine Jvm.OwnWp.iadd K at_11 (pc' := 12) rfl ?_
    refine Jvm.OwnWp.irem K at_12 (by decide) (pc' := 13) rfl ?_
    have hr := own_r1 p1
    generalize (p1 &&& (3 : Int32)) % ((1 : Int32) + (1 : Int32)) = rv at *
    rcases hr with rfl | rfl
    · refine Jvm.OwnWp.istore K at_13 (Ls' := #[.val (.int p0), .val (.int p1), .val (.int p2), .val (.int p3), .val (.int p4), .val (.int p5), .val (.int (1 : Int32)), .val (.int (0 : Int32)), .unset, .unset, .unset, .unset, .unset, .unset, .unset, .unset]) rfl (pc' := 15) rfl ?_
      refine Jvm.OwnWp.iload K at_15 rfl (pc' := 17) rfl ?_
      refine Jvm.OwnWp.bipush K (28 : Int32) at_17 (by decide) (pc' := 19) rfl ?_
      refine Jvm.OwnWp.ishl K at_19 (pc' := 20) rfl ?_
      refine Jvm.OwnWp.bipush K (28 : Int32) at_20 (by decide) (pc' := 22) rfl ?_
      refine Jvm.OwnWp.ishr K at_22 (pc' := 23) rfl ?_
      refine Jvm.OwnWp.i2d K at_23 (pc' := 24) rfl ?_
      refine Jvm.OwnWp.dstore K at_24 (Ls' := #[.val (.int p0), .val (.int p1), .val (.int p2), .val (.int p3), .val (.int p4), .val (.int p5), .val (.int (1 : Int32)), .val (.int (0 : Int32)), .val (.double (FP.i2d ((p5 <<< ((28 : Int32) &&& 31)) >>> ((28 : Int32) &&& 31)))), .second, .unset, .unset, .unset, .unset, .unset, .unset]) rfl (pc' := 26) rfl ?_
      refine Jvm.OwnWp.iload K at_26 rfl (pc' := 28) rfl ?_
      refine Jvm.OwnWp.bipush K (24 : Int32) at_28 (by decide) (pc' := 30) rfl ?_
      refine Jvm.OwnWp.ishl K at_30 (pc' := 31) rfl ?_
      refine Jvm.OwnWp.bipush K (28 : Int32) at_31 (by decide) (pc' := 33) rfl ?_
      refine Jvm.OwnWp.ishr K at_33 (pc' := 34) rfl ?_
      refine Jvm.OwnWp.i2d K at_34 (pc' := 35) rfl ?_
      refine Jvm.OwnWp.dstore K at_35 (Ls' := #[.val (.int p0), .val (.int p1), .val (.int p2), .val (.int p3), .val (.int p4), .val (.int p5), .val (.int (1 : Int32)), .val (.int (0 : Int32)), .val (.double (FP.i2d ((p5 <<< ((28 : Int32) &&& 31)) >>> ((28 : Int32) &&& 31)))), .second, .val (.double (FP.i2d ((p5 <<< ((24 : Int32) &&& 31)) >>> ((28 : Int32) &&& 31)))), .second, .unset, .unset, .unset, .unset]) rfl (pc' := 37) rfl ?_
      refine Jvm.OwnWp.iload K at_37 rfl (pc' := 39) rfl ?_
      refine Jvm.OwnWp.bipush K (20 : Int32) at_39 (by decide) (pc' := 41) rfl ?_
      refine Jvm.OwnWp.ishl K at_41 (pc' := 42) rfl ?_
      refine Jvm.OwnWp.bipush K (28 : Int32) at_42 (by decide) (pc' := 44) rfl ?_
      refine Jvm.OwnWp.ishr K at_44 (pc' := 45) rfl ?_
      refine Jvm.OwnWp.i2d K at_45 (pc' := 46) rfl ?_
      refine Jvm.OwnWp.dstore K at_46 (Ls' := #[.val (.int p0), .val (.int p1), .val (.int p2), .val (.int p3), .val (.int p4), .val (.int p5), .val (.int (1 : Int32)), .val (.int (0 : Int32)), .val (.double (FP.i2d ((p5 <<< ((28 : Int32) &&& 31)) >>> ((28 : Int32) &&& 31)))), .second, .val (.double (FP.i2d ((p5 <<< ((24 : Int32) &&& 31)) >>> ((28 : Int32) &&& 31)))), .second, .val (.double (FP.i2d ((p5 <<< ((20 : Int32) &&& 31)) >>> ((28 : Int32) &&& 31)))), .second, .unset, .unset]) rfl (pc' := 48) rfl ?_
      refine newObj K (wd0 hw) (wd1 hw) (wd2 hw) at_48 (by decide) (by decide) (pc' := 51) rfl ?_
      intro h26 b26 g26 E26 A26 D26
      have lt_b26 : h0.size ≤ b26 := Nat.le_trans P0.1 (Nat.le_of_eq g26.symm)
      have ge_b26 : n0 ≤ b26 := Nat.le_trans Z0 lt_b26
      have P26 := (P0.ext E26)
      have F26_keys_b26 : Fld Z h26 b26 "com/example/routeloom/routeloom/MinQueue" "keys" "[D" .null := D26 (Or.inl (wd11 hw)) (ty := (.array .double)) (by decide)
      have F26_items_b26 : Fld Z h26 b26 "com/example/routeloom/routeloom/MinQueue" "items" "[I" .null := D26 (Or.inl (wd14 hw)) (ty := (.array .int)) (by decide)
      have F26_size_b26 : Fld Z h26 b26 "com/example/routeloom/routeloom/MinQueue" "size" "I" (.int (0 : Int32)) := D26 (Or.inl (wd21 hw)) (ty := .int) (by decide)
      refine Jvm.OwnWp.dup K at_51 rfl (pc' := 52) rfl ?_
      refine callInit K (y := (⟨"com/example/routeloom/routeloom/MinQueue", "<init>", "()V"⟩ : MethodName)) (b := b26) (argsL := []) (S := [(.ref b26)]) rfl (wd3 hw) (wd4 hw) (wd2 hw) (wd5 hw) rfl (by decide) (c_init l Z a0 hw [] b26 h26 n0 (Nat.le_trans Z0 P26.1) A26 ge_b26 F26_keys_b26 F26_items_b26 F26_size_b26) (lenOf pd0 rfl) at_52 rfl (Nat.le_of_ble_eq_true rfl) (Nat.le_of_ble_eq_true rfl) (Nat.le_of_ble_eq_true rfl) (Nat.le_of_ble_eq_true rfl) rfl (pc' := 55) rfl ?_
      rintro v27 h27 ⟨rfl, K27, ks, is, lk27, li27, ne_is_ks, Q27_F_keys, Q27_F_items, Q27_F_size, Q27_VK, Q27_VI⟩
      have ne_b26_ks : b26 ≠ ks := Nat.ne_of_lt (Nat.lt_of_lt_of_le (Exa.lt A26) lk27)
      have lt_ks : h0.size ≤ ks := Nat.le_trans P26.1 lk27
      have ge_ks : n0 ≤ ks := Nat.le_trans Z0 lt_ks
      have ne_b26_is : b26 ≠ is := Nat.ne_of_lt (Nat.lt_of_lt_of_le (Exa.lt A26) li27)
      have lt_is : h0.size ≤ is := Nat.le_trans P26.1 li27
      have ge_is : n0 ≤ is := Nat.le_trans Z0 lt_is
      have X27_b26 := (Exa.keep A26 K27)
      have P27 := (P26.trans K27 (allS (Or.inr lt_b26) (all0)))
      show Go _ _ _ _ _ _ _ _ _ _ _ h27 3 131 (mkF m 55 #[.val (.int p0), .val (.int p1), .val (.int p2), .val (.int p3), .val (.int p4), .val (.int p5), .val (.int (1 : Int32)), .val (.int (0 : Int32)), .val (.double (FP.i2d ((p5 <<< ((28 : Int32) &&& 31)) >>> ((28 : Int32) &&& 31)))), .second, .val (.double (FP.i2d ((p5 <<< ((24 : Int32) &&& 31)) >>> ((28 : Int32) &&& 31)))), .second, .val (.double (FP.i2d ((p5 <<< ((20 : Int32) &&& 31)) >>> ((28 : Int32) &&& 31)))), .second, .unset, .unset] [(.ref b26)]) _
      refine Jvm.OwnWp.astore K at_55 rfl (Ls' := #[.val (.int p0), .val (.int p1), .val (.int p2), .val (.int p3), .val (.int p4), .val (.int p5), .val (.int (1 : Int32)), .val (.int (0 : Int32)), .val (.double (FP.i2d ((p5 <<< ((28 : Int32) &&& 31)) >>> ((28 : Int32) &&& 31)))), .second, .val (.double (FP.i2d ((p5 <<< ((24 : Int32) &&& 31)) >>> ((28 : Int32) &&& 31)))), .second, .val (.double (FP.i2d ((p5 <<< ((20 : Int32) &&& 31)) >>> ((28 : Int32) &&& 31)))), .second, .val (.ref b26), .unset]) rfl (pc' := 57) rfl ?_
      refine Jvm.OwnWp.aload K at_57 rfl rfl (pc' := 59) rfl ?_
      refine callVirt K (y := (⟨"com/example/routeloom/routeloom/MinQueue", "isEmpty", "()Z"⟩ : MethodName)) (b := b26) (argsL := []) (S := []) (wd15 hw) (wd16 hw) (wd18 hw) (wd17 hw) (wd2 hw) (wd19 hw) (by decide) X27_b26 (c_empty l Z a0 hw [] b26 (0 : Int32) h27 n0 (Nat.le_trans Z0 P27.1) Q27_F_size) (lenOf pd1 rfl) at_59 rfl (Nat.le_of_ble_eq_true rfl) (Nat.le_of_ble_eq_true rfl) (Nat.le_of_ble_eq_true rfl) (Nat.le_of_ble_eq_true rfl) rfl (pc' := 62) rfl ?_
      rintro v28 h28 ⟨rfl, rfl⟩
      show Go _ _ _ _ _ _ _ _ _ _ _ h27 3 131 (mkF m 62 #[.val (.int p0), .val (.int p1), .val (.int p2), .val (.int p3), .val (.int p4), .val (.int p5), .val (.int (1 : Int32)), .val (.int (0 : Int32)), .val (.double (FP.i2d ((p5 <<< ((28 : Int32) &&& 31)) >>> ((28 : Int32) &&& 31)))), .second, .val (.double (FP.i2d ((p5 <<< ((24 : Int32) &&& 31)) >>> ((28 : Int32) &&& 31)))), .second, .val (.double (FP.i2d ((p5 <<< ((20 : Int32) &&& 31)) >>> ((28 : Int32) &&& 31)))), .second, .val (.ref b26), .unset] [(.int (1 : Int32))]) _
      refine Jvm.OwnWp.istore K at_62 (Ls' := #[.val (.int p0), .val (.int p1), .val (.int p2), .val (.int p3), .val (.int p4), .val (.int p5), .val (.int (1 : Int32)), .val (.int (0 : Int32)), .val (.double (FP.i2d ((p5 <<< ((28 : Int32) &&& 31)) >>> ((28 : Int32) &&& 31)))), .second, .val (.double (FP.i2d ((p5 <<< ((24 : Int32) &&& 31)) >>> ((28 : Int32) &&& 31)))), .second, .val (.double (FP.i2d ((p5 <<< ((20 : Int32) &&& 31)) >>> ((28 : Int32) &&& 31)))), .second, .val (.ref b26), .val (.int (1 : Int32))]) rfl (pc' := 64) rfl ?_
      refine Jvm.OwnWp.iload K at_64 rfl (pc' := 66) rfl ?_
      refine Jvm.OwnWp.iconst K (1 : Int32) at_66 (by decide) (pc' := 67) rfl ?_
      refine icN K at_67 (by decide) (pc' := 70) rfl ?_
      refine Jvm.OwnWp.aload K at_70 rfl rfl (pc' := 72) rfl ?_
      refine Jvm.OwnWp.iloadN K at_72 rfl (pc' := 73) rfl ?_
      refine Jvm.OwnWp.dload K at_73 rfl (pc' := 75) rfl ?_
      refine callVirt K (y := (⟨"com/example/routeloom/routeloom/MinQueue", "add", "(ID)V"⟩ : MethodName)) (b := b26) (argsL := [(.int p2), (.double (FP.i2d ((p5 <<< ((28 : Int32) &&& 31)) >>> ((28 : Int32) &&& 31))))]) (S := []) (wd22 hw) (wd23 hw) (wd25 hw) (wd24 hw) (wd2 hw) (wd26 hw) (by decide) X27_b26 (c_add l Z a0 hw [] b26 ks is p2 (FP.i2d ((p5 <<< ((28 : Int32) &&& 31)) >>> ((28 : Int32) &&& 31))) 0 (0 : Int32) (List.replicate 64 0) (List.replicate 64 0) h27 n0 (Nat.le_trans Z0 P27.1) (by decide) (by decide) (List.length_replicate ..) (List.length_replicate ..) X27_b26 Q27_F_keys Q27_F_items Q27_F_size Q27_VK Q27_VI (Ne.symm ne_b26_ks) (Ne.symm ne_b26_is) ne_is_ks ge_b26 ge_ks ge_is) (lenOf pd2 rfl) at_75 rfl (Nat.le_of_ble_eq_true rfl) (Nat.le_of_ble_eq_true rfl) (Nat.le_of_ble_eq_true rfl) (Nat.le_of_ble_eq_true rfl) rfl (pc' := 78) rfl ?_
      rintro v29 h29 ⟨rfl, K29, Q29_E, Q29_F_keys, Q29_F_items, Q29_F_size, Q29_VK, Q29_VI⟩
      have X29_b26 := (Exa.keep X27_b26 K29)
      have P29 := (P27.trans K29 (allS (Or.inr lt_b26) (allS (Or.inr lt_ks) (allS (Or.inr lt_is) (all0)))))
      have hu29 := up_len (key := (FP.i2d ((p5 <<< ((28 : Int32) &&& 31)) >>> ((28 : Int32) &&& 31)))) (item := p2) 0 (List.replicate 64 0) (List.replicate 64 0)
      rw [List.length_replicate, List.length_replicate] at hu29
      generalize up (FP.i2d ((p5 <<< ((28 : Int32) &&& 31)) >>> ((28 : Int32) &&& 31))) p2 (List.replicate 64 0) (List.replicate 64 0) 0 = U29 at hu29 Q29_VK Q29_VI
      show Go _ _ _ _ _ _ _ _ _ _ _ h29 3 131 (mkF m 78 #[.val (.int p0), .val (.int p1), .val (.int p2), .val (.int p3), .val (.int p4), .val (.int p5), .val (.int (1 : Int32)), .val (.int (0 : Int32)), .val (.double (FP.i2d ((p5 <<< ((28 : Int32) &&& 31)) >>> ((28 : Int32) &&& 31)))), .second, .val (.double (FP.i2d ((p5 <<< ((24 : Int32) &&& 31)) >>> ((28 : Int32) &&& 31)))), .second, .val (.double (FP.i2d ((p5 <<< ((20 : Int32) &&& 31)) >>> ((28 : Int32) &&& 31)))), .second, .val (.ref b26), .val (.int (1 : Int32))] []) _
      refine Jvm.OwnWp.iload K at_78 rfl (pc' := 80) rfl ?_
      refine Jvm.OwnWp.iconst K (2 : Int32) at_80 (by decide) (pc' := 81) rfl ?_
      refine icY K at_81 (by decide) (pc' := 92) (by decide) (by decide) ?_
      refine Jvm.OwnWp.iload K at_92 rfl (pc' := 94) rfl ?_
      refine Jvm.OwnWp.iconst K (3 : Int32) at_94 (by decide) (pc' := 95) rfl ?_
      refine icY K at_95 (by decide) (pc' := 107) (by decide) (by decide) ?_
      refine Jvm.OwnWp.iload K at_107 rfl (pc' := 109) rfl ?_
      refine ifN K at_109 (by decide) (pc' := 112) rfl ?_
      refine Jvm.OwnWp.aload K at_112 rfl rfl (pc' := 114) rfl ?_
      refine callVirt K (y := (⟨"com/example/routeloom/routeloom/MinQueue", "isEmpty", "()Z"⟩ : MethodName)) (b := b26) (argsL := []) (S := []) (wd15 hw) (wd16 hw) (wd18 hw) (wd17 hw) (wd2 hw) (wd19 hw) (by decide) Q29_E (c_empty l Z a0 hw [] b26 ((0 : Int32) + (1 : Int32)) h29 n0 (Nat.le_trans Z0 P29.1) Q29_F_size) (lenOf pd1 rfl) at_114 rfl (Nat.le_of_ble_eq_true rfl) (Nat.le_of_ble_eq_true rfl) (Nat.le_of_ble_eq_true rfl) (Nat.le_of_ble_eq_true rfl) rfl (pc' := 117) rfl ?_
      rintro v30 h30 ⟨rfl, rfl⟩
      show Go _ _ _ _ _ _ _ _ _ _ _ h29 3 131 (mkF m 117 #[.val (.int p0), .val (.int p1), .val (.int p2), .val (.int p3), .val (.int p4), .val (.int p5), .val (.int (1 : Int32)), .val (.int (0 : Int32)), .val (.double (FP.i2d ((p5 <<< ((28 : Int32) &&& 31)) >>> ((28 : Int32) &&& 31)))), .second, .val (.double (FP.i2d ((p5 <<< ((24 : Int32) &&& 31)) >>> ((28 : Int32) &&& 31)))), .second, .val (.double (FP.i2d ((p5 <<< ((20 : Int32) &&& 31)) >>> ((28 : Int32) &&& 31)))), .second, .val (.ref b26), .val (.int (1 : Int32))] [(.int (0 : Int32))]) _
      refine Jvm.OwnWp.iload K at_117 rfl (pc' := 119) rfl ?_
      refine ifY K at_119 (by decide) (pc' := 126) (by decide) (by decide) ?_
      refine Jvm.OwnWp.iconst K (0 : Int32) at_126 (by decide) (pc' := 127) rfl ?_
      refine icN K at_127 (by decide) (pc' := 130) rfl ?_
      refine Jvm.OwnWp.iconst K (1 : Int32) at_130 (by decide) (pc' := 131) rfl ?_
      refine goto' K at_131 (pc' := 135) (by decide) (by decide) ?_
      refine Jvm.OwnWp.istore K at_135 (Ls' := #[.val (.int p0), .val (.int p1), .val (.int p2), .val (.int p3), .val (.int p4), .val (.int p5), .val (.int (1 : Int32)), .val (.int (0 : Int32)), .val (.double (FP.i2d ((p5 <<< ((28 : Int32) &&& 31)) >>> ((28 : Int32) &&& 31)))), .second, .val (.double (FP.i2d ((p5 <<< ((24 : Int32) &&& 31)) >>> ((28 : Int32) &&& 31)))), .second, .val (.double (FP.i2d ((p5 <<< ((20 : Int32) &&& 31)) >>> ((28 : Int32) &&& 31)))), .second, .val (.ref b26), .val (.int (1 : Int32))]) rfl (pc' := 137) rfl ?_
      refine Jvm.OwnWp.iload K at_137 rfl (pc' := 139) rfl ?_
      refine Jvm.OwnWp.iconst K (1 : Int32) at_139 (by decide) (pc' := 140) rfl ?_
      refine icY K at_140 (by decide) (pc' := 149) (by decide) (by decide) ?_
      refine Jvm.OwnWp.iload K at_149 rfl (pc' := 151) rfl ?_
      refine Jvm.OwnWp.iconst K (2 : Int32) at_151 (by decide) (pc' := 152) rfl ?_
      refine icY K at_152 (by decide) (pc' := 161) (by decide) (by decide) ?_
      refine Jvm.OwnWp.iload K at_161 rfl (pc' := 163) rfl ?_
      refine Jvm.OwnWp.iconst K (3 : Int32) at_163 (by decide) (pc' := 164) rfl ?_
      refine icY K at_164 (by decide) (pc' := 173) (by decide) (by decide) ?_
      refine Jvm.OwnWp.iload K at_173 rfl (pc' := 175) rfl ?_
      refine ifN K at_175 (by decide) (pc' := 178) rfl ?_
      refine Jvm.OwnWp.aload K at_178 rfl rfl (pc' := 180) rfl ?_
      refine callVirt K (y := (⟨"com/example/routeloom/routeloom/MinQueue", "isEmpty", "()Z"⟩ : MethodName)) (b := b26) (argsL := []) (S := []) (wd15 hw) (wd16 hw) (wd18 hw) (wd17 hw) (wd2 hw) (wd19 hw) (by decide) Q29_E (c_empty l Z a0 hw [] b26 ((0 : Int32) + (1 : Int32)) h29 n0 (Nat.le_trans Z0 P29.1) Q29_F_size) (lenOf pd1 rfl) at_180 rfl (Nat.le_of_ble_eq_true rfl) (Nat.le_of_ble_eq_true rfl) (Nat.le_of_ble_eq_true rfl) (Nat.le_of_ble_eq_true rfl) rfl (pc' := 183) rfl ?_
      rintro v31 h31 ⟨rfl, rfl⟩
      show Go _ _ _ _ _ _ _ _ _ _ _ h29 3 131 (mkF m 183 #[.val (.int p0), .val (.int p1), .val (.int p2), .val (.int p3), .val (.int p4), .val (.int p5), .val (.int (1 : Int32)), .val (.int (0 : Int32)), .val (.double (FP.i2d ((p5 <<< ((28 : Int32) &&& 31)) >>> ((28 : Int32) &&& 31)))), .second, .val (.double (FP.i2d ((p5 <<< ((24 : Int32) &&& 31)) >>> ((28 : Int32) &&& 31)))), .second, .val (.double (FP.i2d ((p5 <<< ((20 : Int32) &&& 31)) >>> ((28 : Int32) &&& 31)))), .second, .val (.ref b26), .val (.int (1 : Int32))] [(.int (0 : Int32))]) _
      refine Jvm.OwnWp.iload K at_183 rfl (pc' := 185) rfl ?_
      refine Jvm.OwnWp.iload K at_185 rfl (pc' := 187) rfl ?_
      refine Jvm.OwnWp.isub K at_187 (pc' := 188) rfl ?_
      refine ifY K at_188 (by decide) (pc' := 195) (by decide) (by decide) ?_
      refine Jvm.OwnWp.iconst K (0 : Int32) at_195 (by decide) (pc' := 196) rfl ?_
      refine icN K at_196 (by decide) (pc' := 199) rfl ?_
      refine Jvm.OwnWp.iconst K (1 : Int32) at_199 (by decide) (pc' := 200) rfl ?_
      refine goto' K at_200 (pc' := 204) (by decide) (by decide) ?_
      refine Jvm.OwnWp.istore K at_204 (Ls' := #[.val (.int p0), .val (.int p1), .val (.int p2), .val (.int p3), .val (.int p4), .val (.int p5), .val (.int (1 : Int32)), .val (.int (0 : Int32)), .val (.double (FP.i2d ((p5 <<< ((28 : Int32) &&& 31)) >>> ((28 : Int32) &&& 31)))), .second, .val (.double (FP.i2d ((p5 <<< ((24 : Int32) &&& 31)) >>> ((28 : Int32) &&& 31)))), .second, .val (.double (FP.i2d ((p5 <<< ((20 : Int32) &&& 31)) >>> ((28 : Int32) &&& 31)))), .second, .val (.ref b26), .val (.int (1 : Int32))]) rfl (pc' := 206) rfl ?_
      refine Jvm.OwnWp.iload K at_206 rfl (pc' := 208) rfl ?_
      refine retB K (t := .boolean) rfl (by simp) at_208 (Nat.le_of_ble_eq_true rfl) (Nat.le_of_ble_eq_true rfl) ?_
      rfl
    · refine Jvm.OwnWp.istore K at_13 (Ls' := #[.val (.int p0), .val (.int p1), .val (.int p2), .val (.int p3), .val (.int p4), .val (.int p5), .val (.int (1 : Int32)), .val (.int (1 : Int32)), .unset, .unset, .unset, .unset, .unset, .unset, .unset, .unset]) rfl (pc' := 15) rfl ?_
      refine Jvm.OwnWp.iload K at_15 rfl (pc' := 17) rfl ?_
      refine Jvm.OwnWp.bipush K (28 : Int32) at_17 (by decide) (pc' := 19) rfl ?_
      refine Jvm.OwnWp.ishl K at_19 (pc' := 20) rfl ?_
      refine Jvm.OwnWp.bipush K (28 : Int32) at_20 (by decide) (pc' := 22) rfl ?_
      refine Jvm.OwnWp.ishr K at_22 (pc' := 23) rfl ?_
      refine Jvm.OwnWp.i2d K at_23 (pc' := 24) rfl ?_
      refine Jvm.OwnWp.dstore K at_24 (Ls' := #[.val (.int p0), .val (.int p1), .val (.int p2), .val (.int p3), .val (.int p4), .val (.int p5), .val (.int (1 : Int32)), .val (.int (1 : Int32)), .val (.double (FP.i2d ((p5 <<< ((28 : Int32) &&& 31)) >>> ((28 : Int32) &&& 31)))), .second, .unset, .unset, .unset, .unset, .unset, .unset]) rfl (pc' := 26) rfl ?_
      refine Jvm.OwnWp.iload K at_26 rfl (pc' := 28) rfl ?_
      refine Jvm.OwnWp.bipush K (24 : Int32) at_28 (by decide) (pc' := 30) rfl ?_
      refine Jvm.OwnWp.ishl K at_30 (pc' := 31) rfl ?_
      refine Jvm.OwnWp.bipush K (28 : Int32) at_31 (by decide) (pc' := 33) rfl ?_
      refine Jvm.OwnWp.ishr K at_33 (pc' := 34) rfl ?_
      refine Jvm.OwnWp.i2d K at_34 (pc' := 35) rfl ?_
      refine Jvm.OwnWp.dstore K at_35 (Ls' := #[.val (.int p0), .val (.int p1), .val (.int p2), .val (.int p3), .val (.int p4), .val (.int p5), .val (.int (1 : Int32)), .val (.int (1 : Int32)), .val (.double (FP.i2d ((p5 <<< ((28 : Int32) &&& 31)) >>> ((28 : Int32) &&& 31)))), .second, .val (.double (FP.i2d ((p5 <<< ((24 : Int32) &&& 31)) >>> ((28 : Int32) &&& 31)))), .second, .unset, .unset, .unset, .unset]) rfl (pc' := 37) rfl ?_
      refine Jvm.OwnWp.iload K at_37 rfl (pc' := 39) rfl ?_
      refine Jvm.OwnWp.bipush K (20 : Int32) at_39 (by decide) (pc' := 41) rfl ?_
      refine Jvm.OwnWp.ishl K at_41 (pc' := 42) rfl ?_
      refine Jvm.OwnWp.bipush K (28 : Int32) at_42 (by decide) (pc' := 44) rfl ?_
      refine Jvm.OwnWp.ishr K at_44 (pc' := 45) rfl ?_
      refine Jvm.OwnWp.i2d K at_45 (pc' := 46) rfl ?_
      refine Jvm.OwnWp.dstore K at_46 (Ls' := #[.val (.int p0), .val (.int p1), .val (.int p2), .val (.int p3), .val (.int p4), .val (.int p5), .val (.int (1 : Int32)), .val (.int (1 : Int32)), .val (.double (FP.i2d ((p5 <<< ((28 : Int32) &&& 31)) >>> ((28 : Int32) &&& 31)))), .second, .val (.double (FP.i2d ((p5 <<< ((24 : Int32) &&& 31)) >>> ((28 : Int32) &&& 31)))), .second, .val (.double (FP.i2d ((p5 <<< ((20 : Int32) &&& 31)) >>> ((28 : Int32) &&& 31)))), .second, .unset, .unset]) rfl (pc' := 48) rfl ?_
      refine newObj K (wd0 hw) (wd1 hw) (wd2 hw) at_48 (by decide) (by decide) (pc' := 51) rfl ?_
      intro h32 b32 g32 E32 A32 D32
      have lt_b32 : h0.size ≤ b32 := Nat.le_trans P0.1 (Nat.le_of_eq g32.symm)
      have ge_b32 : n0 ≤ b32 := Nat.le_trans Z0 lt_b32
      have P32 := (P0.ext E32)
      have F32_keys_b32 : Fld Z h32 b32 "com/example/routeloom/routeloom/MinQueue" "keys" "[D" .null := D32 (Or.inl (wd11 hw)) (ty := (.array .double)) (by decide)
      have F32_items_b32 : Fld Z h32 b32 "com/example/routeloom/routeloom/MinQueue" "items" "[I" .null := D32 (Or.inl (wd14 hw)) (ty := (.array .int)) (by decide)
      have F32_size_b32 : Fld Z h32 b32 "com/example/routeloom/routeloom/MinQueue" "size" "I" (.int (0 : Int32)) := D32 (Or.inl (wd21 hw)) (ty := .int) (by decide)
      refine Jvm.OwnWp.dup K at_51 rfl (pc' := 52) rfl ?_
      refine callInit K (y := (⟨"com/example/routeloom/routeloom/MinQueue", "<init>", "()V"⟩ : MethodName)) (b := b32) (argsL := []) (S := [(.ref b32)]) rfl (wd3 hw) (wd4 hw) (wd2 hw) (wd5 hw) rfl (by decide) (c_init l Z a0 hw [] b32 h32 n0 (Nat.le_trans Z0 P32.1) A32 ge_b32 F32_keys_b32 F32_items_b32 F32_size_b32) (lenOf pd0 rfl) at_52 rfl (Nat.le_of_ble_eq_true rfl) (Nat.le_of_ble_eq_true rfl) (Nat.le_of_ble_eq_true rfl) (Nat.le_of_ble_eq_true rfl) rfl (pc' := 55) rfl ?_
      rintro v33 h33 ⟨rfl, K33, ks, is, lk33, li33, ne_is_ks, Q33_F_keys, Q33_F_items, Q33_F_size, Q33_VK, Q33_VI⟩
      have ne_b32_ks : b32 ≠ ks := Nat.ne_of_lt (Nat.lt_of_lt_of_le (Exa.lt A32) lk33)
      have lt_ks : h0.size ≤ ks := Nat.le_trans P32.1 lk33
      have ge_ks : n0 ≤ ks := Nat.le_trans Z0 lt_ks
      have ne_b32_is : b32 ≠ is := Nat.ne_of_lt (Nat.lt_of_lt_of_le (Exa.lt A32) li33)
      have lt_is : h0.size ≤ is := Nat.le_trans P32.1 li33
      have ge_is : n0 ≤ is := Nat.le_trans Z0 lt_is
      have X33_b32 := (Exa.keep A32 K33)
      have P33 := (P32.trans K33 (allS (Or.inr lt_b32) (all0)))
      show Go _ _ _ _ _ _ _ _ _ _ _ h33 3 131 (mkF m 55 #[.val (.int p0), .val (.int p1), .val (.int p2), .val (.int p3), .val (.int p4), .val (.int p5), .val (.int (1 : Int32)), .val (.int (1 : Int32)), .val (.double (FP.i2d ((p5 <<< ((28 : Int32) &&& 31)) >>> ((28 : Int32) &&& 31)))), .second, .val (.double (FP.i2d ((p5 <<< ((24 : Int32) &&& 31)) >>> ((28 : Int32) &&& 31)))), .second, .val (.double (FP.i2d ((p5 <<< ((20 : Int32) &&& 31)) >>> ((28 : Int32) &&& 31)))), .second, .unset, .unset] [(.ref b32)]) _
      refine Jvm.OwnWp.astore K at_55 rfl (Ls' := #[.val (.int p0), .val (.int p1), .val (.int p2), .val (.int p3), .val (.int p4), .val (.int p5), .val (.int (1 : Int32)), .val (.int (1 : Int32)), .val (.double (FP.i2d ((p5 <<< ((28 : Int32) &&& 31)) >>> ((28 : Int32) &&& 31)))), .second, .val (.double (FP.i2d ((p5 <<< ((24 : Int32) &&& 31)) >>> ((28 : Int32) &&& 31)))), .second, .val (.double (FP.i2d ((p5 <<< ((20 : Int32) &&& 31)) >>> ((28 : Int32) &&& 31)))), .second, .val (.ref b32), .unset]) rfl (pc' := 57) rfl ?_
      refine Jvm.OwnWp.aload K at_57 rfl rfl (pc' := 59) rfl ?_
      refine callVirt K (y := (⟨"com/example/routeloom/routeloom/MinQueue", "isEmpty", "()Z"⟩ : MethodName)) (b := b32) (argsL := []) (S := []) (wd15 hw) (wd16 hw) (wd18 hw) (wd17 hw) (wd2 hw) (wd19 hw) (by decide) X33_b32 (c_empty l Z a0 hw [] b32 (0 : Int32) h33 n0 (Nat.le_trans Z0 P33.1) Q33_F_size) (lenOf pd1 rfl) at_59 rfl (Nat.le_of_ble_eq_true rfl) (Nat.le_of_ble_eq_true rfl) (Nat.le_of_ble_eq_true rfl) (Nat.le_of_ble_eq_true rfl) rfl (pc' := 62) rfl ?_
      rintro v34 h34 ⟨rfl, rfl⟩
      show Go _ _ _ _ _ _ _ _ _ _ _ h33 3 131 (mkF m 62 #[.val (.int p0), .val (.int p1), .val (.int p2), .val (.int p3), .val (.int p4), .val (.int p5), .val (.int (1 : Int32)), .val (.int (1 : Int32)), .val (.double (FP.i2d ((p5 <<< ((28 : Int32) &&& 31)) >>> ((28 : Int32) &&& 31)))), .second, .val (.double (FP.i2d ((p5 <<< ((24 : Int32) &&& 31)) >>> ((28 : Int32) &&& 31)))), .second, .val (.double (FP.i2d ((p5 <<< ((20 : Int32) &&& 31)) >>> ((28 : Int32) &&& 31)))), .second, .val (.ref b32), .unset] [(.int (1 : Int32))]) _
      refine Jvm.OwnWp.istore K at_62 (Ls' := #[.val (.int p0), .val (.int p1), .val (.int p2), .val (.int p3), .val (.int p4), .val (.int p5), .val (.int (1 : Int32)), .val (.int (1 : Int32)), .val (.double (FP.i2d ((p5 <<< ((28 : Int32) &&& 31)) >>> ((28 : Int32) &&& 31)))), .second, .val (.double (FP.i2d ((p5 <<< ((24 : Int32) &&& 31)) >>> ((28 : Int32) &&& 31)))), .second, .val (.double (FP.i2d ((p5 <<< ((20 : Int32) &&& 31)) >>> ((28 : Int32) &&& 31)))), .second, .val (.ref b32), .val (.int (1 : Int32))]) rfl (pc' := 64) rfl ?_
      refine Jvm.OwnWp.iload K at_64 rfl (pc' := 66) rfl ?_
      refine Jvm.OwnWp.iconst K (1 : Int32) at_66 (by decide) (pc' := 67) rfl ?_
      refine icN K at_67 (by decide) (pc' := 70) rfl ?_
      refine Jvm.OwnWp.aload K at_70 rfl rfl (pc' := 72) rfl ?_
      refine Jvm.OwnWp.iloadN K at_72 rfl (pc' := 73) rfl ?_
      refine Jvm.OwnWp.dload K at_73 rfl (pc' := 75) rfl ?_
      refine callVirt K (y := (⟨"com/example/routeloom/routeloom/MinQueue", "add", "(ID)V"⟩ : MethodName)) (b := b32) (argsL := [(.int p2), (.double (FP.i2d ((p5 <<< ((28 : Int32) &&& 31)) >>> ((28 : Int32) &&& 31))))]) (S := []) (wd22 hw) (wd23 hw) (wd25 hw) (wd24 hw) (wd2 hw) (wd26 hw) (by decide) X33_b32 (c_add l Z a0 hw [] b32 ks is p2 (FP.i2d ((p5 <<< ((28 : Int32) &&& 31)) >>> ((28 : Int32) &&& 31))) 0 (0 : Int32) (List.replicate 64 0) (List.replicate 64 0) h33 n0 (Nat.le_trans Z0 P33.1) (by decide) (by decide) (List.length_replicate ..) (List.length_replicate ..) X33_b32 Q33_F_keys Q33_F_items Q33_F_size Q33_VK Q33_VI (Ne.symm ne_b32_ks) (Ne.symm ne_b32_is) ne_is_ks ge_b32 ge_ks ge_is) (lenOf pd2 rfl) at_75 rfl (Nat.le_of_ble_eq_true rfl) (Nat.le_of_ble_eq_true rfl) (Nat.le_of_ble_eq_true rfl) (Nat.le_of_ble_eq_true rfl) rfl (pc' := 78) rfl ?_
      rintro v35 h35 ⟨rfl, K35, Q35_E, Q35_F_keys, Q35_F_items, Q35_F_size, Q35_VK, Q35_VI⟩
      have X35_b32 := (Exa.keep X33_b32 K35)
      have P35 := (P33.trans K35 (allS (Or.inr lt_b32) (allS (Or.inr lt_ks) (allS (Or.inr lt_is) (all0)))))
      have hu35 := up_len (key := (FP.i2d ((p5 <<< ((28 : Int32) &&& 31)) >>> ((28 : Int32) &&& 31)))) (item := p2) 0 (List.replicate 64 0) (List.replicate 64 0)
      rw [List.length_replicate, List.length_replicate] at hu35
      generalize up (FP.i2d ((p5 <<< ((28 : Int32) &&& 31)) >>> ((28 : Int32) &&& 31))) p2 (List.replicate 64 0) (List.replicate 64 0) 0 = U35 at hu35 Q35_VK Q35_VI
      show Go _ _ _ _ _ _ _ _ _ _ _ h35 3 131 (mkF m 78 #[.val (.int p0), .val (.int p1), .val (.int p2), .val (.int p3), .val (.int p4), .val (.int p5), .val (.int (1 : Int32)), .val (.int (1 : Int32)), .val (.double (FP.i2d ((p5 <<< ((28 : Int32) &&& 31)) >>> ((28 : Int32) &&& 31)))), .second, .val (.double (FP.i2d ((p5 <<< ((24 : Int32) &&& 31)) >>> ((28 : Int32) &&& 31)))), .second, .val (.double (FP.i2d ((p5 <<< ((20 : Int32) &&& 31)) >>> ((28 : Int32) &&& 31)))), .second, .val (.ref b32), .val (.int (1 : Int32))] []) _
      refine Jvm.OwnWp.iload K at_78 rfl (pc' := 80) rfl ?_
      refine Jvm.OwnWp.iconst K (2 : Int32) at_80 (by decide) (pc' := 81) rfl ?_
      refine icY K at_81 (by decide) (pc' := 92) (by decide) (by decide) ?_
      refine Jvm.OwnWp.iload K at_92 rfl (pc' := 94) rfl ?_
      refine Jvm.OwnWp.iconst K (3 : Int32) at_94 (by decide) (pc' := 95) rfl ?_
      refine icY K at_95 (by decide) (pc' := 107) (by decide) (by decide) ?_
      refine Jvm.OwnWp.iload K at_107 rfl (pc' := 109) rfl ?_
      refine ifN K at_109 (by decide) (pc' := 112) rfl ?_
      refine Jvm.OwnWp.aload K at_112 rfl rfl (pc' := 114) rfl ?_
      refine callVirt K (y := (⟨"com/example/routeloom/routeloom/MinQueue", "isEmpty", "()Z"⟩ : MethodName)) (b := b32) (argsL := []) (S := []) (wd15 hw) (wd16 hw) (wd18 hw) (wd17 hw) (wd2 hw) (wd19 hw) (by decide) Q35_E (c_empty l Z a0 hw [] b32 ((0 : Int32) + (1 : Int32)) h35 n0 (Nat.le_trans Z0 P35.1) Q35_F_size) (lenOf pd1 rfl) at_114 rfl (Nat.le_of_ble_eq_true rfl) (Nat.le_of_ble_eq_true rfl) (Nat.le_of_ble_eq_true rfl) (Nat.le_of_ble_eq_true rfl) rfl (pc' := 117) rfl ?_
      rintro v36 h36 ⟨rfl, rfl⟩
      show Go _ _ _ _ _ _ _ _ _ _ _ h35 3 131 (mkF m 117 #[.val (.int p0), .val (.int p1), .val (.int p2), .val (.int p3), .val (.int p4), .val (.int p5), .val (.int (1 : Int32)), .val (.int (1 : Int32)), .val (.double (FP.i2d ((p5 <<< ((28 : Int32) &&& 31)) >>> ((28 : Int32) &&& 31)))), .second, .val (.double (FP.i2d ((p5 <<< ((24 : Int32) &&& 31)) >>> ((28 : Int32) &&& 31)))), .second, .val (.double (FP.i2d ((p5 <<< ((20 : Int32) &&& 31)) >>> ((28 : Int32) &&& 31)))), .second, .val (.ref b32), .val (.int (1 : Int32))] [(.int (0 : Int32))]) _
      refine Jvm.OwnWp.iload K at_117 rfl (pc' := 119) rfl ?_
      refine ifY K at_119 (by decide) (pc' := 126) (by decide) (by decide) ?_
      refine Jvm.OwnWp.iconst K (0 : Int32) at_126 (by decide) (pc' := 127) rfl ?_
      refine icN K at_127 (by decide) (pc' := 130) rfl ?_
      refine Jvm.OwnWp.iconst K (1 : Int32) at_130 (by decide) (pc' := 131) rfl ?_
      refine goto' K at_131 (pc' := 135) (by decide) (by decide) ?_
      refine Jvm.OwnWp.istore K at_135 (Ls' := #[.val (.int p0), .val (.int p1), .val (.int p2), .val (.int p3), .val (.int p4), .val (.int p5), .val (.int (1 : Int32)), .val (.int (1 : Int32)), .val (.double (FP.i2d ((p5 <<< ((28 : Int32) &&& 31)) >>> ((28 : Int32) &&& 31)))), .second, .val (.double (FP.i2d ((p5 <<< ((24 : Int32) &&& 31)) >>> ((28 : Int32) &&& 31)))), .second, .val (.double (FP.i2d ((p5 <<< ((20 : Int32) &&& 31)) >>> ((28 : Int32) &&& 31)))), .second, .val (.ref b32), .val (.int (1 : Int32))]) rfl (pc' := 137) rfl ?_
      refine Jvm.OwnWp.iload K at_137 rfl (pc' := 139) rfl ?_
      refine Jvm.OwnWp.iconst K (1 : Int32) at_139 (by decide) (pc' := 140) rfl ?_
      refine icN K at_140 (by decide) (pc' := 143) rfl ?_
      refine Jvm.OwnWp.aload K at_143 rfl rfl (pc' := 145) rfl ?_
      refine callVirt K (y := (⟨"com/example/routeloom/routeloom/MinQueue", "removeMin", "()I"⟩ : MethodName)) (b := b32) (argsL := []) (S := []) (wd27 hw) (wd28 hw) (wd30 hw) (wd29 hw) (wd2 hw) (wd31 hw) (by decide) Q35_E (c_rem l Z a0 hw [] b32 ks is 1 ((0 : Int32) + (1 : Int32)) U35.1 U35.2 h35 n0 (Nat.le_trans Z0 P35.1) (by decide) (by decide) (by decide) hu35.1 hu35.2 Q35_E Q35_F_keys Q35_F_items Q35_F_size Q35_VK Q35_VI (Ne.symm ne_b32_ks) (Ne.symm ne_b32_is) ne_is_ks ge_b32 ge_ks ge_is) (lenOf pd3 rfl) at_145 rfl (Nat.le_of_ble_eq_true rfl) (Nat.le_of_ble_eq_true rfl) (Nat.le_of_ble_eq_true rfl) (Nat.le_of_ble_eq_true rfl) rfl (pc' := 148) rfl ?_
      rintro v37 h37 ⟨rfl, K37, Q37_E, Q37_F_keys, Q37_F_items, Q37_F_size, Q37_VK, Q37_VI⟩
      have X37_b32 := (Exa.keep Q35_E K37)
      have P37 := (P35.trans K37 (allS (Or.inr lt_b32) (allS (Or.inr lt_ks) (allS (Or.inr lt_is) (all0)))))
      have hu37 := down_len (n := 1 - 1) (key := U35.1.getD (1 - 1) 0) (item := U35.2.getD (1 - 1) 0) _ 0 U35.1 U35.2 (Nat.le_refl _)
      rw [hu35.1, hu35.2] at hu37
      generalize down (1 - 1) (U35.1.getD (1 - 1) 0) (U35.2.getD (1 - 1) 0) U35.1 U35.2 0 = U37 at hu37 Q37_VK Q37_VI
      show Go _ _ _ _ _ _ _ _ _ _ _ h37 3 131 (mkF m 148 #[.val (.int p0), .val (.int p1), .val (.int p2), .val (.int p3), .val (.int p4), .val (.int p5), .val (.int (1 : Int32)), .val (.int (1 : Int32)), .val (.double (FP.i2d ((p5 <<< ((28 : Int32) &&& 31)) >>> ((28 : Int32) &&& 31)))), .second, .val (.double (FP.i2d ((p5 <<< ((24 : Int32) &&& 31)) >>> ((28 : Int32) &&& 31)))), .second, .val (.double (FP.i2d ((p5 <<< ((20 : Int32) &&& 31)) >>> ((28 : Int32) &&& 31)))), .second, .val (.ref b32), .val (.int (1 : Int32))] [(.int (U35.2.getD 0 0))]) _
      refine Jvm.OwnWp.pop K at_148 rfl (pc' := 149) rfl ?_
      refine Jvm.OwnWp.iload K at_149 rfl (pc' := 151) rfl ?_
      refine Jvm.OwnWp.iconst K (2 : Int32) at_151 (by decide) (pc' := 152) rfl ?_
      refine icY K at_152 (by decide) (pc' := 161) (by decide) (by decide) ?_
      refine Jvm.OwnWp.iload K at_161 rfl (pc' := 163) rfl ?_
      refine Jvm.OwnWp.iconst K (3 : Int32) at_163 (by decide) (pc' := 164) rfl ?_
      refine icY K at_164 (by decide) (pc' := 173) (by decide) (by decide) ?_
      refine Jvm.OwnWp.iload K at_173 rfl (pc' := 175) rfl ?_
      refine ifN K at_175 (by decide) (pc' := 178) rfl ?_
      refine Jvm.OwnWp.aload K at_178 rfl rfl (pc' := 180) rfl ?_
      refine callVirt K (y := (⟨"com/example/routeloom/routeloom/MinQueue", "isEmpty", "()Z"⟩ : MethodName)) (b := b32) (argsL := []) (S := []) (wd15 hw) (wd16 hw) (wd18 hw) (wd17 hw) (wd2 hw) (wd19 hw) (by decide) Q37_E (c_empty l Z a0 hw [] b32 (((0 : Int32) + (1 : Int32)) - (1 : Int32)) h37 n0 (Nat.le_trans Z0 P37.1) Q37_F_size) (lenOf pd1 rfl) at_180 rfl (Nat.le_of_ble_eq_true rfl) (Nat.le_of_ble_eq_true rfl) (Nat.le_of_ble_eq_true rfl) (Nat.le_of_ble_eq_true rfl) rfl (pc' := 183) rfl ?_
      rintro v38 h38 ⟨rfl, rfl⟩
      show Go _ _ _ _ _ _ _ _ _ _ _ h37 3 131 (mkF m 183 #[.val (.int p0), .val (.int p1), .val (.int p2), .val (.int p3), .val (.int p4), .val (.int p5), .val (.int (1 : Int32)), .val (.int (1 : Int32)), .val (.double (FP.i2d ((p5 <<< ((28 : Int32) &&& 31)) >>> ((28 : Int32) &&& 31)))), .second, .val (.double (FP.i2d ((p5 <<< ((24 : Int32) &&& 31)) >>> ((28 : Int32) &&& 31)))), .second, .val (.double (FP.i2d ((p5 <<< ((20 : Int32) &&& 31)) >>> ((28 : Int32) &&& 31)))), .second, .val (.ref b32), .val (.int (1 : Int32))] [(.int (1 : Int32))]) _
      refine Jvm.OwnWp.iload K at_183 rfl (pc' := 185) rfl ?_
      refine Jvm.OwnWp.iload K at_185 rfl (pc' := 187) rfl ?_
      refine Jvm.OwnWp.isub K at_187 (pc' := 188) rfl ?_
      refine ifN K at_188 (by decide) (pc' := 191) rfl ?_
      refine Jvm.OwnWp.iconst K (1 : Int32) at_191 (by decide) (pc' := 192) rfl ?_
      refine goto' K at_192 (pc' := 196) (by decide) (by decide) ?_
      refine icN K at_196 (by decide) (pc' := 199) rfl ?_
      refine Jvm.OwnWp.iconst K (1 : Int32) at_199 (by decide) (pc' := 200) rfl ?_
      refine goto' K at_200 (pc' := 204) (by decide) (by decide) ?_
      refine Jvm.OwnWp.istore K at_204 (Ls' := #[.val (.int p0), .val (.int p1), .val (.int p2), .val (.int p3), .val (.int p4), .val (.int p5), .val (.int (1 : Int32)), .val (.int (1 : Int32)), .val (.double (FP.i2d ((p5 <<< ((28 : Int32) &&& 31)) >>> ((28 : Int32) &&& 31)))), .second, .val (.double (FP.i2d ((p5 <<< ((24 : Int32) &&& 31)) >>> ((28 : Int32) &&& 31)))), .second, .val (.double (FP.i2d ((p5 <<< ((20 : Int32) &&& 31)) >>> ((28 : Int32) &&& 31)))), .second, .val (.ref b32), .val (.int (1 : Int32))]) rfl (pc' := 206) rfl ?_
      refine Jvm.OwnWp.iload K at_206 rfl (pc' := 208) rfl ?_
      refine retB K (t := .boolean) rfl (by simp) at_208 (Nat.le_of_ble_eq_true rfl) (Nat.le_of_ble_eq_true rfl) ?_
      rfl
  · refine Jvm.OwnWp.istore K at_3 (Ls' := #[.val (.int p0), .val (.int p1), .val (.int p2), .val (.int p3), .val (.int p4), .val (.int p5), .val (.int (2 : Int32)), .unset, .unset, .unset, .unset, .unset, .unset, .unset, .unset, .unset]) rfl (pc' := 5) rfl ?_
    refine Jvm.OwnWp.iloadN K at_5 rfl (pc' := 6) rfl ?_
    refine Jvm.OwnWp.iconst K (3 : Int32) at_6 (by decide) (pc' := 7) rfl ?_
    refine Jvm.OwnWp.iand K at_7 (pc' := 8) rfl ?_
    refine Jvm.OwnWp.iload K at_8 rfl (pc' := 10) rfl ?_
    refine Jvm.OwnWp.iconst K (1 : Int32) at_10 (by decide) (pc' := 11) rfl ?_
    refine Jvm.OwnWp.iadd K at_11 (pc' := 12) rfl ?_
    refine Jvm.OwnWp.irem K at_12 (by decide) (pc' := 13) rfl ?_
    have hr := own_r2 p1
    generalize (p1 &&& (3 : Int32)) % ((2 : Int32) + (1 : Int32)) = rv at *
    rcases hr with rfl | rfl | rfl
    · refine Jvm.OwnWp.istore K at_13 (Ls' := #[.val (.int p0), .val (.int p1), .val (.int p2), .val (.int p3), .val (.int p4), .val (.int p5), .val (.int (2 : Int32)), .val (.int (0 : Int32)), .unset, .unset, .unset, .unset, .unset, .unset, .unset, .unset]) rfl (pc' := 15) rfl ?_
      refine Jvm.OwnWp.iload K at_15 rfl (pc' := 17) rfl ?_
      refine Jvm.OwnWp.bipush K (28 : Int32) at_17 (by decide) (pc' := 19) rfl ?_
      refine Jvm.OwnWp.ishl K at_19 (pc' := 20) rfl ?_
      refine Jvm.OwnWp.bipush K (28 : Int32) at_20 (by decide) (pc' := 22) rfl ?_
      refine Jvm.OwnWp.ishr K at_22 (pc' := 23) rfl ?_
      refine Jvm.OwnWp.i2d K at_23 (pc' := 24) rfl ?_
      refine Jvm.OwnWp.dstore K at_24 (Ls' := #[.val (.int p0), .val (.int p1), .val (.int p2), .val (.int p3), .val (.int p4), .val (.int p5), .val (.int (2 : Int32)), .val (.int (0 : Int32)), .val (.double (FP.i2d ((p5 <<< ((28 : Int32) &&& 31)) >>> ((28 : Int32) &&& 31)))), .second, .unset, .unset, .unset, .unset, .unset, .unset]) rfl (pc' := 26) rfl ?_
      refine Jvm.OwnWp.iload K at_26 rfl (pc' := 28) rfl ?_
      refine Jvm.OwnWp.bipush K (24 : Int32) at_28 (by decide) (pc' := 30) rfl ?_
      refine Jvm.OwnWp.ishl K at_30 (pc' := 31) rfl ?_
      refine Jvm.OwnWp.bipush K (28 : Int32) at_31 (by decide) (pc' := 33) rfl ?_
      refine Jvm.OwnWp.ishr K at_33 (pc' := 34) rfl ?_
      refine Jvm.OwnWp.i2d K at_34 (pc' := 35) rfl ?_
      refine Jvm.OwnWp.dstore K at_35 (Ls' := #[.val (.int p0), .val (.int p1), .val (.int p2), .val (.int p3), .val (.int p4), .val (.int p5), .val (.int (2 : Int32)), .val (.int (0 : Int32)), .val (.double (FP.i2d ((p5 <<< ((28 : Int32) &&& 31)) >>> ((28 : Int32) &&& 31)))), .second, .val (.double (FP.i2d ((p5 <<< ((24 : Int32) &&& 31)) >>> ((28 : Int32) &&& 31)))), .second, .unset, .unset, .unset, .unset]) rfl (pc' := 37) rfl ?_
      refine Jvm.OwnWp.iload K at_37 rfl (pc' := 39) rfl ?_
      refine Jvm.OwnWp.bipush K (20 : Int32) at_39 (by decide) (pc' := 41) rfl ?_
      refine Jvm.OwnWp.ishl K at_41 (pc' := 42) rfl ?_
      refine Jvm.OwnWp.bipush K (28 : Int32) at_42 (by decide) (pc' := 44) rfl ?_
      refine Jvm.OwnWp.ishr K at_44 (pc' := 45) rfl ?_
      refine Jvm.OwnWp.i2d K at_45 (pc' := 46) rfl ?_
      refine Jvm.OwnWp.dstore K at_46 (Ls' := #[.val (.int p0), .val (.int p1), .val (.int p2), .val (.int p3), .val (.int p4), .val (.int p5), .val (.int (2 : Int32)), .val (.int (0 : Int32)), .val (.double (FP.i2d ((p5 <<< ((28 : Int32) &&& 31)) >>> ((28 : Int32) &&& 31)))), .second, .val (.double (FP.i2d ((p5 <<< ((24 : Int32) &&& 31)) >>> ((28 : Int32) &&& 31)))), .second, .val (.double (FP.i2d ((p5 <<< ((20 : Int32) &&& 31)) >>> ((28 : Int32) &&& 31)))), .second, .unset, .unset]) rfl (pc' := 48) rfl ?_
      refine newObj K (wd0 hw) (wd1 hw) (wd2 hw) at_48 (by decide) (by decide) (pc' := 51) rfl ?_
      intro h39 b39 g39 E39 A39 D39
      have lt_b39 : h0.size ≤ b39 := Nat.le_trans P0.1 (Nat.le_of_eq g39.symm)
      have ge_b39 : n0 ≤ b39 := Nat.le_trans Z0 lt_b39
      have P39 := (P0.ext E39)
      have F39_keys_b39 : Fld Z h39 b39 "com/example/routeloom/routeloom/MinQueue" "keys" "[D" .null := D39 (Or.inl (wd11 hw)) (ty := (.array .double)) (by decide)
      have F39_items_b39 : Fld Z h39 b39 "com/example/routeloom/routeloom/MinQueue" "items" "[I" .null := D39 (Or.inl (wd14 hw)) (ty := (.array .int)) (by decide)
      have F39_size_b39 : Fld Z h39 b39 "com/example/routeloom/routeloom/MinQueue" "size" "I" (.int (0 : Int32)) := D39 (Or.inl (wd21 hw)) (ty := .int) (by decide)
      refine Jvm.OwnWp.dup K at_51 rfl (pc' := 52) rfl ?_
      refine callInit K (y := (⟨"com/example/routeloom/routeloom/MinQueue", "<init>", "()V"⟩ : MethodName)) (b := b39) (argsL := []) (S := [(.ref b39)]) rfl (wd3 hw) (wd4 hw) (wd2 hw) (wd5 hw) rfl (by decide) (c_init l Z a0 hw [] b39 h39 n0 (Nat.le_trans Z0 P39.1) A39 ge_b39 F39_keys_b39 F39_items_b39 F39_size_b39) (lenOf pd0 rfl) at_52 rfl (Nat.le_of_ble_eq_true rfl) (Nat.le_of_ble_eq_true rfl) (Nat.le_of_ble_eq_true rfl) (Nat.le_of_ble_eq_true rfl) rfl (pc' := 55) rfl ?_
      rintro v40 h40 ⟨rfl, K40, ks, is, lk40, li40, ne_is_ks, Q40_F_keys, Q40_F_items, Q40_F_size, Q40_VK, Q40_VI⟩
      have ne_b39_ks : b39 ≠ ks := Nat.ne_of_lt (Nat.lt_of_lt_of_le (Exa.lt A39) lk40)
      have lt_ks : h0.size ≤ ks := Nat.le_trans P39.1 lk40
      have ge_ks : n0 ≤ ks := Nat.le_trans Z0 lt_ks
      have ne_b39_is : b39 ≠ is := Nat.ne_of_lt (Nat.lt_of_lt_of_le (Exa.lt A39) li40)
      have lt_is : h0.size ≤ is := Nat.le_trans P39.1 li40
      have ge_is : n0 ≤ is := Nat.le_trans Z0 lt_is
      have X40_b39 := (Exa.keep A39 K40)
      have P40 := (P39.trans K40 (allS (Or.inr lt_b39) (all0)))
      show Go _ _ _ _ _ _ _ _ _ _ _ h40 3 131 (mkF m 55 #[.val (.int p0), .val (.int p1), .val (.int p2), .val (.int p3), .val (.int p4), .val (.int p5), .val (.int (2 : Int32)), .val (.int (0 : Int32)), .val (.double (FP.i2d ((p5 <<< ((28 : Int32) &&& 31)) >>> ((28 : Int32) &&& 31)))), .second, .val (.double (FP.i2d ((p5 <<< ((24 : Int32) &&& 31)) >>> ((28 : Int32) &&& 31)))), .second, .val (.double (FP.i2d ((p5 <<< ((20 : Int32) &&& 31)) >>> ((28 : Int32) &&& 31)))), .second, .unset, .unset] [(.ref b39)]) _
      refine Jvm.OwnWp.astore K at_55 rfl (Ls' := #[.val (.int p0), .val (.int p1), .val (.int p2), .val (.int p3), .val (.int p4), .val (.int p5), .val (.int (2 : Int32)), .val (.int (0 : Int32)), .val (.double (FP.i2d ((p5 <<< ((28 : Int32) &&& 31)) >>> ((28 : Int32) &&& 31)))), .second, .val (.double (FP.i2d ((p5 <<< ((24 : Int32) &&& 31)) >>> ((28 : Int32) &&& 31)))), .second, .val (.double (FP.i2d ((p5 <<< ((20 : Int32) &&& 31)) >>> ((28 : Int32) &&& 31)))), .second, .val (.ref b39), .unset]) rfl (pc' := 57) rfl ?_
      refine Jvm.OwnWp.aload K at_57 rfl rfl (pc' := 59) rfl ?_
      refine callVirt K (y := (⟨"com/example/routeloom/routeloom/MinQueue", "isEmpty", "()Z"⟩ : MethodName)) (b := b39) (argsL := []) (S := []) (wd15 hw) (wd16 hw) (wd18 hw) (wd17 hw) (wd2 hw) (wd19 hw) (by decide) X40_b39 (c_empty l Z a0 hw [] b39 (0 : Int32) h40 n0 (Nat.le_trans Z0 P40.1) Q40_F_size) (lenOf pd1 rfl) at_59 rfl (Nat.le_of_ble_eq_true rfl) (Nat.le_of_ble_eq_true rfl) (Nat.le_of_ble_eq_true rfl) (Nat.le_of_ble_eq_true rfl) rfl (pc' := 62) rfl ?_
      rintro v41 h41 ⟨rfl, rfl⟩
      show Go _ _ _ _ _ _ _ _ _ _ _ h40 3 131 (mkF m 62 #[.val (.int p0), .val (.int p1), .val (.int p2), .val (.int p3), .val (.int p4), .val (.int p5), .val (.int (2 : Int32)), .val (.int (0 : Int32)), .val (.double (FP.i2d ((p5 <<< ((28 : Int32) &&& 31)) >>> ((28 : Int32) &&& 31)))), .second, .val (.double (FP.i2d ((p5 <<< ((24 : Int32) &&& 31)) >>> ((28 : Int32) &&& 31)))), .second, .val (.double (FP.i2d ((p5 <<< ((20 : Int32) &&& 31)) >>> ((28 : Int32) &&& 31)))), .second, .val (.ref b39), .unset] [(.int (1 : Int32))]) _
      refine Jvm.OwnWp.istore K at_62 (Ls' := #[.val (.int p0), .val (.int p1), .val (.int p2), .val (.int p3), .val (.int p4), .val (.int p5), .val (.int (2 : Int32)), .val (.int (0 : Int32)), .val (.double (FP.i2d ((p5 <<< ((28 : Int32) &&& 31)) >>> ((28 : Int32) &&& 31)))), .second, .val (.double (FP.i2d ((p5 <<< ((24 : Int32) &&& 31)) >>> ((28 : Int32) &&& 31)))), .second, .val (.double (FP.i2d ((p5 <<< ((20 : Int32) &&& 31)) >>> ((28 : Int32) &&& 31)))), .second, .val (.ref b39), .val (.int (1 : Int32))]) rfl (pc' := 64) rfl ?_
      refine Jvm.OwnWp.iload K at_64 rfl (pc' := 66) rfl ?_
      refine Jvm.OwnWp.iconst K (1 : Int32) at_66 (by decide) (pc' := 67) rfl ?_
      refine icN K at_67 (by decide) (pc' := 70) rfl ?_
      refine Jvm.OwnWp.aload K at_70 rfl rfl (pc' := 72) rfl ?_
      refine Jvm.OwnWp.iloadN K at_72 rfl (pc' := 73) rfl ?_
      refine Jvm.OwnWp.dload K at_73 rfl (pc' := 75) rfl ?_
      refine callVirt K (y := (⟨"com/example/routeloom/routeloom/MinQueue", "add", "(ID)V"⟩ : MethodName)) (b := b39) (argsL := [(.int p2), (.double (FP.i2d ((p5 <<< ((28 : Int32) &&& 31)) >>> ((28 : Int32) &&& 31))))]) (S := []) (wd22 hw) (wd23 hw) (wd25 hw) (wd24 hw) (wd2 hw) (wd26 hw) (by decide) X40_b39 (c_add l Z a0 hw [] b39 ks is p2 (FP.i2d ((p5 <<< ((28 : Int32) &&& 31)) >>> ((28 : Int32) &&& 31))) 0 (0 : Int32) (List.replicate 64 0) (List.replicate 64 0) h40 n0 (Nat.le_trans Z0 P40.1) (by decide) (by decide) (List.length_replicate ..) (List.length_replicate ..) X40_b39 Q40_F_keys Q40_F_items Q40_F_size Q40_VK Q40_VI (Ne.symm ne_b39_ks) (Ne.symm ne_b39_is) ne_is_ks ge_b39 ge_ks ge_is) (lenOf pd2 rfl) at_75 rfl (Nat.le_of_ble_eq_true rfl) (Nat.le_of_ble_eq_true rfl) (Nat.le_of_ble_eq_true rfl) (Nat.le_of_ble_eq_true rfl) rfl (pc' := 78) rfl ?_
      rintro v42 h42 ⟨rfl, K42, Q42_E, Q42_F_keys, Q42_F_items, Q42_F_size, Q42_VK, Q42_VI⟩
      have X42_b39 := (Exa.keep X40_b39 K42)
      have P42 := (P40.trans K42 (allS (Or.inr lt_b39) (allS (Or.inr lt_ks) (allS (Or.inr lt_is) (all0)))))
      have hu42 := up_len (key := (FP.i2d ((p5 <<< ((28 : Int32) &&& 31)) >>> ((28 : Int32) &&& 31)))) (item := p2) 0 (List.replicate 64 0) (List.replicate 64 0)
      rw [List.length_replicate, List.length_replicate] at hu42
      generalize up (FP.i2d ((p5 <<< ((28 : Int32) &&& 31)) >>> ((28 : Int32) &&& 31))) p2 (List.replicate 64 0) (List.replicate 64 0) 0 = U42 at hu42 Q42_VK Q42_VI
      show Go _ _ _ _ _ _ _ _ _ _ _ h42 3 131 (mkF m 78 #[.val (.int p0), .val (.int p1), .val (.int p2), .val (.int p3), .val (.int p4), .val (.int p5), .val (.int (2 : Int32)), .val (.int (0 : Int32)), .val (.double (FP.i2d ((p5 <<< ((28 : Int32) &&& 31)) >>> ((28 : Int32) &&& 31)))), .second, .val (.double (FP.i2d ((p5 <<< ((24 : Int32) &&& 31)) >>> ((28 : Int32) &&& 31)))), .second, .val (.double (FP.i2d ((p5 <<< ((20 : Int32) &&& 31)) >>> ((28 : Int32) &&& 31)))), .second, .val (.ref b39), .val (.int (1 : Int32))] []) _
      refine Jvm.OwnWp.iload K at_78 rfl (pc' := 80) rfl ?_
      refine Jvm.OwnWp.iconst K (2 : Int32) at_80 (by decide) (pc' := 81) rfl ?_
      refine icN K at_81 (by decide) (pc' := 84) rfl ?_
      refine Jvm.OwnWp.aload K at_84 rfl rfl (pc' := 86) rfl ?_
      refine Jvm.OwnWp.iloadN K at_86 rfl (pc' := 87) rfl ?_
      refine Jvm.OwnWp.dload K at_87 rfl (pc' := 89) rfl ?_
      refine callVirt K (y := (⟨"com/example/routeloom/routeloom/MinQueue", "add", "(ID)V"⟩ : MethodName)) (b := b39) (argsL := [(.int p3), (.double (FP.i2d ((p5 <<< ((24 : Int32) &&& 31)) >>> ((28 : Int32) &&& 31))))]) (S := []) (wd22 hw) (wd23 hw) (wd25 hw) (wd24 hw) (wd2 hw) (wd26 hw) (by decide) Q42_E (c_add l Z a0 hw [] b39 ks is p3 (FP.i2d ((p5 <<< ((24 : Int32) &&& 31)) >>> ((28 : Int32) &&& 31))) 1 ((0 : Int32) + (1 : Int32)) U42.1 U42.2 h42 n0 (Nat.le_trans Z0 P42.1) (by decide) (by decide) hu42.1 hu42.2 Q42_E Q42_F_keys Q42_F_items Q42_F_size Q42_VK Q42_VI (Ne.symm ne_b39_ks) (Ne.symm ne_b39_is) ne_is_ks ge_b39 ge_ks ge_is) (lenOf pd2 rfl) at_89 rfl (Nat.le_of_ble_eq_true rfl) (Nat.le_of_ble_eq_true rfl) (Nat.le_of_ble_eq_true rfl) (Nat.le_of_ble_eq_true rfl) rfl (pc' := 92) rfl ?_
      rintro v43 h43 ⟨rfl, K43, Q43_E, Q43_F_keys, Q43_F_items, Q43_F_size, Q43_VK, Q43_VI⟩
      have X43_b39 := (Exa.keep Q42_E K43)
      have P43 := (P42.trans K43 (allS (Or.inr lt_b39) (allS (Or.inr lt_ks) (allS (Or.inr lt_is) (all0)))))
      have hu43 := up_len (key := (FP.i2d ((p5 <<< ((24 : Int32) &&& 31)) >>> ((28 : Int32) &&& 31)))) (item := p3) 1 U42.1 U42.2
      rw [hu42.1, hu42.2] at hu43
      generalize up (FP.i2d ((p5 <<< ((24 : Int32) &&& 31)) >>> ((28 : Int32) &&& 31))) p3 U42.1 U42.2 1 = U43 at hu43 Q43_VK Q43_VI
      show Go _ _ _ _ _ _ _ _ _ _ _ h43 3 131 (mkF m 92 #[.val (.int p0), .val (.int p1), .val (.int p2), .val (.int p3), .val (.int p4), .val (.int p5), .val (.int (2 : Int32)), .val (.int (0 : Int32)), .val (.double (FP.i2d ((p5 <<< ((28 : Int32) &&& 31)) >>> ((28 : Int32) &&& 31)))), .second, .val (.double (FP.i2d ((p5 <<< ((24 : Int32) &&& 31)) >>> ((28 : Int32) &&& 31)))), .second, .val (.double (FP.i2d ((p5 <<< ((20 : Int32) &&& 31)) >>> ((28 : Int32) &&& 31)))), .second, .val (.ref b39), .val (.int (1 : Int32))] []) _
      refine Jvm.OwnWp.iload K at_92 rfl (pc' := 94) rfl ?_
      refine Jvm.OwnWp.iconst K (3 : Int32) at_94 (by decide) (pc' := 95) rfl ?_
      refine icY K at_95 (by decide) (pc' := 107) (by decide) (by decide) ?_
      refine Jvm.OwnWp.iload K at_107 rfl (pc' := 109) rfl ?_
      refine ifN K at_109 (by decide) (pc' := 112) rfl ?_
      refine Jvm.OwnWp.aload K at_112 rfl rfl (pc' := 114) rfl ?_
      refine callVirt K (y := (⟨"com/example/routeloom/routeloom/MinQueue", "isEmpty", "()Z"⟩ : MethodName)) (b := b39) (argsL := []) (S := []) (wd15 hw) (wd16 hw) (wd18 hw) (wd17 hw) (wd2 hw) (wd19 hw) (by decide) Q43_E (c_empty l Z a0 hw [] b39 (((0 : Int32) + (1 : Int32)) + (1 : Int32)) h43 n0 (Nat.le_trans Z0 P43.1) Q43_F_size) (lenOf pd1 rfl) at_114 rfl (Nat.le_of_ble_eq_true rfl) (Nat.le_of_ble_eq_true rfl) (Nat.le_of_ble_eq_true rfl) (Nat.le_of_ble_eq_true rfl) rfl (pc' := 117) rfl ?_
      rintro v44 h44 ⟨rfl, rfl⟩
      show Go _ _ _ _ _ _ _ _ _ _ _ h43 3 131 (mkF m 117 #[.val (.int p0), .val (.int p1), .val (.int p2), .val (.int p3), .val (.int p4), .val (.int p5), .val (.int (2 : Int32)), .val (.int (0 : Int32)), .val (.double (FP.i2d ((p5 <<< ((28 : Int32) &&& 31)) >>> ((28 : Int32) &&& 31)))), .second, .val (.double (FP.i2d ((p5 <<< ((24 : Int32) &&& 31)) >>> ((28 : Int32) &&& 31)))), .second, .val (.double (FP.i2d ((p5 <<< ((20 : Int32) &&& 31)) >>> ((28 : Int32) &&& 31)))), .second, .val (.ref b39), .val (.int (1 : Int32))] [(.int (0 : Int32))]) _
      refine Jvm.OwnWp.iload K at_117 rfl (pc' := 119) rfl ?_
      refine ifY K at_119 (by decide) (pc' := 126) (by decide) (by decide) ?_
      refine Jvm.OwnWp.iconst K (0 : Int32) at_126 (by decide) (pc' := 127) rfl ?_
      refine icN K at_127 (by decide) (pc' := 130) rfl ?_
      refine Jvm.OwnWp.iconst K (1 : Int32) at_130 (by decide) (pc' := 131) rfl ?_
      refine goto' K at_131 (pc' := 135) (by decide) (by decide) ?_
      refine Jvm.OwnWp.istore K at_135 (Ls' := #[.val (.int p0), .val (.int p1), .val (.int p2), .val (.int p3), .val (.int p4), .val (.int p5), .val (.int (2 : Int32)), .val (.int (0 : Int32)), .val (.double (FP.i2d ((p5 <<< ((28 : Int32) &&& 31)) >>> ((28 : Int32) &&& 31)))), .second, .val (.double (FP.i2d ((p5 <<< ((24 : Int32) &&& 31)) >>> ((28 : Int32) &&& 31)))), .second, .val (.double (FP.i2d ((p5 <<< ((20 : Int32) &&& 31)) >>> ((28 : Int32) &&& 31)))), .second, .val (.ref b39), .val (.int (1 : Int32))]) rfl (pc' := 137) rfl ?_
      refine Jvm.OwnWp.iload K at_137 rfl (pc' := 139) rfl ?_
      refine Jvm.OwnWp.iconst K (1 : Int32) at_139 (by decide) (pc' := 140) rfl ?_
      refine icY K at_140 (by decide) (pc' := 149) (by decide) (by decide) ?_
      refine Jvm.OwnWp.iload K at_149 rfl (pc' := 151) rfl ?_
      refine Jvm.OwnWp.iconst K (2 : Int32) at_151 (by decide) (pc' := 152) rfl ?_
      refine icY K at_152 (by decide) (pc' := 161) (by decide) (by decide) ?_
      refine Jvm.OwnWp.iload K at_161 rfl (pc' := 163) rfl ?_
      refine Jvm.OwnWp.iconst K (3 : Int32) at_163 (by decide) (pc' := 164) rfl ?_
      refine icY K at_164 (by decide) (pc' := 173) (by decide) (by decide) ?_
      refine Jvm.OwnWp.iload K at_173 rfl (pc' := 175) rfl ?_
      refine ifN K at_175 (by decide) (pc' := 178) rfl ?_
      refine Jvm.OwnWp.aload K at_178 rfl rfl (pc' := 180) rfl ?_
      refine callVirt K (y := (⟨"com/example/routeloom/routeloom/MinQueue", "isEmpty", "()Z"⟩ : MethodName)) (b := b39) (argsL := []) (S := []) (wd15 hw) (wd16 hw) (wd18 hw) (wd17 hw) (wd2 hw) (wd19 hw) (by decide) Q43_E (c_empty l Z a0 hw [] b39 (((0 : Int32) + (1 : Int32)) + (1 : Int32)) h43 n0 (Nat.le_trans Z0 P43.1) Q43_F_size) (lenOf pd1 rfl) at_180 rfl (Nat.le_of_ble_eq_true rfl) (Nat.le_of_ble_eq_true rfl) (Nat.le_of_ble_eq_true rfl) (Nat.le_of_ble_eq_true rfl) rfl (pc' := 183) rfl ?_
      rintro v45 h45 ⟨rfl, rfl⟩
      show Go _ _ _ _ _ _ _ _ _ _ _ h43 3 131 (mkF m 183 #[.val (.int p0), .val (.int p1), .val (.int p2), .val (.int p3), .val (.int p4), .val (.int p5), .val (.int (2 : Int32)), .val (.int (0 : Int32)), .val (.double (FP.i2d ((p5 <<< ((28 : Int32) &&& 31)) >>> ((28 : Int32) &&& 31)))), .second, .val (.double (FP.i2d ((p5 <<< ((24 : Int32) &&& 31)) >>> ((28 : Int32) &&& 31)))), .second, .val (.double (FP.i2d ((p5 <<< ((20 : Int32) &&& 31)) >>> ((28 : Int32) &&& 31)))), .second, .val (.ref b39), .val (.int (1 : Int32))] [(.int (0 : Int32))]) _
      refine Jvm.OwnWp.iload K at_183 rfl (pc' := 185) rfl ?_
      refine Jvm.OwnWp.iload K at_185 rfl (pc' := 187) rfl ?_
      refine Jvm.OwnWp.isub K at_187 (pc' := 188) rfl ?_
      refine ifY K at_188 (by decide) (pc' := 195) (by decide) (by decide) ?_
      refine Jvm.OwnWp.iconst K (0 : Int32) at_195 (by decide) (pc' := 196) rfl ?_
      refine icN K at_196 (by decide) (pc' := 199) rfl ?_
      refine Jvm.OwnWp.iconst K (1 : Int32) at_199 (by decide) (pc' := 200) rfl ?_
      refine goto' K at_200 (pc' := 204) (by decide) (by decide) ?_
      refine Jvm.OwnWp.istore K at_204 (Ls' := #[.val (.int p0), .val (.int p1), .val (.int p2), .val (.int p3), .val (.int p4), .val (.int p5), .val (.int (2 : Int32)), .val (.int (0 : Int32)), .val (.double (FP.i2d ((p5 <<< ((28 : Int32) &&& 31)) >>> ((28 : Int32) &&& 31)))), .second, .val (.double (FP.i2d ((p5 <<< ((24 : Int32) &&& 31)) >>> ((28 : Int32) &&& 31)))), .second, .val (.double (FP.i2d ((p5 <<< ((20 : Int32) &&& 31)) >>> ((28 : Int32) &&& 31)))), .second, .val (.ref b39), .val (.int (1 : Int32))]) rfl (pc' := 206) rfl ?_
      refine Jvm.OwnWp.iload K at_206 rfl (pc' := 208) rfl ?_
      refine retB K (t := .boolean) rfl (by simp) at_208 (Nat.le_of_ble_eq_true rfl) (Nat.le_of_ble_eq_true rfl) ?_
      rfl
    · refine Jvm.OwnWp.istore K at_13 (Ls' := #[.val (.int p0), .val (.int p1), .val (.int p2), .val (.int p3), .val (.int p4), .val (.int p5), .val (.int (2 : Int32)), .val (.int (1 : Int32)), .unset, .unset, .unset, .unset, .unset, .unset, .unset, .unset]) rfl (pc' := 15) rfl ?_
      refine Jvm.OwnWp.iload K at_15 rfl (pc' := 17) rfl ?_
      refine Jvm.OwnWp.bipush K (28 : Int32) at_17 (by decide) (pc' := 19) rfl ?_
      refine Jvm.OwnWp.ishl K at_19 (pc' := 20) rfl ?_
      refine Jvm.OwnWp.bipush K (28 : Int32) at_20 (by decide) (pc' := 22) rfl ?_
      refine Jvm.OwnWp.ishr K at_22 (pc' := 23) rfl ?_
      refine Jvm.OwnWp.i2d K at_23 (pc' := 24) rfl ?_
      refine Jvm.OwnWp.dstore K at_24 (Ls' := #[.val (.int p0), .val (.int p1), .val (.int p2), .val (.int p3), .val (.int p4), .val (.int p5), .val (.int (2 : Int32)), .val (.int (1 : Int32)), .val (.double (FP.i2d ((p5 <<< ((28 : Int32) &&& 31)) >>> ((28 : Int32) &&& 31)))), .second, .unset, .unset, .unset, .unset, .unset, .unset]) rfl (pc' := 26) rfl ?_
      refine Jvm.OwnWp.iload K at_26 rfl (pc' := 28) rfl ?_
      refine Jvm.OwnWp.bipush K (24 : Int32) at_28 (by decide) (pc' := 30) rfl ?_
      refine Jvm.OwnWp.ishl K at_30 (pc' := 31) rfl ?_
      refine Jvm.OwnWp.bipush K (28 : Int32) at_31 (by decide) (pc' := 33) rfl ?_
      refine Jvm.OwnWp.ishr K at_33 (pc' := 34) rfl ?_
      refine Jvm.OwnWp.i2d K at_34 (pc' := 35) rfl ?_
      refine Jvm.OwnWp.dstore K at_35 (Ls' := #[.val (.int p0), .val (.int p1), .val (.int p2), .val (.int p3), .val (.int p4), .val (.int p5), .val (.int (2 : Int32)), .val (.int (1 : Int32)), .val (.double (FP.i2d ((p5 <<< ((28 : Int32) &&& 31)) >>> ((28 : Int32) &&& 31)))), .second, .val (.double (FP.i2d ((p5 <<< ((24 : Int32) &&& 31)) >>> ((28 : Int32) &&& 31)))), .second, .unset, .unset, .unset, .unset]) rfl (pc' := 37) rfl ?_
      refine Jvm.OwnWp.iload K at_37 rfl (pc' := 39) rfl ?_
      refine Jvm.OwnWp.bipush K (20 : Int32) at_39 (by decide) (pc' := 41) rfl ?_
      refine Jvm.OwnWp.ishl K at_41 (pc' := 42) rfl ?_
      refine Jvm.OwnWp.bipush K (28 : Int32) at_42 (by decide) (pc' := 44) rfl ?_
      refine Jvm.OwnWp.ishr K at_44 (pc' := 45) rfl ?_
      refine Jvm.OwnWp.i2d K at_45 (pc' := 46) rfl ?_
      refine Jvm.OwnWp.dstore K at_46 (Ls' := #[.val (.int p0), .val (.int p1), .val (.int p2), .val (.int p3), .val (.int p4), .val (.int p5), .val (.int (2 : Int32)), .val (.int (1 : Int32)), .val (.double (FP.i2d ((p5 <<< ((28 : Int32) &&& 31)) >>> ((28 : Int32) &&& 31)))), .second, .val (.double (FP.i2d ((p5 <<< ((24 : Int32) &&& 31)) >>> ((28 : Int32) &&& 31)))), .second, .val (.double (FP.i2d ((p5 <<< ((20 : Int32) &&& 31)) >>> ((28 : Int32) &&& 31)))), .second, .unset, .unset]) rfl (pc' := 48) rfl ?_
      refine newObj K (wd0 hw) (wd1 hw) (wd2 hw) at_48 (by decide) (by decide) (pc' := 51) rfl ?_
      intro h46 b46 g46 E46 A46 D46
      have lt_b46 : h0.size ≤ b46 := Nat.le_trans P0.1 (Nat.le_of_eq g46.symm)
      have ge_b46 : n0 ≤ b46 := Nat.le_trans Z0 lt_b46
      have P46 := (P0.ext E46)
      have F46_keys_b46 : Fld Z h46 b46 "com/example/routeloom/routeloom/MinQueue" "keys" "[D" .null := D46 (Or.inl (wd11 hw)) (ty := (.array .double)) (by decide)
      have F46_items_b46 : Fld Z h46 b46 "com/example/routeloom/routeloom/MinQueue" "items" "[I" .null := D46 (Or.inl (wd14 hw)) (ty := (.array .int)) (by decide)
      have F46_size_b46 : Fld Z h46 b46 "com/example/routeloom/routeloom/MinQueue" "size" "I" (.int (0 : Int32)) := D46 (Or.inl (wd21 hw)) (ty := .int) (by decide)
      refine Jvm.OwnWp.dup K at_51 rfl (pc' := 52) rfl ?_
      refine callInit K (y := (⟨"com/example/routeloom/routeloom/MinQueue", "<init>", "()V"⟩ : MethodName)) (b := b46) (argsL := []) (S := [(.ref b46)]) rfl (wd3 hw) (wd4 hw) (wd2 hw) (wd5 hw) rfl (by decide) (c_init l Z a0 hw [] b46 h46 n0 (Nat.le_trans Z0 P46.1) A46 ge_b46 F46_keys_b46 F46_items_b46 F46_size_b46) (lenOf pd0 rfl) at_52 rfl (Nat.le_of_ble_eq_true rfl) (Nat.le_of_ble_eq_true rfl) (Nat.le_of_ble_eq_true rfl) (Nat.le_of_ble_eq_true rfl) rfl (pc' := 55) rfl ?_
      rintro v47 h47 ⟨rfl, K47, ks, is, lk47, li47, ne_is_ks, Q47_F_keys, Q47_F_items, Q47_F_size, Q47_VK, Q47_VI⟩
      have ne_b46_ks : b46 ≠ ks := Nat.ne_of_lt (Nat.lt_of_lt_of_le (Exa.lt A46) lk47)
      have lt_ks : h0.size ≤ ks := Nat.le_trans P46.1 lk47
      have ge_ks : n0 ≤ ks := Nat.le_trans Z0 lt_ks
      have ne_b46_is : b46 ≠ is := Nat.ne_of_lt (Nat.lt_of_lt_of_le (Exa.lt A46) li47)
      have lt_is : h0.size ≤ is := Nat.le_trans P46.1 li47
      have ge_is : n0 ≤ is := Nat.le_trans Z0 lt_is
      have X47_b46 := (Exa.keep A46 K47)
      have P47 := (P46.trans K47 (allS (Or.inr lt_b46) (all0)))
      show Go _ _ _ _ _ _ _ _ _ _ _ h47 3 131 (mkF m 55 #[.val (.int p0), .val (.int p1), .val (.int p2), .val (.int p3), .val (.int p4), .val (.int p5), .val (.int (2 : Int32)), .val (.int (1 : Int32)), .val (.double (FP.i2d ((p5 <<< ((28 : Int32) &&& 31)) >>> ((28 : Int32) &&& 31)))), .second, .val (.double (FP.i2d ((p5 <<< ((24 : Int32) &&& 31)) >>> ((28 : Int32) &&& 31)))), .second, .val (.double (FP.i2d ((p5 <<< ((20 : Int32) &&& 31)) >>> ((28 : Int32) &&& 31)))), .second, .unset, .unset] [(.ref b46)]) _
      refine Jvm.OwnWp.astore K at_55 rfl (Ls' := #[.val (.int p0), .val (.int p1), .val (.int p2), .val (.int p3), .val (.int p4), .val (.int p5), .val (.int (2 : Int32)), .val (.int (1 : Int32)), .val (.double (FP.i2d ((p5 <<< ((28 : Int32) &&& 31)) >>> ((28 : Int32) &&& 31)))), .second, .val (.double (FP.i2d ((p5 <<< ((24 : Int32) &&& 31)) >>> ((28 : Int32) &&& 31)))), .second, .val (.double (FP.i2d ((p5 <<< ((20 : Int32) &&& 31)) >>> ((28 : Int32) &&& 31)))), .second, .val (.ref b46), .unset]) rfl (pc' := 57) rfl ?_
      refine Jvm.OwnWp.aload K at_57 rfl rfl (pc' := 59) rfl ?_
      refine callVirt K (y := (⟨"com/example/routeloom/routeloom/MinQueue", "isEmpty", "()Z"⟩ : MethodName)) (b := b46) (argsL := []) (S := []) (wd15 hw) (wd16 hw) (wd18 hw) (wd17 hw) (wd2 hw) (wd19 hw) (by decide) X47_b46 (c_empty l Z a0 hw [] b46 (0 : Int32) h47 n0 (Nat.le_trans Z0 P47.1) Q47_F_size) (lenOf pd1 rfl) at_59 rfl (Nat.le_of_ble_eq_true rfl) (Nat.le_of_ble_eq_true rfl) (Nat.le_of_ble_eq_true rfl) (Nat.le_of_ble_eq_true rfl) rfl (pc' := 62) rfl ?_
      rintro v48 h48 ⟨rfl, rfl⟩
      show Go _ _ _ _ _ _ _ _ _ _ _ h47 3 131 (mkF m 62 #[.val (.int p0), .val (.int p1), .val (.int p2), .val (.int p3), .val (.int p4), .val (.int p5), .val (.int (2 : Int32)), .val (.int (1 : Int32)), .val (.double (FP.i2d ((p5 <<< ((28 : Int32) &&& 31)) >>> ((28 : Int32) &&& 31)))), .second, .val (.double (FP.i2d ((p5 <<< ((24 : Int32) &&& 31)) >>> ((28 : Int32) &&& 31)))), .second, .val (.double (FP.i2d ((p5 <<< ((20 : Int32) &&& 31)) >>> ((28 : Int32) &&& 31)))), .second, .val (.ref b46), .unset] [(.int (1 : Int32))]) _
      refine Jvm.OwnWp.istore K at_62 (Ls' := #[.val (.int p0), .val (.int p1), .val (.int p2), .val (.int p3), .val (.int p4), .val (.int p5), .val (.int (2 : Int32)), .val (.int (1 : Int32)), .val (.double (FP.i2d ((p5 <<< ((28 : Int32) &&& 31)) >>> ((28 : Int32) &&& 31)))), .second, .val (.double (FP.i2d ((p5 <<< ((24 : Int32) &&& 31)) >>> ((28 : Int32) &&& 31)))), .second, .val (.double (FP.i2d ((p5 <<< ((20 : Int32) &&& 31)) >>> ((28 : Int32) &&& 31)))), .second, .val (.ref b46), .val (.int (1 : Int32))]) rfl (pc' := 64) rfl ?_
      refine Jvm.OwnWp.iload K at_64 rfl (pc' := 66) rfl ?_
      refine Jvm.OwnWp.iconst K (1 : Int32) at_66 (by decide) (pc' := 67) rfl ?_
      refine icN K at_67 (by decide) (pc' := 70) rfl ?_
      refine Jvm.OwnWp.aload K at_70 rfl rfl (pc' := 72) rfl ?_
      refine Jvm.OwnWp.iloadN K at_72 rfl (pc' := 73) rfl ?_
      refine Jvm.OwnWp.dload K at_73 rfl (pc' := 75) rfl ?_
      refine callVirt K (y := (⟨"com/example/routeloom/routeloom/MinQueue", "add", "(ID)V"⟩ : MethodName)) (b := b46) (argsL := [(.int p2), (.double (FP.i2d ((p5 <<< ((28 : Int32) &&& 31)) >>> ((28 : Int32) &&& 31))))]) (S := []) (wd22 hw) (wd23 hw) (wd25 hw) (wd24 hw) (wd2 hw) (wd26 hw) (by decide) X47_b46 (c_add l Z a0 hw [] b46 ks is p2 (FP.i2d ((p5 <<< ((28 : Int32) &&& 31)) >>> ((28 : Int32) &&& 31))) 0 (0 : Int32) (List.replicate 64 0) (List.replicate 64 0) h47 n0 (Nat.le_trans Z0 P47.1) (by decide) (by decide) (List.length_replicate ..) (List.length_replicate ..) X47_b46 Q47_F_keys Q47_F_items Q47_F_size Q47_VK Q47_VI (Ne.symm ne_b46_ks) (Ne.symm ne_b46_is) ne_is_ks ge_b46 ge_ks ge_is) (lenOf pd2 rfl) at_75 rfl (Nat.le_of_ble_eq_true rfl) (Nat.le_of_ble_eq_true rfl) (Nat.le_of_ble_eq_true rfl) (Nat.le_of_ble_eq_true rfl) rfl (pc' := 78) rfl ?_
      rintro v49 h49 ⟨rfl, K49, Q49_E, Q49_F_keys, Q49_F_items, Q49_F_size, Q49_VK, Q49_VI⟩
      have X49_b46 := (Exa.keep X47_b46 K49)
      have P49 := (P47.trans K49 (allS (Or.inr lt_b46) (allS (Or.inr lt_ks) (allS (Or.inr lt_is) (all0)))))
      have hu49 := up_len (key := (FP.i2d ((p5 <<< ((28 : Int32) &&& 31)) >>> ((28 : Int32) &&& 31)))) (item := p2) 0 (List.replicate 64 0) (List.replicate 64 0)
      rw [List.length_replicate, List.length_replicate] at hu49
      generalize up (FP.i2d ((p5 <<< ((28 : Int32) &&& 31)) >>> ((28 : Int32) &&& 31))) p2 (List.replicate 64 0) (List.replicate 64 0) 0 = U49 at hu49 Q49_VK Q49_VI
      show Go _ _ _ _ _ _ _ _ _ _ _ h49 3 131 (mkF m 78 #[.val (.int p0), .val (.int p1), .val (.int p2), .val (.int p3), .val (.int p4), .val (.int p5), .val (.int (2 : Int32)), .val (.int (1 : Int32)), .val (.double (FP.i2d ((p5 <<< ((28 : Int32) &&& 31)) >>> ((28 : Int32) &&& 31)))), .second, .val (.double (FP.i2d ((p5 <<< ((24 : Int32) &&& 31)) >>> ((28 : Int32) &&& 31)))), .second, .val (.double (FP.i2d ((p5 <<< ((20 : Int32) &&& 31)) >>> ((28 : Int32) &&& 31)))), .second, .val (.ref b46), .val (.int (1 : Int32))] []) _
      refine Jvm.OwnWp.iload K at_78 rfl (pc' := 80) rfl ?_
      refine Jvm.OwnWp.iconst K (2 : Int32) at_80 (by decide) (pc' := 81) rfl ?_
      refine icN K at_81 (by decide) (pc' := 84) rfl ?_
      refine Jvm.OwnWp.aload K at_84 rfl rfl (pc' := 86) rfl ?_
      refine Jvm.OwnWp.iloadN K at_86 rfl (pc' := 87) rfl ?_
      refine Jvm.OwnWp.dload K at_87 rfl (pc' := 89) rfl ?_
      refine callVirt K (y := (⟨"com/example/routeloom/routeloom/MinQueue", "add", "(ID)V"⟩ : MethodName)) (b := b46) (argsL := [(.int p3), (.double (FP.i2d ((p5 <<< ((24 : Int32) &&& 31)) >>> ((28 : Int32) &&& 31))))]) (S := []) (wd22 hw) (wd23 hw) (wd25 hw) (wd24 hw) (wd2 hw) (wd26 hw) (by decide) Q49_E (c_add l Z a0 hw [] b46 ks is p3 (FP.i2d ((p5 <<< ((24 : Int32) &&& 31)) >>> ((28 : Int32) &&& 31))) 1 ((0 : Int32) + (1 : Int32)) U49.1 U49.2 h49 n0 (Nat.le_trans Z0 P49.1) (by decide) (by decide) hu49.1 hu49.2 Q49_E Q49_F_keys Q49_F_items Q49_F_size Q49_VK Q49_VI (Ne.symm ne_b46_ks) (Ne.symm ne_b46_is) ne_is_ks ge_b46 ge_ks ge_is) (lenOf pd2 rfl) at_89 rfl (Nat.le_of_ble_eq_true rfl) (Nat.le_of_ble_eq_true rfl) (Nat.le_of_ble_eq_true rfl) (Nat.le_of_ble_eq_true rfl) rfl (pc' := 92) rfl ?_
      rintro v50 h50 ⟨rfl, K50, Q50_E, Q50_F_keys, Q50_F_items, Q50_F_size, Q50_VK, Q50_VI⟩
      have X50_b46 := (Exa.keep Q49_E K50)
      have P50 := (P49.trans K50 (allS (Or.inr lt_b46) (allS (Or.inr lt_ks) (allS (Or.inr lt_is) (all0)))))
      have hu50 := up_len (key := (FP.i2d ((p5 <<< ((24 : Int32) &&& 31)) >>> ((28 : Int32) &&& 31)))) (item := p3) 1 U49.1 U49.2
      rw [hu49.1, hu49.2] at hu50
      generalize up (FP.i2d ((p5 <<< ((24 : Int32) &&& 31)) >>> ((28 : Int32) &&& 31))) p3 U49.1 U49.2 1 = U50 at hu50 Q50_VK Q50_VI
      show Go _ _ _ _ _ _ _ _ _ _ _ h50 3 131 (mkF m 92 #[.val (.int p0), .val (.int p1), .val (.int p2), .val (.int p3), .val (.int p4), .val (.int p5), .val (.int (2 : Int32)), .val (.int (1 : Int32)), .val (.double (FP.i2d ((p5 <<< ((28 : Int32) &&& 31)) >>> ((28 : Int32) &&& 31)))), .second, .val (.double (FP.i2d ((p5 <<< ((24 : Int32) &&& 31)) >>> ((28 : Int32) &&& 31)))), .second, .val (.double (FP.i2d ((p5 <<< ((20 : Int32) &&& 31)) >>> ((28 : Int32) &&& 31)))), .second, .val (.ref b46), .val (.int (1 : Int32))] []) _
      refine Jvm.OwnWp.iload K at_92 rfl (pc' := 94) rfl ?_
      refine Jvm.OwnWp.iconst K (3 : Int32) at_94 (by decide) (pc' := 95) rfl ?_
      refine icY K at_95 (by decide) (pc' := 107) (by decide) (by decide) ?_
      refine Jvm.OwnWp.iload K at_107 rfl (pc' := 109) rfl ?_
      refine ifN K at_109 (by decide) (pc' := 112) rfl ?_
      refine Jvm.OwnWp.aload K at_112 rfl rfl (pc' := 114) rfl ?_
      refine callVirt K (y := (⟨"com/example/routeloom/routeloom/MinQueue", "isEmpty", "()Z"⟩ : MethodName)) (b := b46) (argsL := []) (S := []) (wd15 hw) (wd16 hw) (wd18 hw) (wd17 hw) (wd2 hw) (wd19 hw) (by decide) Q50_E (c_empty l Z a0 hw [] b46 (((0 : Int32) + (1 : Int32)) + (1 : Int32)) h50 n0 (Nat.le_trans Z0 P50.1) Q50_F_size) (lenOf pd1 rfl) at_114 rfl (Nat.le_of_ble_eq_true rfl) (Nat.le_of_ble_eq_true rfl) (Nat.le_of_ble_eq_true rfl) (Nat.le_of_ble_eq_true rfl) rfl (pc' := 117) rfl ?_
      rintro v51 h51 ⟨rfl, rfl⟩
      show Go _ _ _ _ _ _ _ _ _ _ _ h50 3 131 (mkF m 117 #[.val (.int p0), .val (.int p1), .val (.int p2), .val (.int p3), .val (.int p4), .val (.int p5), .val (.int (2 : Int32)), .val (.int (1 : Int32)), .val (.double (FP.i2d ((p5 <<< ((28 : Int32) &&& 31)) >>> ((28 : Int32) &&& 31)))), .second, .val (.double (FP.i2d ((p5 <<< ((24 : Int32) &&& 31)) >>> ((28 : Int32) &&& 31)))), .second, .val (.double (FP.i2d ((p5 <<< ((20 : Int32) &&& 31)) >>> ((28 : Int32) &&& 31)))), .second, .val (.ref b46), .val (.int (1 : Int32))] [(.int (0 : Int32))]) _
      refine Jvm.OwnWp.iload K at_117 rfl (pc' := 119) rfl ?_
      refine ifY K at_119 (by decide) (pc' := 126) (by decide) (by decide) ?_
      refine Jvm.OwnWp.iconst K (0 : Int32) at_126 (by decide) (pc' := 127) rfl ?_
      refine icN K at_127 (by decide) (pc' := 130) rfl ?_
      refine Jvm.OwnWp.iconst K (1 : Int32) at_130 (by decide) (pc' := 131) rfl ?_
      refine goto' K at_131 (pc' := 135) (by decide) (by decide) ?_
      refine Jvm.OwnWp.istore K at_135 (Ls' := #[.val (.int p0), .val (.int p1), .val (.int p2), .val (.int p3), .val (.int p4), .val (.int p5), .val (.int (2 : Int32)), .val (.int (1 : Int32)), .val (.double (FP.i2d ((p5 <<< ((28 : Int32) &&& 31)) >>> ((28 : Int32) &&& 31)))), .second, .val (.double (FP.i2d ((p5 <<< ((24 : Int32) &&& 31)) >>> ((28 : Int32) &&& 31)))), .second, .val (.double (FP.i2d ((p5 <<< ((20 : Int32) &&& 31)) >>> ((28 : Int32) &&& 31)))), .second, .val (.ref b46), .val (.int (1 : Int32))]) rfl (pc' := 137) rfl ?_
      refine Jvm.OwnWp.iload K at_137 rfl (pc' := 139) rfl ?_
      refine Jvm.OwnWp.iconst K (1 : Int32) at_139 (by decide) (pc' := 140) rfl ?_
      refine icN K at_140 (by decide) (pc' := 143) rfl ?_
      refine Jvm.OwnWp.aload K at_143 rfl rfl (pc' := 145) rfl ?_
      refine callVirt K (y := (⟨"com/example/routeloom/routeloom/MinQueue", "removeMin", "()I"⟩ : MethodName)) (b := b46) (argsL := []) (S := []) (wd27 hw) (wd28 hw) (wd30 hw) (wd29 hw) (wd2 hw) (wd31 hw) (by decide) Q50_E (c_rem l Z a0 hw [] b46 ks is 2 (((0 : Int32) + (1 : Int32)) + (1 : Int32)) U50.1 U50.2 h50 n0 (Nat.le_trans Z0 P50.1) (by decide) (by decide) (by decide) hu50.1 hu50.2 Q50_E Q50_F_keys Q50_F_items Q50_F_size Q50_VK Q50_VI (Ne.symm ne_b46_ks) (Ne.symm ne_b46_is) ne_is_ks ge_b46 ge_ks ge_is) (lenOf pd3 rfl) at_145 rfl (Nat.le_of_ble_eq_true rfl) (Nat.le_of_ble_eq_true rfl) (Nat.le_of_ble_eq_true rfl) (Nat.le_of_ble_eq_true rfl) rfl (pc' := 148) rfl ?_
      rintro v52 h52 ⟨rfl, K52, Q52_E, Q52_F_keys, Q52_F_items, Q52_F_size, Q52_VK, Q52_VI⟩
      have X52_b46 := (Exa.keep Q50_E K52)
      have P52 := (P50.trans K52 (allS (Or.inr lt_b46) (allS (Or.inr lt_ks) (allS (Or.inr lt_is) (all0)))))
      have hu52 := down_len (n := 2 - 1) (key := U50.1.getD (2 - 1) 0) (item := U50.2.getD (2 - 1) 0) _ 0 U50.1 U50.2 (Nat.le_refl _)
      rw [hu50.1, hu50.2] at hu52
      generalize down (2 - 1) (U50.1.getD (2 - 1) 0) (U50.2.getD (2 - 1) 0) U50.1 U50.2 0 = U52 at hu52 Q52_VK Q52_VI
      show Go _ _ _ _ _ _ _ _ _ _ _ h52 3 131 (mkF m 148 #[.val (.int p0), .val (.int p1), .val (.int p2), .val (.int p3), .val (.int p4), .val (.int p5), .val (.int (2 : Int32)), .val (.int (1 : Int32)), .val (.double (FP.i2d ((p5 <<< ((28 : Int32) &&& 31)) >>> ((28 : Int32) &&& 31)))), .second, .val (.double (FP.i2d ((p5 <<< ((24 : Int32) &&& 31)) >>> ((28 : Int32) &&& 31)))), .second, .val (.double (FP.i2d ((p5 <<< ((20 : Int32) &&& 31)) >>> ((28 : Int32) &&& 31)))), .second, .val (.ref b46), .val (.int (1 : Int32))] [(.int (U50.2.getD 0 0))]) _
      refine Jvm.OwnWp.pop K at_148 rfl (pc' := 149) rfl ?_
      refine Jvm.OwnWp.iload K at_149 rfl (pc' := 151) rfl ?_
      refine Jvm.OwnWp.iconst K (2 : Int32) at_151 (by decide) (pc' := 152) rfl ?_
      refine icY K at_152 (by decide) (pc' := 161) (by decide) (by decide) ?_
      refine Jvm.OwnWp.iload K at_161 rfl (pc' := 163) rfl ?_
      refine Jvm.OwnWp.iconst K (3 : Int32) at_163 (by decide) (pc' := 164) rfl ?_
      refine icY K at_164 (by decide) (pc' := 173) (by decide) (by decide) ?_
      refine Jvm.OwnWp.iload K at_173 rfl (pc' := 175) rfl ?_
      refine ifN K at_175 (by decide) (pc' := 178) rfl ?_
      refine Jvm.OwnWp.aload K at_178 rfl rfl (pc' := 180) rfl ?_
      refine callVirt K (y := (⟨"com/example/routeloom/routeloom/MinQueue", "isEmpty", "()Z"⟩ : MethodName)) (b := b46) (argsL := []) (S := []) (wd15 hw) (wd16 hw) (wd18 hw) (wd17 hw) (wd2 hw) (wd19 hw) (by decide) Q52_E (c_empty l Z a0 hw [] b46 ((((0 : Int32) + (1 : Int32)) + (1 : Int32)) - (1 : Int32)) h52 n0 (Nat.le_trans Z0 P52.1) Q52_F_size) (lenOf pd1 rfl) at_180 rfl (Nat.le_of_ble_eq_true rfl) (Nat.le_of_ble_eq_true rfl) (Nat.le_of_ble_eq_true rfl) (Nat.le_of_ble_eq_true rfl) rfl (pc' := 183) rfl ?_
      rintro v53 h53 ⟨rfl, rfl⟩
      show Go _ _ _ _ _ _ _ _ _ _ _ h52 3 131 (mkF m 183 #[.val (.int p0), .val (.int p1), .val (.int p2), .val (.int p3), .val (.int p4), .val (.int p5), .val (.int (2 : Int32)), .val (.int (1 : Int32)), .val (.double (FP.i2d ((p5 <<< ((28 : Int32) &&& 31)) >>> ((28 : Int32) &&& 31)))), .second, .val (.double (FP.i2d ((p5 <<< ((24 : Int32) &&& 31)) >>> ((28 : Int32) &&& 31)))), .second, .val (.double (FP.i2d ((p5 <<< ((20 : Int32) &&& 31)) >>> ((28 : Int32) &&& 31)))), .second, .val (.ref b46), .val (.int (1 : Int32))] [(.int (0 : Int32))]) _
      refine Jvm.OwnWp.iload K at_183 rfl (pc' := 185) rfl ?_
      refine Jvm.OwnWp.iload K at_185 rfl (pc' := 187) rfl ?_
      refine Jvm.OwnWp.isub K at_187 (pc' := 188) rfl ?_
      refine ifY K at_188 (by decide) (pc' := 195) (by decide) (by decide) ?_
      refine Jvm.OwnWp.iconst K (0 : Int32) at_195 (by decide) (pc' := 196) rfl ?_
      refine icN K at_196 (by decide) (pc' := 199) rfl ?_
      refine Jvm.OwnWp.iconst K (1 : Int32) at_199 (by decide) (pc' := 200) rfl ?_
      refine goto' K at_200 (pc' := 204) (by decide) (by decide) ?_
      refine Jvm.OwnWp.istore K at_204 (Ls' := #[.val (.int p0), .val (.int p1), .val (.int p2), .val (.int p3), .val (.int p4), .val (.int p5), .val (.int (2 : Int32)), .val (.int (1 : Int32)), .val (.double (FP.i2d ((p5 <<< ((28 : Int32) &&& 31)) >>> ((28 : Int32) &&& 31)))), .second, .val (.double (FP.i2d ((p5 <<< ((24 : Int32) &&& 31)) >>> ((28 : Int32) &&& 31)))), .second, .val (.double (FP.i2d ((p5 <<< ((20 : Int32) &&& 31)) >>> ((28 : Int32) &&& 31)))), .second, .val (.ref b46), .val (.int (1 : Int32))]) rfl (pc' := 206) rfl ?_
      refine Jvm.OwnWp.iload K at_206 rfl (pc' := 208) rfl ?_
      refine retB K (t := .boolean) rfl (by simp) at_208 (Nat.le_of_ble_eq_true rfl) (Nat.le_of_ble_eq_true rfl) ?_
      rfl
    · refine Jvm.OwnWp.istore K at_13 (Ls' := #[.val (.int p0), .val (.int p1), .val (.int p2), .val (.int p3), .val (.int p4), .val (.int p5), .val (.int (2 : Int32)), .val (.int (2 : Int32)), .unset, .unset, .unset, .unset, .unset, .unset, .unset, .unset]) rfl (pc' := 15) rfl ?_
      refine Jvm.OwnWp.iload K at_15 rfl (pc' := 17) rfl ?_
      refine Jvm.OwnWp.bipush K (28 : Int32) at_17 (by decide) (pc' := 19) rfl ?_
      refine Jvm.OwnWp.ishl K at_19 (pc' := 20) rfl ?_
      refine Jvm.OwnWp.bipush K (28 : Int32) at_20 (by decide) (pc' := 22) rfl ?_
      refine Jvm.OwnWp.ishr K at_22 (pc' := 23) rfl ?_
      refine Jvm.OwnWp.i2d K at_23 (pc' := 24) rfl ?_
      refine Jvm.OwnWp.dstore K at_24 (Ls' := #[.val (.int p0), .val (.int p1), .val (.int p2), .val (.int p3), .val (.int p4), .val (.int p5), .val (.int (2 : Int32)), .val (.int (2 : Int32)), .val (.double (FP.i2d ((p5 <<< ((28 : Int32) &&& 31)) >>> ((28 : Int32) &&& 31)))), .second, .unset, .unset, .unset, .unset, .unset, .unset]) rfl (pc' := 26) rfl ?_
      refine Jvm.OwnWp.iload K at_26 rfl (pc' := 28) rfl ?_
      refine Jvm.OwnWp.bipush K (24 : Int32) at_28 (by decide) (pc' := 30) rfl ?_
      refine Jvm.OwnWp.ishl K at_30 (pc' := 31) rfl ?_
      refine Jvm.OwnWp.bipush K (28 : Int32) at_31 (by decide) (pc' := 33) rfl ?_
      refine Jvm.OwnWp.ishr K at_33 (pc' := 34) rfl ?_
      refine Jvm.OwnWp.i2d K at_34 (pc' := 35) rfl ?_
      refine Jvm.OwnWp.dstore K at_35 (Ls' := #[.val (.int p0), .val (.int p1), .val (.int p2), .val (.int p3), .val (.int p4), .val (.int p5), .val (.int (2 : Int32)), .val (.int (2 : Int32)), .val (.double (FP.i2d ((p5 <<< ((28 : Int32) &&& 31)) >>> ((28 : Int32) &&& 31)))), .second, .val (.double (FP.i2d ((p5 <<< ((24 : Int32) &&& 31)) >>> ((28 : Int32) &&& 31)))), .second, .unset, .unset, .unset, .unset]) rfl (pc' := 37) rfl ?_
      refine Jvm.OwnWp.iload K at_37 rfl (pc' := 39) rfl ?_
      refine Jvm.OwnWp.bipush K (20 : Int32) at_39 (by decide) (pc' := 41) rfl ?_
      refine Jvm.OwnWp.ishl K at_41 (pc' := 42) rfl ?_
      refine Jvm.OwnWp.bipush K (28 : Int32) at_42 (by decide) (pc' := 44) rfl ?_
      refine Jvm.OwnWp.ishr K at_44 (pc' := 45) rfl ?_
      refine Jvm.OwnWp.i2d K at_45 (pc' := 46) rfl ?_
      refine Jvm.OwnWp.dstore K at_46 (Ls' := #[.val (.int p0), .val (.int p1), .val (.int p2), .val (.int p3), .val (.int p4), .val (.int p5), .val (.int (2 : Int32)), .val (.int (2 : Int32)), .val (.double (FP.i2d ((p5 <<< ((28 : Int32) &&& 31)) >>> ((28 : Int32) &&& 31)))), .second, .val (.double (FP.i2d ((p5 <<< ((24 : Int32) &&& 31)) >>> ((28 : Int32) &&& 31)))), .second, .val (.double (FP.i2d ((p5 <<< ((20 : Int32) &&& 31)) >>> ((28 : Int32) &&& 31)))), .second, .unset, .unset]) rfl (pc' := 48) rfl ?_
      refine newObj K (wd0 hw) (wd1 hw) (wd2 hw) at_48 (by decide) (by decide) (pc' := 51) rfl ?_
      intro h54 b54 g54 E54 A54 D54
      have lt_b54 : h0.size ≤ b54 := Nat.le_trans P0.1 (Nat.le_of_eq g54.symm)
      have ge_b54 : n0 ≤ b54 := Nat.le_trans Z0 lt_b54
      have P54 := (P0.ext E54)
      have F54_keys_b54 : Fld Z h54 b54 "com/example/routeloom/routeloom/MinQueue" "keys" "[D" .null := D54 (Or.inl (wd11 hw)) (ty := (.array .double)) (by decide)
      have F54_items_b54 : Fld Z h54 b54 "com/example/routeloom/routeloom/MinQueue" "items" "[I" .null := D54 (Or.inl (wd14 hw)) (ty := (.array .int)) (by decide)
      have F54_size_b54 : Fld Z h54 b54 "com/example/routeloom/routeloom/MinQueue" "size" "I" (.int (0 : Int32)) := D54 (Or.inl (wd21 hw)) (ty := .int) (by decide)
      refine Jvm.OwnWp.dup K at_51 rfl (pc' := 52) rfl ?_
      refine callInit K (y := (⟨"com/example/routeloom/routeloom/MinQueue", "<init>", "()V"⟩ : MethodName)) (b := b54) (argsL := []) (S := [(.ref b54)]) rfl (wd3 hw) (wd4 hw) (wd2 hw) (wd5 hw) rfl (by decide) (c_init l Z a0 hw [] b54 h54 n0 (Nat.le_trans Z0 P54.1) A54 ge_b54 F54_keys_b54 F54_items_b54 F54_size_b54) (lenOf pd0 rfl) at_52 rfl (Nat.le_of_ble_eq_true rfl) (Nat.le_of_ble_eq_true rfl) (Nat.le_of_ble_eq_true rfl) (Nat.le_of_ble_eq_true rfl) rfl (pc' := 55) rfl ?_
      rintro v55 h55 ⟨rfl, K55, ks, is, lk55, li55, ne_is_ks, Q55_F_keys, Q55_F_items, Q55_F_size, Q55_VK, Q55_VI⟩
      have ne_b54_ks : b54 ≠ ks := Nat.ne_of_lt (Nat.lt_of_lt_of_le (Exa.lt A54) lk55)
      have lt_ks : h0.size ≤ ks := Nat.le_trans P54.1 lk55
      have ge_ks : n0 ≤ ks := Nat.le_trans Z0 lt_ks
      have ne_b54_is : b54 ≠ is := Nat.ne_of_lt (Nat.lt_of_lt_of_le (Exa.lt A54) li55)
      have lt_is : h0.size ≤ is := Nat.le_trans P54.1 li55
      have ge_is : n0 ≤ is := Nat.le_trans Z0 lt_is
      have X55_b54 := (Exa.keep A54 K55)
      have P55 := (P54.trans K55 (allS (Or.inr lt_b54) (all0)))
      show Go _ _ _ _ _ _ _ _ _ _ _ h55 3 131 (mkF m 55 #[.val (.int p0), .val (.int p1), .val (.int p2), .val (.int p3), .val (.int p4), .val (.int p5), .val (.int (2 : Int32)), .val (.int (2 : Int32)), .val (.double (FP.i2d ((p5 <<< ((28 : Int32) &&& 31)) >>> ((28 : Int32) &&& 31)))), .second, .val (.double (FP.i2d ((p5 <<< ((24 : Int32) &&& 31)) >>> ((28 : Int32) &&& 31)))), .second, .val (.double (FP.i2d ((p5 <<< ((20 : Int32) &&& 31)) >>> ((28 : Int32) &&& 31)))), .second, .unset, .unset] [(.ref b54)]) _
      refine Jvm.OwnWp.astore K at_55 rfl (Ls' := #[.val (.int p0), .val (.int p1), .val (.int p2), .val (.int p3), .val (.int p4), .val (.int p5), .val (.int (2 : Int32)), .val (.int (2 : Int32)), .val (.double (FP.i2d ((p5 <<< ((28 : Int32) &&& 31)) >>> ((28 : Int32) &&& 31)))), .second, .val (.double (FP.i2d ((p5 <<< ((24 : Int32) &&& 31)) >>> ((28 : Int32) &&& 31)))), .second, .val (.double (FP.i2d ((p5 <<< ((20 : Int32) &&& 31)) >>> ((28 : Int32) &&& 31)))), .second, .val (.ref b54), .unset]) rfl (pc' := 57) rfl ?_
      refine Jvm.OwnWp.aload K at_57 rfl rfl (pc' := 59) rfl ?_
      refine callVirt K (y := (⟨"com/example/routeloom/routeloom/MinQueue", "isEmpty", "()Z"⟩ : MethodName)) (b := b54) (argsL := []) (S := []) (wd15 hw) (wd16 hw) (wd18 hw) (wd17 hw) (wd2 hw) (wd19 hw) (by decide) X55_b54 (c_empty l Z a0 hw [] b54 (0 : Int32) h55 n0 (Nat.le_trans Z0 P55.1) Q55_F_size) (lenOf pd1 rfl) at_59 rfl (Nat.le_of_ble_eq_true rfl) (Nat.le_of_ble_eq_true rfl) (Nat.le_of_ble_eq_true rfl) (Nat.le_of_ble_eq_true rfl) rfl (pc' := 62) rfl ?_
      rintro v56 h56 ⟨rfl, rfl⟩
      show Go _ _ _ _ _ _ _ _ _ _ _ h55 3 131 (mkF m 62 #[.val (.int p0), .val (.int p1), .val (.int p2), .val (.int p3), .val (.int p4), .val (.int p5), .val (.int (2 : Int32)), .val (.int (2 : Int32)), .val (.double (FP.i2d ((p5 <<< ((28 : Int32) &&& 31)) >>> ((28 : Int32) &&& 31)))), .second, .val (.double (FP.i2d ((p5 <<< ((24 : Int32) &&& 31)) >>> ((28 : Int32) &&& 31)))), .second, .val (.double (FP.i2d ((p5 <<< ((20 : Int32) &&& 31)) >>> ((28 : Int32) &&& 31)))), .second, .val (.ref b54), .unset] [(.int (1 : Int32))]) _
      refine Jvm.OwnWp.istore K at_62 (Ls' := #[.val (.int p0), .val (.int p1), .val (.int p2), .val (.int p3), .val (.int p4), .val (.int p5), .val (.int (2 : Int32)), .val (.int (2 : Int32)), .val (.double (FP.i2d ((p5 <<< ((28 : Int32) &&& 31)) >>> ((28 : Int32) &&& 31)))), .second, .val (.double (FP.i2d ((p5 <<< ((24 : Int32) &&& 31)) >>> ((28 : Int32) &&& 31)))), .second, .val (.double (FP.i2d ((p5 <<< ((20 : Int32) &&& 31)) >>> ((28 : Int32) &&& 31)))), .second, .val (.ref b54), .val (.int (1 : Int32))]) rfl (pc' := 64) rfl ?_
      refine Jvm.OwnWp.iload K at_64 rfl (pc' := 66) rfl ?_
      refine Jvm.OwnWp.iconst K (1 : Int32) at_66 (by decide) (pc' := 67) rfl ?_
      refine icN K at_67 (by decide) (pc' := 70) rfl ?_
      refine Jvm.OwnWp.aload K at_70 rfl rfl (pc' := 72) rfl ?_
      refine Jvm.OwnWp.iloadN K at_72 rfl (pc' := 73) rfl ?_
      refine Jvm.OwnWp.dload K at_73 rfl (pc' := 75) rfl ?_
      refine callVirt K (y := (⟨"com/example/routeloom/routeloom/MinQueue", "add", "(ID)V"⟩ : MethodName)) (b := b54) (argsL := [(.int p2), (.double (FP.i2d ((p5 <<< ((28 : Int32) &&& 31)) >>> ((28 : Int32) &&& 31))))]) (S := []) (wd22 hw) (wd23 hw) (wd25 hw) (wd24 hw) (wd2 hw) (wd26 hw) (by decide) X55_b54 (c_add l Z a0 hw [] b54 ks is p2 (FP.i2d ((p5 <<< ((28 : Int32) &&& 31)) >>> ((28 : Int32) &&& 31))) 0 (0 : Int32) (List.replicate 64 0) (List.replicate 64 0) h55 n0 (Nat.le_trans Z0 P55.1) (by decide) (by decide) (List.length_replicate ..) (List.length_replicate ..) X55_b54 Q55_F_keys Q55_F_items Q55_F_size Q55_VK Q55_VI (Ne.symm ne_b54_ks) (Ne.symm ne_b54_is) ne_is_ks ge_b54 ge_ks ge_is) (lenOf pd2 rfl) at_75 rfl (Nat.le_of_ble_eq_true rfl) (Nat.le_of_ble_eq_true rfl) (Nat.le_of_ble_eq_true rfl) (Nat.le_of_ble_eq_true rfl) rfl (pc' := 78) rfl ?_
      rintro v57 h57 ⟨rfl, K57, Q57_E, Q57_F_keys, Q57_F_items, Q57_F_size, Q57_VK, Q57_VI⟩
      have X57_b54 := (Exa.keep X55_b54 K57)
      have P57 := (P55.trans K57 (allS (Or.inr lt_b54) (allS (Or.inr lt_ks) (allS (Or.inr lt_is) (all0)))))
      have hu57 := up_len (key := (FP.i2d ((p5 <<< ((28 : Int32) &&& 31)) >>> ((28 : Int32) &&& 31)))) (item := p2) 0 (List.replicate 64 0) (List.replicate 64 0)
      rw [List.length_replicate, List.length_replicate] at hu57
      generalize up (FP.i2d ((p5 <<< ((28 : Int32) &&& 31)) >>> ((28 : Int32) &&& 31))) p2 (List.replicate 64 0) (List.replicate 64 0) 0 = U57 at hu57 Q57_VK Q57_VI
      show Go _ _ _ _ _ _ _ _ _ _ _ h57 3 131 (mkF m 78 #[.val (.int p0), .val (.int p1), .val (.int p2), .val (.int p3), .val (.int p4), .val (.int p5), .val (.int (2 : Int32)), .val (.int (2 : Int32)), .val (.double (FP.i2d ((p5 <<< ((28 : Int32) &&& 31)) >>> ((28 : Int32) &&& 31)))), .second, .val (.double (FP.i2d ((p5 <<< ((24 : Int32) &&& 31)) >>> ((28 : Int32) &&& 31)))), .second, .val (.double (FP.i2d ((p5 <<< ((20 : Int32) &&& 31)) >>> ((28 : Int32) &&& 31)))), .second, .val (.ref b54), .val (.int (1 : Int32))] []) _
      refine Jvm.OwnWp.iload K at_78 rfl (pc' := 80) rfl ?_
      refine Jvm.OwnWp.iconst K (2 : Int32) at_80 (by decide) (pc' := 81) rfl ?_
      refine icN K at_81 (by decide) (pc' := 84) rfl ?_
      refine Jvm.OwnWp.aload K at_84 rfl rfl (pc' := 86) rfl ?_
      refine Jvm.OwnWp.iloadN K at_86 rfl (pc' := 87) rfl ?_
      refine Jvm.OwnWp.dload K at_87 rfl (pc' := 89) rfl ?_
      refine callVirt K (y := (⟨"com/example/routeloom/routeloom/MinQueue", "add", "(ID)V"⟩ : MethodName)) (b := b54) (argsL := [(.int p3), (.double (FP.i2d ((p5 <<< ((24 : Int32) &&& 31)) >>> ((28 : Int32) &&& 31))))]) (S := []) (wd22 hw) (wd23 hw) (wd25 hw) (wd24 hw) (wd2 hw) (wd26 hw) (by decide) Q57_E (c_add l Z a0 hw [] b54 ks is p3 (FP.i2d ((p5 <<< ((24 : Int32) &&& 31)) >>> ((28 : Int32) &&& 31))) 1 ((0 : Int32) + (1 : Int32)) U57.1 U57.2 h57 n0 (Nat.le_trans Z0 P57.1) (by decide) (by decide) hu57.1 hu57.2 Q57_E Q57_F_keys Q57_F_items Q57_F_size Q57_VK Q57_VI (Ne.symm ne_b54_ks) (Ne.symm ne_b54_is) ne_is_ks ge_b54 ge_ks ge_is) (lenOf pd2 rfl) at_89 rfl (Nat.le_of_ble_eq_true rfl) (Nat.le_of_ble_eq_true rfl) (Nat.le_of_ble_eq_true rfl) (Nat.le_of_ble_eq_true rfl) rfl (pc' := 92) rfl ?_
      rintro v58 h58 ⟨rfl, K58, Q58_E, Q58_F_keys, Q58_F_items, Q58_F_size, Q58_VK, Q58_VI⟩
      have X58_b54 := (Exa.keep Q57_E K58)
      have P58 := (P57.trans K58 (allS (Or.inr lt_b54) (allS (Or.inr lt_ks) (allS (Or.inr lt_is) (all0)))))
      have hu58 := up_len (key := (FP.i2d ((p5 <<< ((24 : Int32) &&& 31)) >>> ((28 : Int32) &&& 31)))) (item := p3) 1 U57.1 U57.2
      rw [hu57.1, hu57.2] at hu58
      generalize up (FP.i2d ((p5 <<< ((24 : Int32) &&& 31)) >>> ((28 : Int32) &&& 31))) p3 U57.1 U57.2 1 = U58 at hu58 Q58_VK Q58_VI
      show Go _ _ _ _ _ _ _ _ _ _ _ h58 3 131 (mkF m 92 #[.val (.int p0), .val (.int p1), .val (.int p2), .val (.int p3), .val (.int p4), .val (.int p5), .val (.int (2 : Int32)), .val (.int (2 : Int32)), .val (.double (FP.i2d ((p5 <<< ((28 : Int32) &&& 31)) >>> ((28 : Int32) &&& 31)))), .second, .val (.double (FP.i2d ((p5 <<< ((24 : Int32) &&& 31)) >>> ((28 : Int32) &&& 31)))), .second, .val (.double (FP.i2d ((p5 <<< ((20 : Int32) &&& 31)) >>> ((28 : Int32) &&& 31)))), .second, .val (.ref b54), .val (.int (1 : Int32))] []) _
      refine Jvm.OwnWp.iload K at_92 rfl (pc' := 94) rfl ?_
      refine Jvm.OwnWp.iconst K (3 : Int32) at_94 (by decide) (pc' := 95) rfl ?_
      refine icY K at_95 (by decide) (pc' := 107) (by decide) (by decide) ?_
      refine Jvm.OwnWp.iload K at_107 rfl (pc' := 109) rfl ?_
      refine ifN K at_109 (by decide) (pc' := 112) rfl ?_
      refine Jvm.OwnWp.aload K at_112 rfl rfl (pc' := 114) rfl ?_
      refine callVirt K (y := (⟨"com/example/routeloom/routeloom/MinQueue", "isEmpty", "()Z"⟩ : MethodName)) (b := b54) (argsL := []) (S := []) (wd15 hw) (wd16 hw) (wd18 hw) (wd17 hw) (wd2 hw) (wd19 hw) (by decide) Q58_E (c_empty l Z a0 hw [] b54 (((0 : Int32) + (1 : Int32)) + (1 : Int32)) h58 n0 (Nat.le_trans Z0 P58.1) Q58_F_size) (lenOf pd1 rfl) at_114 rfl (Nat.le_of_ble_eq_true rfl) (Nat.le_of_ble_eq_true rfl) (Nat.le_of_ble_eq_true rfl) (Nat.le_of_ble_eq_true rfl) rfl (pc' := 117) rfl ?_
      rintro v59 h59 ⟨rfl, rfl⟩
      show Go _ _ _ _ _ _ _ _ _ _ _ h58 3 131 (mkF m 117 #[.val (.int p0), .val (.int p1), .val (.int p2), .val (.int p3), .val (.int p4), .val (.int p5), .val (.int (2 : Int32)), .val (.int (2 : Int32)), .val (.double (FP.i2d ((p5 <<< ((28 : Int32) &&& 31)) >>> ((28 : Int32) &&& 31)))), .second, .val (.double (FP.i2d ((p5 <<< ((24 : Int32) &&& 31)) >>> ((28 : Int32) &&& 31)))), .second, .val (.double (FP.i2d ((p5 <<< ((20 : Int32) &&& 31)) >>> ((28 : Int32) &&& 31)))), .second, .val (.ref b54), .val (.int (1 : Int32))] [(.int (0 : Int32))]) _
      refine Jvm.OwnWp.iload K at_117 rfl (pc' := 119) rfl ?_
      refine ifY K at_119 (by decide) (pc' := 126) (by decide) (by decide) ?_
      refine Jvm.OwnWp.iconst K (0 : Int32) at_126 (by decide) (pc' := 127) rfl ?_
      refine icN K at_127 (by decide) (pc' := 130) rfl ?_
      refine Jvm.OwnWp.iconst K (1 : Int32) at_130 (by decide) (pc' := 131) rfl ?_
      refine goto' K at_131 (pc' := 135) (by decide) (by decide) ?_
      refine Jvm.OwnWp.istore K at_135 (Ls' := #[.val (.int p0), .val (.int p1), .val (.int p2), .val (.int p3), .val (.int p4), .val (.int p5), .val (.int (2 : Int32)), .val (.int (2 : Int32)), .val (.double (FP.i2d ((p5 <<< ((28 : Int32) &&& 31)) >>> ((28 : Int32) &&& 31)))), .second, .val (.double (FP.i2d ((p5 <<< ((24 : Int32) &&& 31)) >>> ((28 : Int32) &&& 31)))), .second, .val (.double (FP.i2d ((p5 <<< ((20 : Int32) &&& 31)) >>> ((28 : Int32) &&& 31)))), .second, .val (.ref b54), .val (.int (1 : Int32))]) rfl (pc' := 137) rfl ?_
      refine Jvm.OwnWp.iload K at_137 rfl (pc' := 139) rfl ?_
      refine Jvm.OwnWp.iconst K (1 : Int32) at_139 (by decide) (pc' := 140) rfl ?_
      refine icN K at_140 (by decide) (pc' := 143) rfl ?_
      refine Jvm.OwnWp.aload K at_143 rfl rfl (pc' := 145) rfl ?_
      refine callVirt K (y := (⟨"com/example/routeloom/routeloom/MinQueue", "removeMin", "()I"⟩ : MethodName)) (b := b54) (argsL := []) (S := []) (wd27 hw) (wd28 hw) (wd30 hw) (wd29 hw) (wd2 hw) (wd31 hw) (by decide) Q58_E (c_rem l Z a0 hw [] b54 ks is 2 (((0 : Int32) + (1 : Int32)) + (1 : Int32)) U58.1 U58.2 h58 n0 (Nat.le_trans Z0 P58.1) (by decide) (by decide) (by decide) hu58.1 hu58.2 Q58_E Q58_F_keys Q58_F_items Q58_F_size Q58_VK Q58_VI (Ne.symm ne_b54_ks) (Ne.symm ne_b54_is) ne_is_ks ge_b54 ge_ks ge_is) (lenOf pd3 rfl) at_145 rfl (Nat.le_of_ble_eq_true rfl) (Nat.le_of_ble_eq_true rfl) (Nat.le_of_ble_eq_true rfl) (Nat.le_of_ble_eq_true rfl) rfl (pc' := 148) rfl ?_
      rintro v60 h60 ⟨rfl, K60, Q60_E, Q60_F_keys, Q60_F_items, Q60_F_size, Q60_VK, Q60_VI⟩
      have X60_b54 := (Exa.keep Q58_E K60)
      have P60 := (P58.trans K60 (allS (Or.inr lt_b54) (allS (Or.inr lt_ks) (allS (Or.inr lt_is) (all0)))))
      have hu60 := down_len (n := 2 - 1) (key := U58.1.getD (2 - 1) 0) (item := U58.2.getD (2 - 1) 0) _ 0 U58.1 U58.2 (Nat.le_refl _)
      rw [hu58.1, hu58.2] at hu60
      generalize down (2 - 1) (U58.1.getD (2 - 1) 0) (U58.2.getD (2 - 1) 0) U58.1 U58.2 0 = U60 at hu60 Q60_VK Q60_VI
      show Go _ _ _ _ _ _ _ _ _ _ _ h60 3 131 (mkF m 148 #[.val (.int p0), .val (.int p1), .val (.int p2), .val (.int p3), .val (.int p4), .val (.int p5), .val (.int (2 : Int32)), .val (.int (2 : Int32)), .val (.double (FP.i2d ((p5 <<< ((28 : Int32) &&& 31)) >>> ((28 : Int32) &&& 31)))), .second, .val (.double (FP.i2d ((p5 <<< ((24 : Int32) &&& 31)) >>> ((28 : Int32) &&& 31)))), .second, .val (.double (FP.i2d ((p5 <<< ((20 : Int32) &&& 31)) >>> ((28 : Int32) &&& 31)))), .second, .val (.ref b54), .val (.int (1 : Int32))] [(.int (U58.2.getD 0 0))]) _
      refine Jvm.OwnWp.pop K at_148 rfl (pc' := 149) rfl ?_
      refine Jvm.OwnWp.iload K at_149 rfl (pc' := 151) rfl ?_
      refine Jvm.OwnWp.iconst K (2 : Int32) at_151 (by decide) (pc' := 152) rfl ?_
      refine icN K at_152 (by decide) (pc' := 155) rfl ?_
      refine Jvm.OwnWp.aload K at_155 rfl rfl (pc' := 157) rfl ?_
      refine callVirt K (y := (⟨"com/example/routeloom/routeloom/MinQueue", "removeMin", "()I"⟩ : MethodName)) (b := b54) (argsL := []) (S := []) (wd27 hw) (wd28 hw) (wd30 hw) (wd29 hw) (wd2 hw) (wd31 hw) (by decide) Q60_E (c_rem l Z a0 hw [] b54 ks is 1 ((((0 : Int32) + (1 : Int32)) + (1 : Int32)) - (1 : Int32)) U60.1 U60.2 h60 n0 (Nat.le_trans Z0 P60.1) (by decide) (by decide) (by decide) hu60.1 hu60.2 Q60_E Q60_F_keys Q60_F_items Q60_F_size Q60_VK Q60_VI (Ne.symm ne_b54_ks) (Ne.symm ne_b54_is) ne_is_ks ge_b54 ge_ks ge_is) (lenOf pd3 rfl) at_157 rfl (Nat.le_of_ble_eq_true rfl) (Nat.le_of_ble_eq_true rfl) (Nat.le_of_ble_eq_true rfl) (Nat.le_of_ble_eq_true rfl) rfl (pc' := 160) rfl ?_
      rintro v61 h61 ⟨rfl, K61, Q61_E, Q61_F_keys, Q61_F_items, Q61_F_size, Q61_VK, Q61_VI⟩
      have X61_b54 := (Exa.keep Q60_E K61)
      have P61 := (P60.trans K61 (allS (Or.inr lt_b54) (allS (Or.inr lt_ks) (allS (Or.inr lt_is) (all0)))))
      have hu61 := down_len (n := 1 - 1) (key := U60.1.getD (1 - 1) 0) (item := U60.2.getD (1 - 1) 0) _ 0 U60.1 U60.2 (Nat.le_refl _)
      rw [hu60.1, hu60.2] at hu61
      generalize down (1 - 1) (U60.1.getD (1 - 1) 0) (U60.2.getD (1 - 1) 0) U60.1 U60.2 0 = U61 at hu61 Q61_VK Q61_VI
      show Go _ _ _ _ _ _ _ _ _ _ _ h61 3 131 (mkF m 160 #[.val (.int p0), .val (.int p1), .val (.int p2), .val (.int p3), .val (.int p4), .val (.int p5), .val (.int (2 : Int32)), .val (.int (2 : Int32)), .val (.double (FP.i2d ((p5 <<< ((28 : Int32) &&& 31)) >>> ((28 : Int32) &&& 31)))), .second, .val (.double (FP.i2d ((p5 <<< ((24 : Int32) &&& 31)) >>> ((28 : Int32) &&& 31)))), .second, .val (.double (FP.i2d ((p5 <<< ((20 : Int32) &&& 31)) >>> ((28 : Int32) &&& 31)))), .second, .val (.ref b54), .val (.int (1 : Int32))] [(.int (U60.2.getD 0 0))]) _
      refine Jvm.OwnWp.pop K at_160 rfl (pc' := 161) rfl ?_
      refine Jvm.OwnWp.iload K at_161 rfl (pc' := 163) rfl ?_
      refine Jvm.OwnWp.iconst K (3 : Int32) at_163 (by decide) (pc' := 164) rfl ?_
      refine icY K at_164 (by decide) (pc' := 173) (by decide) (by decide) ?_
      refine Jvm.OwnWp.iload K at_173 rfl (pc' := 175) rfl ?_
      refine ifN K at_175 (by decide) (pc' := 178) rfl ?_
      refine Jvm.OwnWp.aload K at_178 rfl rfl (pc' := 180) rfl ?_
      refine callVirt K (y := (⟨"com/example/routeloom/routeloom/MinQueue", "isEmpty", "()Z"⟩ : MethodName)) (b := b54) (argsL := []) (S := []) (wd15 hw) (wd16 hw) (wd18 hw) (wd17 hw) (wd2 hw) (wd19 hw) (by decide) Q61_E (c_empty l Z a0 hw [] b54 (((((0 : Int32) + (1 : Int32)) + (1 : Int32)) - (1 : Int32)) - (1 : Int32)) h61 n0 (Nat.le_trans Z0 P61.1) Q61_F_size) (lenOf pd1 rfl) at_180 rfl (Nat.le_of_ble_eq_true rfl) (Nat.le_of_ble_eq_true rfl) (Nat.le_of_ble_eq_true rfl) (Nat.le_of_ble_eq_true rfl) rfl (pc' := 183) rfl ?_
      rintro v62 h62 ⟨rfl, rfl⟩
      show Go _ _ _ _ _ _ _ _ _ _ _ h61 3 131 (mkF m 183 #[.val (.int p0), .val (.int p1), .val (.int p2), .val (.int p3), .val (.int p4), .val (.int p5), .val (.int (2 : Int32)), .val (.int (2 : Int32)), .val (.double (FP.i2d ((p5 <<< ((28 : Int32) &&& 31)) >>> ((28 : Int32) &&& 31)))), .second, .val (.double (FP.i2d ((p5 <<< ((24 : Int32) &&& 31)) >>> ((28 : Int32) &&& 31)))), .second, .val (.double (FP.i2d ((p5 <<< ((20 : Int32) &&& 31)) >>> ((28 : Int32) &&& 31)))), .second, .val (.ref b54), .val (.int (1 : Int32))] [(.int (1 : Int32))]) _
      refine Jvm.OwnWp.iload K at_183 rfl (pc' := 185) rfl ?_
      refine Jvm.OwnWp.iload K at_185 rfl (pc' := 187) rfl ?_
      refine Jvm.OwnWp.isub K at_187 (pc' := 188) rfl ?_
      refine ifN K at_188 (by decide) (pc' := 191) rfl ?_
      refine Jvm.OwnWp.iconst K (1 : Int32) at_191 (by decide) (pc' := 192) rfl ?_
      refine goto' K at_192 (pc' := 196) (by decide) (by decide) ?_
      refine icN K at_196 (by decide) (pc' := 199) rfl ?_
      refine Jvm.OwnWp.iconst K (1 : Int32) at_199 (by decide) (pc' := 200) rfl ?_
      refine goto' K at_200 (pc' := 204) (by decide) (by decide) ?_
      refine Jvm.OwnWp.istore K at_204 (Ls' := #[.val (.int p0), .val (.int p1), .val (.int p2), .val (.int p3), .val (.int p4), .val (.int p5), .val (.int (2 : Int32)), .val (.int (2 : Int32)), .val (.double (FP.i2d ((p5 <<< ((28 : Int32) &&& 31)) >>> ((28 : Int32) &&& 31)))), .second, .val (.double (FP.i2d ((p5 <<< ((24 : Int32) &&& 31)) >>> ((28 : Int32) &&& 31)))), .second, .val (.double (FP.i2d ((p5 <<< ((20 : Int32) &&& 31)) >>> ((28 : Int32) &&& 31)))), .second, .val (.ref b54), .val (.int (1 : Int32))]) rfl (pc' := 206) rfl ?_
      refine Jvm.OwnWp.iload K at_206 rfl (pc' := 208) rfl ?_
      refine retB K (t := .boolean) rfl (by simp) at_208 (Nat.le_of_ble_eq_true rfl) (Nat.le_of_ble_eq_true rfl) ?_
      rfl
  · refine Jvm.OwnWp.istore K at_3 (Ls' := #[.val (.int p0), .val (.int p1), .val (.int p2), .val (.int p3), .val (.int p4), .val (.int p5), .val (.int (3 : Int32)), .unset, .unset, .unset, .unset, .unset, .unset, .unset, .unset, .unset]) rfl (pc' := 5) rfl ?_
    refine Jvm.OwnWp.iloadN K at_5 rfl (pc' := 6) rfl ?_
    refine Jvm.OwnWp.iconst K (3 : Int32) at_6 (by decide) (pc' := 7) rfl ?_
    refine Jvm.OwnWp.iand K at_7 (pc' := 8) rfl ?_
    refine Jvm.OwnWp.iload K at_8 rfl (pc' := 10) rfl ?_
    refine Jvm.OwnWp.iconst K (1 : Int32) at_10 (by decide) (pc' := 11) rfl ?_
    refine Jvm.OwnWp.iadd K at_11 (pc' := 12) rfl ?_
    refine Jvm.OwnWp.irem K at_12 (by decide) (pc' := 13) rfl ?_
    have hr := own_r3 p1
    generalize (p1 &&& (3 : Int32)) % ((3 : Int32) + (1 : Int32)) = rv at *
    rcases hr with rfl | rfl | rfl | rfl
    · refine Jvm.OwnWp.istore K at_13 (Ls' := #[.val (.int p0), .val (.int p1), .val (.int p2), .val (.int p3), .val (.int p4), .val (.int p5), .val (.int (3 : Int32)), .val (.int (0 : Int32)), .unset, .unset, .unset, .unset, .unset, .unset, .unset, .unset]) rfl (pc' := 15) rfl ?_
      refine Jvm.OwnWp.iload K at_15 rfl (pc' := 17) rfl ?_
      refine Jvm.OwnWp.bipush K (28 : Int32) at_17 (by decide) (pc' := 19) rfl ?_
      refine Jvm.OwnWp.ishl K at_19 (pc' := 20) rfl ?_
      refine Jvm.OwnWp.bipush K (28 : Int32) at_20 (by decide) (pc' := 22) rfl ?_
      refine Jvm.OwnWp.ishr K at_22 (pc' := 23) rfl ?_
      refine Jvm.OwnWp.i2d K at_23 (pc' := 24) rfl ?_
      refine Jvm.OwnWp.dstore K at_24 (Ls' := #[.val (.int p0), .val (.int p1), .val (.int p2), .val (.int p3), .val (.int p4), .val (.int p5), .val (.int (3 : Int32)), .val (.int (0 : Int32)), .val (.double (FP.i2d ((p5 <<< ((28 : Int32) &&& 31)) >>> ((28 : Int32) &&& 31)))), .second, .unset, .unset, .unset, .unset, .unset, .unset]) rfl (pc' := 26) rfl ?_
      refine Jvm.OwnWp.iload K at_26 rfl (pc' := 28) rfl ?_
      refine Jvm.OwnWp.bipush K (24 : Int32) at_28 (by decide) (pc' := 30) rfl ?_
      refine Jvm.OwnWp.ishl K at_30 (pc' := 31) rfl ?_
      refine Jvm.OwnWp.bipush K (28 : Int32) at_31 (by decide) (pc' := 33) rfl ?_
      refine Jvm.OwnWp.ishr K at_33 (pc' := 34) rfl ?_
      refine Jvm.OwnWp.i2d K at_34 (pc' := 35) rfl ?_
      refine Jvm.OwnWp.dstore K at_35 (Ls' := #[.val (.int p0), .val (.int p1), .val (.int p2), .val (.int p3), .val (.int p4), .val (.int p5), .val (.int (3 : Int32)), .val (.int (0 : Int32)), .val (.double (FP.i2d ((p5 <<< ((28 : Int32) &&& 31)) >>> ((28 : Int32) &&& 31)))), .second, .val (.double (FP.i2d ((p5 <<< ((24 : Int32) &&& 31)) >>> ((28 : Int32) &&& 31)))), .second, .unset, .unset, .unset, .unset]) rfl (pc' := 37) rfl ?_
      refine Jvm.OwnWp.iload K at_37 rfl (pc' := 39) rfl ?_
      refine Jvm.OwnWp.bipush K (20 : Int32) at_39 (by decide) (pc' := 41) rfl ?_
      refine Jvm.OwnWp.ishl K at_41 (pc' := 42) rfl ?_
      refine Jvm.OwnWp.bipush K (28 : Int32) at_42 (by decide) (pc' := 44) rfl ?_
      refine Jvm.OwnWp.ishr K at_44 (pc' := 45) rfl ?_
      refine Jvm.OwnWp.i2d K at_45 (pc' := 46) rfl ?_
      refine Jvm.OwnWp.dstore K at_46 (Ls' := #[.val (.int p0), .val (.int p1), .val (.int p2), .val (.int p3), .val (.int p4), .val (.int p5), .val (.int (3 : Int32)), .val (.int (0 : Int32)), .val (.double (FP.i2d ((p5 <<< ((28 : Int32) &&& 31)) >>> ((28 : Int32) &&& 31)))), .second, .val (.double (FP.i2d ((p5 <<< ((24 : Int32) &&& 31)) >>> ((28 : Int32) &&& 31)))), .second, .val (.double (FP.i2d ((p5 <<< ((20 : Int32) &&& 31)) >>> ((28 : Int32) &&& 31)))), .second, .unset, .unset]) rfl (pc' := 48) rfl ?_
      refine newObj K (wd0 hw) (wd1 hw) (wd2 hw) at_48 (by decide) (by decide) (pc' := 51) rfl ?_
      intro h63 b63 g63 E63 A63 D63
      have lt_b63 : h0.size ≤ b63 := Nat.le_trans P0.1 (Nat.le_of_eq g63.symm)
      have ge_b63 : n0 ≤ b63 := Nat.le_trans Z0 lt_b63
      have P63 := (P0.ext E63)
      have F63_keys_b63 : Fld Z h63 b63 "com/example/routeloom/routeloom/MinQueue" "keys" "[D" .null := D63 (Or.inl (wd11 hw)) (ty := (.array .double)) (by decide)
      have F63_items_b63 : Fld Z h63 b63 "com/example/routeloom/routeloom/MinQueue" "items" "[I" .null := D63 (Or.inl (wd14 hw)) (ty := (.array .int)) (by decide)
      have F63_size_b63 : Fld Z h63 b63 "com/example/routeloom/routeloom/MinQueue" "size" "I" (.int (0 : Int32)) := D63 (Or.inl (wd21 hw)) (ty := .int) (by decide)
      refine Jvm.OwnWp.dup K at_51 rfl (pc' := 52) rfl ?_
      refine callInit K (y := (⟨"com/example/routeloom/routeloom/MinQueue", "<init>", "()V"⟩ : MethodName)) (b := b63) (argsL := []) (S := [(.ref b63)]) rfl (wd3 hw) (wd4 hw) (wd2 hw) (wd5 hw) rfl (by decide) (c_init l Z a0 hw [] b63 h63 n0 (Nat.le_trans Z0 P63.1) A63 ge_b63 F63_keys_b63 F63_items_b63 F63_size_b63) (lenOf pd0 rfl) at_52 rfl (Nat.le_of_ble_eq_true rfl) (Nat.le_of_ble_eq_true rfl) (Nat.le_of_ble_eq_true rfl) (Nat.le_of_ble_eq_true rfl) rfl (pc' := 55) rfl ?_
      rintro v64 h64 ⟨rfl, K64, ks, is, lk64, li64, ne_is_ks, Q64_F_keys, Q64_F_items, Q64_F_size, Q64_VK, Q64_VI⟩
      have ne_b63_ks : b63 ≠ ks := Nat.ne_of_lt (Nat.lt_of_lt_of_le (Exa.lt A63) lk64)
      have lt_ks : h0.size ≤ ks := Nat.le_trans P63.1 lk64
      have ge_ks : n0 ≤ ks := Nat.le_trans Z0 lt_ks
      have ne_b63_is : b63 ≠ is := Nat.ne_of_lt (Nat.lt_of_lt_of_le (Exa.lt A63) li64)
      have lt_is : h0.size ≤ is := Nat.le_trans P63.1 li64
      have ge_is : n0 ≤ is := Nat.le_trans Z0 lt_is
      have X64_b63 := (Exa.keep A63 K64)
      have P64 := (P63.trans K64 (allS (Or.inr lt_b63) (all0)))
      show Go _ _ _ _ _ _ _ _ _ _ _ h64 3 131 (mkF m 55 #[.val (.int p0), .val (.int p1), .val (.int p2), .val (.int p3), .val (.int p4), .val (.int p5), .val (.int (3 : Int32)), .val (.int (0 : Int32)), .val (.double (FP.i2d ((p5 <<< ((28 : Int32) &&& 31)) >>> ((28 : Int32) &&& 31)))), .second, .val (.double (FP.i2d ((p5 <<< ((24 : Int32) &&& 31)) >>> ((28 : Int32) &&& 31)))), .second, .val (.double (FP.i2d ((p5 <<< ((20 : Int32) &&& 31)) >>> ((28 : Int32) &&& 31)))), .second, .unset, .unset] [(.ref b63)]) _
      refine Jvm.OwnWp.astore K at_55 rfl (Ls' := #[.val (.int p0), .val (.int p1), .val (.int p2), .val (.int p3), .val (.int p4), .val (.int p5), .val (.int (3 : Int32)), .val (.int (0 : Int32)), .val (.double (FP.i2d ((p5 <<< ((28 : Int32) &&& 31)) >>> ((28 : Int32) &&& 31)))), .second, .val (.double (FP.i2d ((p5 <<< ((24 : Int32) &&& 31)) >>> ((28 : Int32) &&& 31)))), .second, .val (.double (FP.i2d ((p5 <<< ((20 : Int32) &&& 31)) >>> ((28 : Int32) &&& 31)))), .second, .val (.ref b63), .unset]) rfl (pc' := 57) rfl ?_
      refine Jvm.OwnWp.aload K at_57 rfl rfl (pc' := 59) rfl ?_
      refine callVirt K (y := (⟨"com/example/routeloom/routeloom/MinQueue", "isEmpty", "()Z"⟩ : MethodName)) (b := b63) (argsL := []) (S := []) (wd15 hw) (wd16 hw) (wd18 hw) (wd17 hw) (wd2 hw) (wd19 hw) (by decide) X64_b63 (c_empty l Z a0 hw [] b63 (0 : Int32) h64 n0 (Nat.le_trans Z0 P64.1) Q64_F_size) (lenOf pd1 rfl) at_59 rfl (Nat.le_of_ble_eq_true rfl) (Nat.le_of_ble_eq_true rfl) (Nat.le_of_ble_eq_true rfl) (Nat.le_of_ble_eq_true rfl) rfl (pc' := 62) rfl ?_
      rintro v65 h65 ⟨rfl, rfl⟩
      show Go _ _ _ _ _ _ _ _ _ _ _ h64 3 131 (mkF m 62 #[.val (.int p0), .val (.int p1), .val (.int p2), .val (.int p3), .val (.int p4), .val (.int p5), .val (.int (3 : Int32)), .val (.int (0 : Int32)), .val (.double (FP.i2d ((p5 <<< ((28 : Int32) &&& 31)) >>> ((28 : Int32) &&& 31)))), .second, .val (.double (FP.i2d ((p5 <<< ((24 : Int32) &&& 31)) >>> ((28 : Int32) &&& 31)))), .second, .val (.double (FP.i2d ((p5 <<< ((20 : Int32) &&& 31)) >>> ((28 : Int32) &&& 31)))), .second, .val (.ref b63), .unset] [(.int (1 : Int32))]) _
      refine Jvm.OwnWp.istore K at_62 (Ls' := #[.val (.int p0), .val (.int p1), .val (.int p2), .val (.int p3), .val (.int p4), .val (.int p5), .val (.int (3 : Int32)), .val (.int (0 : Int32)), .val (.double (FP.i2d ((p5 <<< ((28 : Int32) &&& 31)) >>> ((28 : Int32) &&& 31)))), .second, .val (.double (FP.i2d ((p5 <<< ((24 : Int32) &&& 31)) >>> ((28 : Int32) &&& 31)))), .second, .val (.double (FP.i2d ((p5 <<< ((20 : Int32) &&& 31)) >>> ((28 : Int32) &&& 31)))), .second, .val (.ref b63), .val (.int (1 : Int32))]) rfl (pc' := 64) rfl ?_
      refine Jvm.OwnWp.iload K at_64 rfl (pc' := 66) rfl ?_
      refine Jvm.OwnWp.iconst K (1 : Int32) at_66 (by decide) (pc' := 67) rfl ?_
      refine icN K at_67 (by decide) (pc' := 70) rfl ?_
      refine Jvm.OwnWp.aload K at_70 rfl rfl (pc' := 72) rfl ?_
      refine Jvm.OwnWp.iloadN K at_72 rfl (pc' := 73) rfl ?_
      refine Jvm.OwnWp.dload K at_73 rfl (pc' := 75) rfl ?_
      refine callVirt K (y := (⟨"com/example/routeloom/routeloom/MinQueue", "add", "(ID)V"⟩ : MethodName)) (b := b63) (argsL := [(.int p2), (.double (FP.i2d ((p5 <<< ((28 : Int32) &&& 31)) >>> ((28 : Int32) &&& 31))))]) (S := []) (wd22 hw) (wd23 hw) (wd25 hw) (wd24 hw) (wd2 hw) (wd26 hw) (by decide) X64_b63 (c_add l Z a0 hw [] b63 ks is p2 (FP.i2d ((p5 <<< ((28 : Int32) &&& 31)) >>> ((28 : Int32) &&& 31))) 0 (0 : Int32) (List.replicate 64 0) (List.replicate 64 0) h64 n0 (Nat.le_trans Z0 P64.1) (by decide) (by decide) (List.length_replicate ..) (List.length_replicate ..) X64_b63 Q64_F_keys Q64_F_items Q64_F_size Q64_VK Q64_VI (Ne.symm ne_b63_ks) (Ne.symm ne_b63_is) ne_is_ks ge_b63 ge_ks ge_is) (lenOf pd2 rfl) at_75 rfl (Nat.le_of_ble_eq_true rfl) (Nat.le_of_ble_eq_true rfl) (Nat.le_of_ble_eq_true rfl) (Nat.le_of_ble_eq_true rfl) rfl (pc' := 78) rfl ?_
      rintro v66 h66 ⟨rfl, K66, Q66_E, Q66_F_keys, Q66_F_items, Q66_F_size, Q66_VK, Q66_VI⟩
      have X66_b63 := (Exa.keep X64_b63 K66)
      have P66 := (P64.trans K66 (allS (Or.inr lt_b63) (allS (Or.inr lt_ks) (allS (Or.inr lt_is) (all0)))))
      have hu66 := up_len (key := (FP.i2d ((p5 <<< ((28 : Int32) &&& 31)) >>> ((28 : Int32) &&& 31)))) (item := p2) 0 (List.replicate 64 0) (List.replicate 64 0)
      rw [List.length_replicate, List.length_replicate] at hu66
      generalize up (FP.i2d ((p5 <<< ((28 : Int32) &&& 31)) >>> ((28 : Int32) &&& 31))) p2 (List.replicate 64 0) (List.replicate 64 0) 0 = U66 at hu66 Q66_VK Q66_VI
      show Go _ _ _ _ _ _ _ _ _ _ _ h66 3 131 (mkF m 78 #[.val (.int p0), .val (.int p1), .val (.int p2), .val (.int p3), .val (.int p4), .val (.int p5), .val (.int (3 : Int32)), .val (.int (0 : Int32)), .val (.double (FP.i2d ((p5 <<< ((28 : Int32) &&& 31)) >>> ((28 : Int32) &&& 31)))), .second, .val (.double (FP.i2d ((p5 <<< ((24 : Int32) &&& 31)) >>> ((28 : Int32) &&& 31)))), .second, .val (.double (FP.i2d ((p5 <<< ((20 : Int32) &&& 31)) >>> ((28 : Int32) &&& 31)))), .second, .val (.ref b63), .val (.int (1 : Int32))] []) _
      refine Jvm.OwnWp.iload K at_78 rfl (pc' := 80) rfl ?_
      refine Jvm.OwnWp.iconst K (2 : Int32) at_80 (by decide) (pc' := 81) rfl ?_
      refine icN K at_81 (by decide) (pc' := 84) rfl ?_
      refine Jvm.OwnWp.aload K at_84 rfl rfl (pc' := 86) rfl ?_
      refine Jvm.OwnWp.iloadN K at_86 rfl (pc' := 87) rfl ?_
      refine Jvm.OwnWp.dload K at_87 rfl (pc' := 89) rfl ?_
      refine callVirt K (y := (⟨"com/example/routeloom/routeloom/MinQueue", "add", "(ID)V"⟩ : MethodName)) (b := b63) (argsL := [(.int p3), (.double (FP.i2d ((p5 <<< ((24 : Int32) &&& 31)) >>> ((28 : Int32) &&& 31))))]) (S := []) (wd22 hw) (wd23 hw) (wd25 hw) (wd24 hw) (wd2 hw) (wd26 hw) (by decide) Q66_E (c_add l Z a0 hw [] b63 ks is p3 (FP.i2d ((p5 <<< ((24 : Int32) &&& 31)) >>> ((28 : Int32) &&& 31))) 1 ((0 : Int32) + (1 : Int32)) U66.1 U66.2 h66 n0 (Nat.le_trans Z0 P66.1) (by decide) (by decide) hu66.1 hu66.2 Q66_E Q66_F_keys Q66_F_items Q66_F_size Q66_VK Q66_VI (Ne.symm ne_b63_ks) (Ne.symm ne_b63_is) ne_is_ks ge_b63 ge_ks ge_is) (lenOf pd2 rfl) at_89 rfl (Nat.le_of_ble_eq_true rfl) (Nat.le_of_ble_eq_true rfl) (Nat.le_of_ble_eq_true rfl) (Nat.le_of_ble_eq_true rfl) rfl (pc' := 92) rfl ?_
      rintro v67 h67 ⟨rfl, K67, Q67_E, Q67_F_keys, Q67_F_items, Q67_F_size, Q67_VK, Q67_VI⟩
      have X67_b63 := (Exa.keep Q66_E K67)
      have P67 := (P66.trans K67 (allS (Or.inr lt_b63) (allS (Or.inr lt_ks) (allS (Or.inr lt_is) (all0)))))
      have hu67 := up_len (key := (FP.i2d ((p5 <<< ((24 : Int32) &&& 31)) >>> ((28 : Int32) &&& 31)))) (item := p3) 1 U66.1 U66.2
      rw [hu66.1, hu66.2] at hu67
      generalize up (FP.i2d ((p5 <<< ((24 : Int32) &&& 31)) >>> ((28 : Int32) &&& 31))) p3 U66.1 U66.2 1 = U67 at hu67 Q67_VK Q67_VI
      show Go _ _ _ _ _ _ _ _ _ _ _ h67 3 131 (mkF m 92 #[.val (.int p0), .val (.int p1), .val (.int p2), .val (.int p3), .val (.int p4), .val (.int p5), .val (.int (3 : Int32)), .val (.int (0 : Int32)), .val (.double (FP.i2d ((p5 <<< ((28 : Int32) &&& 31)) >>> ((28 : Int32) &&& 31)))), .second, .val (.double (FP.i2d ((p5 <<< ((24 : Int32) &&& 31)) >>> ((28 : Int32) &&& 31)))), .second, .val (.double (FP.i2d ((p5 <<< ((20 : Int32) &&& 31)) >>> ((28 : Int32) &&& 31)))), .second, .val (.ref b63), .val (.int (1 : Int32))] []) _
      refine Jvm.OwnWp.iload K at_92 rfl (pc' := 94) rfl ?_
      refine Jvm.OwnWp.iconst K (3 : Int32) at_94 (by decide) (pc' := 95) rfl ?_
      refine icN K at_95 (by decide) (pc' := 98) rfl ?_
      refine Jvm.OwnWp.aload K at_98 rfl rfl (pc' := 100) rfl ?_
      refine Jvm.OwnWp.iload K at_100 rfl (pc' := 102) rfl ?_
      refine Jvm.OwnWp.dload K at_102 rfl (pc' := 104) rfl ?_
      refine callVirt K (y := (⟨"com/example/routeloom/routeloom/MinQueue", "add", "(ID)V"⟩ : MethodName)) (b := b63) (argsL := [(.int p4), (.double (FP.i2d ((p5 <<< ((20 : Int32) &&& 31)) >>> ((28 : Int32) &&& 31))))]) (S := []) (wd22 hw) (wd23 hw) (wd25 hw) (wd24 hw) (wd2 hw) (wd26 hw) (by decide) Q67_E (c_add l Z a0 hw [] b63 ks is p4 (FP.i2d ((p5 <<< ((20 : Int32) &&& 31)) >>> ((28 : Int32) &&& 31))) 2 (((0 : Int32) + (1 : Int32)) + (1 : Int32)) U67.1 U67.2 h67 n0 (Nat.le_trans Z0 P67.1) (by decide) (by decide) hu67.1 hu67.2 Q67_E Q67_F_keys Q67_F_items Q67_F_size Q67_VK Q67_VI (Ne.symm ne_b63_ks) (Ne.symm ne_b63_is) ne_is_ks ge_b63 ge_ks ge_is) (lenOf pd2 rfl) at_104 rfl (Nat.le_of_ble_eq_true rfl) (Nat.le_of_ble_eq_true rfl) (Nat.le_of_ble_eq_true rfl) (Nat.le_of_ble_eq_true rfl) rfl (pc' := 107) rfl ?_
      rintro v68 h68 ⟨rfl, K68, Q68_E, Q68_F_keys, Q68_F_items, Q68_F_size, Q68_VK, Q68_VI⟩
      have X68_b63 := (Exa.keep Q67_E K68)
      have P68 := (P67.trans K68 (allS (Or.inr lt_b63) (allS (Or.inr lt_ks) (allS (Or.inr lt_is) (all0)))))
      have hu68 := up_len (key := (FP.i2d ((p5 <<< ((20 : Int32) &&& 31)) >>> ((28 : Int32) &&& 31)))) (item := p4) 2 U67.1 U67.2
      rw [hu67.1, hu67.2] at hu68
      generalize up (FP.i2d ((p5 <<< ((20 : Int32) &&& 31)) >>> ((28 : Int32) &&& 31))) p4 U67.1 U67.2 2 = U68 at hu68 Q68_VK Q68_VI
      show Go _ _ _ _ _ _ _ _ _ _ _ h68 3 131 (mkF m 107 #[.val (.int p0), .val (.int p1), .val (.int p2), .val (.int p3), .val (.int p4), .val (.int p5), .val (.int (3 : Int32)), .val (.int (0 : Int32)), .val (.double (FP.i2d ((p5 <<< ((28 : Int32) &&& 31)) >>> ((28 : Int32) &&& 31)))), .second, .val (.double (FP.i2d ((p5 <<< ((24 : Int32) &&& 31)) >>> ((28 : Int32) &&& 31)))), .second, .val (.double (FP.i2d ((p5 <<< ((20 : Int32) &&& 31)) >>> ((28 : Int32) &&& 31)))), .second, .val (.ref b63), .val (.int (1 : Int32))] []) _
      refine Jvm.OwnWp.iload K at_107 rfl (pc' := 109) rfl ?_
      refine ifN K at_109 (by decide) (pc' := 112) rfl ?_
      refine Jvm.OwnWp.aload K at_112 rfl rfl (pc' := 114) rfl ?_
      refine callVirt K (y := (⟨"com/example/routeloom/routeloom/MinQueue", "isEmpty", "()Z"⟩ : MethodName)) (b := b63) (argsL := []) (S := []) (wd15 hw) (wd16 hw) (wd18 hw) (wd17 hw) (wd2 hw) (wd19 hw) (by decide) Q68_E (c_empty l Z a0 hw [] b63 ((((0 : Int32) + (1 : Int32)) + (1 : Int32)) + (1 : Int32)) h68 n0 (Nat.le_trans Z0 P68.1) Q68_F_size) (lenOf pd1 rfl) at_114 rfl (Nat.le_of_ble_eq_true rfl) (Nat.le_of_ble_eq_true rfl) (Nat.le_of_ble_eq_true rfl) (Nat.le_of_ble_eq_true rfl) rfl (pc' := 117) rfl ?_
      rintro v69 h69 ⟨rfl, rfl⟩
      show Go _ _ _ _ _ _ _ _ _ _ _ h68 3 131 (mkF m 117 #[.val (.int p0), .val (.int p1), .val (.int p2), .val (.int p3), .val (.int p4), .val (.int p5), .val (.int (3 : Int32)), .val (.int (0 : Int32)), .val (.double (FP.i2d ((p5 <<< ((28 : Int32) &&& 31)) >>> ((28 : Int32) &&& 31)))), .second, .val (.double (FP.i2d ((p5 <<< ((24 : Int32) &&& 31)) >>> ((28 : Int32) &&& 31)))), .second, .val (.double (FP.i2d ((p5 <<< ((20 : Int32) &&& 31)) >>> ((28 : Int32) &&& 31)))), .second, .val (.ref b63), .val (.int (1 : Int32))] [(.int (0 : Int32))]) _
      refine Jvm.OwnWp.iload K at_117 rfl (pc' := 119) rfl ?_
      refine ifY K at_119 (by decide) (pc' := 126) (by decide) (by decide) ?_
      refine Jvm.OwnWp.iconst K (0 : Int32) at_126 (by decide) (pc' := 127) rfl ?_
      refine icN K at_127 (by decide) (pc' := 130) rfl ?_
      refine Jvm.OwnWp.iconst K (1 : Int32) at_130 (by decide) (pc' := 131) rfl ?_
      refine goto' K at_131 (pc' := 135) (by decide) (by decide) ?_
      refine Jvm.OwnWp.istore K at_135 (Ls' := #[.val (.int p0), .val (.int p1), .val (.int p2), .val (.int p3), .val (.int p4), .val (.int p5), .val (.int (3 : Int32)), .val (.int (0 : Int32)), .val (.double (FP.i2d ((p5 <<< ((28 : Int32) &&& 31)) >>> ((28 : Int32) &&& 31)))), .second, .val (.double (FP.i2d ((p5 <<< ((24 : Int32) &&& 31)) >>> ((28 : Int32) &&& 31)))), .second, .val (.double (FP.i2d ((p5 <<< ((20 : Int32) &&& 31)) >>> ((28 : Int32) &&& 31)))), .second, .val (.ref b63), .val (.int (1 : Int32))]) rfl (pc' := 137) rfl ?_
      refine Jvm.OwnWp.iload K at_137 rfl (pc' := 139) rfl ?_
      refine Jvm.OwnWp.iconst K (1 : Int32) at_139 (by decide) (pc' := 140) rfl ?_
      refine icY K at_140 (by decide) (pc' := 149) (by decide) (by decide) ?_
      refine Jvm.OwnWp.iload K at_149 rfl (pc' := 151) rfl ?_
      refine Jvm.OwnWp.iconst K (2 : Int32) at_151 (by decide) (pc' := 152) rfl ?_
      refine icY K at_152 (by decide) (pc' := 161) (by decide) (by decide) ?_
      refine Jvm.OwnWp.iload K at_161 rfl (pc' := 163) rfl ?_
      refine Jvm.OwnWp.iconst K (3 : Int32) at_163 (by decide) (pc' := 164) rfl ?_
      refine icY K at_164 (by decide) (pc' := 173) (by decide) (by decide) ?_
      refine Jvm.OwnWp.iload K at_173 rfl (pc' := 175) rfl ?_
      refine ifN K at_175 (by decide) (pc' := 178) rfl ?_
      refine Jvm.OwnWp.aload K at_178 rfl rfl (pc' := 180) rfl ?_
      refine callVirt K (y := (⟨"com/example/routeloom/routeloom/MinQueue", "isEmpty", "()Z"⟩ : MethodName)) (b := b63) (argsL := []) (S := []) (wd15 hw) (wd16 hw) (wd18 hw) (wd17 hw) (wd2 hw) (wd19 hw) (by decide) Q68_E (c_empty l Z a0 hw [] b63 ((((0 : Int32) + (1 : Int32)) + (1 : Int32)) + (1 : Int32)) h68 n0 (Nat.le_trans Z0 P68.1) Q68_F_size) (lenOf pd1 rfl) at_180 rfl (Nat.le_of_ble_eq_true rfl) (Nat.le_of_ble_eq_true rfl) (Nat.le_of_ble_eq_true rfl) (Nat.le_of_ble_eq_true rfl) rfl (pc' := 183) rfl ?_
      rintro v70 h70 ⟨rfl, rfl⟩
      show Go _ _ _ _ _ _ _ _ _ _ _ h68 3 131 (mkF m 183 #[.val (.int p0), .val (.int p1), .val (.int p2), .val (.int p3), .val (.int p4), .val (.int p5), .val (.int (3 : Int32)), .val (.int (0 : Int32)), .val (.double (FP.i2d ((p5 <<< ((28 : Int32) &&& 31)) >>> ((28 : Int32) &&& 31)))), .second, .val (.double (FP.i2d ((p5 <<< ((24 : Int32) &&& 31)) >>> ((28 : Int32) &&& 31)))), .second, .val (.double (FP.i2d ((p5 <<< ((20 : Int32) &&& 31)) >>> ((28 : Int32) &&& 31)))), .second, .val (.ref b63), .val (.int (1 : Int32))] [(.int (0 : Int32))]) _
      refine Jvm.OwnWp.iload K at_183 rfl (pc' := 185) rfl ?_
      refine Jvm.OwnWp.iload K at_185 rfl (pc' := 187) rfl ?_
      refine Jvm.OwnWp.isub K at_187 (pc' := 188) rfl ?_
      refine ifY K at_188 (by decide) (pc' := 195) (by decide) (by decide) ?_
      refine Jvm.OwnWp.iconst K (0 : Int32) at_195 (by decide) (pc' := 196) rfl ?_
      refine icN K at_196 (by decide) (pc' := 199) rfl ?_
      refine Jvm.OwnWp.iconst K (1 : Int32) at_199 (by decide) (pc' := 200) rfl ?_
      refine goto' K at_200 (pc' := 204) (by decide) (by decide) ?_
      refine Jvm.OwnWp.istore K at_204 (Ls' := #[.val (.int p0), .val (.int p1), .val (.int p2), .val (.int p3), .val (.int p4), .val (.int p5), .val (.int (3 : Int32)), .val (.int (0 : Int32)), .val (.double (FP.i2d ((p5 <<< ((28 : Int32) &&& 31)) >>> ((28 : Int32) &&& 31)))), .second, .val (.double (FP.i2d ((p5 <<< ((24 : Int32) &&& 31)) >>> ((28 : Int32) &&& 31)))), .second, .val (.double (FP.i2d ((p5 <<< ((20 : Int32) &&& 31)) >>> ((28 : Int32) &&& 31)))), .second, .val (.ref b63), .val (.int (1 : Int32))]) rfl (pc' := 206) rfl ?_
      refine Jvm.OwnWp.iload K at_206 rfl (pc' := 208) rfl ?_
      refine retB K (t := .boolean) rfl (by simp) at_208 (Nat.le_of_ble_eq_true rfl) (Nat.le_of_ble_eq_true rfl) ?_
      rfl
    · refine Jvm.OwnWp.istore K at_13 (Ls' := #[.val (.int p0), .val (.int p1), .val (.int p2), .val (.int p3), .val (.int p4), .val (.int p5), .val (.int (3 : Int32)), .val (.int (1 : Int32)), .unset, .unset, .unset, .unset, .unset, .unset, .unset, .unset]) rfl (pc' := 15) rfl ?_
      refine Jvm.OwnWp.iload K at_15 rfl (pc' := 17) rfl ?_
      refine Jvm.OwnWp.bipush K (28 : Int32) at_17 (by decide) (pc' := 19) rfl ?_
      refine Jvm.OwnWp.ishl K at_19 (pc' := 20) rfl ?_
      refine Jvm.OwnWp.bipush K (28 : Int32) at_20 (by decide) (pc' := 22) rfl ?_
      refine Jvm.OwnWp.ishr K at_22 (pc' := 23) rfl ?_
      refine Jvm.OwnWp.i2d K at_23 (pc' := 24) rfl ?_
      refine Jvm.OwnWp.dstore K at_24 (Ls' := #[.val (.int p0), .val (.int p1), .val (.int p2), .val (.int p3), .val (.int p4), .val (.int p5), .val (.int (3 : Int32)), .val (.int (1 : Int32)), .val (.double (FP.i2d ((p5 <<< ((28 : Int32) &&& 31)) >>> ((28 : Int32) &&& 31)))), .second, .unset, .unset, .unset, .unset, .unset, .unset]) rfl (pc' := 26) rfl ?_
      refine Jvm.OwnWp.iload K at_26 rfl (pc' := 28) rfl ?_
      refine Jvm.OwnWp.bipush K (24 : Int32) at_28 (by decide) (pc' := 30) rfl ?_
      refine Jvm.OwnWp.ishl K at_30 (pc' := 31) rfl ?_
      refine Jvm.OwnWp.bipush K (28 : Int32) at_31 (by decide) (pc' := 33) rfl ?_
      refine Jvm.OwnWp.ishr K at_33 (pc' := 34) rfl ?_
      refine Jvm.OwnWp.i2d K at_34 (pc' := 35) rfl ?_
      refine Jvm.OwnWp.dstore K at_35 (Ls' := #[.val (.int p0), .val (.int p1), .val (.int p2), .val (.int p3), .val (.int p4), .val (.int p5), .val (.int (3 : Int32)), .val (.int (1 : Int32)), .val (.double (FP.i2d ((p5 <<< ((28 : Int32) &&& 31)) >>> ((28 : Int32) &&& 31)))), .second, .val (.double (FP.i2d ((p5 <<< ((24 : Int32) &&& 31)) >>> ((28 : Int32) &&& 31)))), .second, .unset, .unset, .unset, .unset]) rfl (pc' := 37) rfl ?_
      refine Jvm.OwnWp.iload K at_37 rfl (pc' := 39) rfl ?_
      refine Jvm.OwnWp.bipush K (20 : Int32) at_39 (by decide) (pc' := 41) rfl ?_
      refine Jvm.OwnWp.ishl K at_41 (pc' := 42) rfl ?_
      refine Jvm.OwnWp.bipush K (28 : Int32) at_42 (by decide) (pc' := 44) rfl ?_
      refine Jvm.OwnWp.ishr K at_44 (pc' := 45) rfl ?_
      refine Jvm.OwnWp.i2d K at_45 (pc' := 46) rfl ?_
      refine Jvm.OwnWp.dstore K at_46 (Ls' := #[.val (.int p0), .val (.int p1), .val (.int p2), .val (.int p3), .val (.int p4), .val (.int p5), .val (.int (3 : Int32)), .val (.int (1 : Int32)), .val (.double (FP.i2d ((p5 <<< ((28 : Int32) &&& 31)) >>> ((28 : Int32) &&& 31)))), .second, .val (.double (FP.i2d ((p5 <<< ((24 : Int32) &&& 31)) >>> ((28 : Int32) &&& 31)))), .second, .val (.double (FP.i2d ((p5 <<< ((20 : Int32) &&& 31)) >>> ((28 : Int32) &&& 31)))), .second, .unset, .unset]) rfl (pc' := 48) rfl ?_
      refine newObj K (wd0 hw) (wd1 hw) (wd2 hw) at_48 (by decide) (by decide) (pc' := 51) rfl ?_
      intro h71 b71 g71 E71 A71 D71
      have lt_b71 : h0.size ≤ b71 := Nat.le_trans P0.1 (Nat.le_of_eq g71.symm)
      have ge_b71 : n0 ≤ b71 := Nat.le_trans Z0 lt_b71
      have P71 := (P0.ext E71)
      have F71_keys_b71 : Fld Z h71 b71 "com/example/routeloom/routeloom/MinQueue" "keys" "[D" .null := D71 (Or.inl (wd11 hw)) (ty := (.array .double)) (by decide)
      have F71_items_b71 : Fld Z h71 b71 "com/example/routeloom/routeloom/MinQueue" "items" "[I" .null := D71 (Or.inl (wd14 hw)) (ty := (.array .int)) (by decide)
      have F71_size_b71 : Fld Z h71 b71 "com/example/routeloom/routeloom/MinQueue" "size" "I" (.int (0 : Int32)) := D71 (Or.inl (wd21 hw)) (ty := .int) (by decide)
      refine Jvm.OwnWp.dup K at_51 rfl (pc' := 52) rfl ?_
      refine callInit K (y := (⟨"com/example/routeloom/routeloom/MinQueue", "<init>", "()V"⟩ : MethodName)) (b := b71) (argsL := []) (S := [(.ref b71)]) rfl (wd3 hw) (wd4 hw) (wd2 hw) (wd5 hw) rfl (by decide) (c_init l Z a0 hw [] b71 h71 n0 (Nat.le_trans Z0 P71.1) A71 ge_b71 F71_keys_b71 F71_items_b71 F71_size_b71) (lenOf pd0 rfl) at_52 rfl (Nat.le_of_ble_eq_true rfl) (Nat.le_of_ble_eq_true rfl) (Nat.le_of_ble_eq_true rfl) (Nat.le_of_ble_eq_true rfl) rfl (pc' := 55) rfl ?_
      rintro v72 h72 ⟨rfl, K72, ks, is, lk72, li72, ne_is_ks, Q72_F_keys, Q72_F_items, Q72_F_size, Q72_VK, Q72_VI⟩
      have ne_b71_ks : b71 ≠ ks := Nat.ne_of_lt (Nat.lt_of_lt_of_le (Exa.lt A71) lk72)
      have lt_ks : h0.size ≤ ks := Nat.le_trans P71.1 lk72
      have ge_ks : n0 ≤ ks := Nat.le_trans Z0 lt_ks
      have ne_b71_is : b71 ≠ is := Nat.ne_of_lt (Nat.lt_of_lt_of_le (Exa.lt A71) li72)
      have lt_is : h0.size ≤ is := Nat.le_trans P71.1 li72
      have ge_is : n0 ≤ is := Nat.le_trans Z0 lt_is
      have X72_b71 := (Exa.keep A71 K72)
      have P72 := (P71.trans K72 (allS (Or.inr lt_b71) (all0)))
      show Go _ _ _ _ _ _ _ _ _ _ _ h72 3 131 (mkF m 55 #[.val (.int p0), .val (.int p1), .val (.int p2), .val (.int p3), .val (.int p4), .val (.int p5), .val (.int (3 : Int32)), .val (.int (1 : Int32)), .val (.double (FP.i2d ((p5 <<< ((28 : Int32) &&& 31)) >>> ((28 : Int32) &&& 31)))), .second, .val (.double (FP.i2d ((p5 <<< ((24 : Int32) &&& 31)) >>> ((28 : Int32) &&& 31)))), .second, .val (.double (FP.i2d ((p5 <<< ((20 : Int32) &&& 31)) >>> ((28 : Int32) &&& 31)))), .second, .unset, .unset] [(.ref b71)]) _
      refine Jvm.OwnWp.astore K at_55 rfl (Ls' := #[.val (.int p0), .val (.int p1), .val (.int p2), .val (.int p3), .val (.int p4), .val (.int p5), .val (.int (3 : Int32)), .val (.int (1 : Int32)), .val (.double (FP.i2d ((p5 <<< ((28 : Int32) &&& 31)) >>> ((28 : Int32) &&& 31)))), .second, .val (.double (FP.i2d ((p5 <<< ((24 : Int32) &&& 31)) >>> ((28 : Int32) &&& 31)))), .second, .val (.double (FP.i2d ((p5 <<< ((20 : Int32) &&& 31)) >>> ((28 : Int32) &&& 31)))), .second, .val (.ref b71), .unset]) rfl (pc' := 57) rfl ?_
      refine Jvm.OwnWp.aload K at_57 rfl rfl (pc' := 59) rfl ?_
      refine callVirt K (y := (⟨"com/example/routeloom/routeloom/MinQueue", "isEmpty", "()Z"⟩ : MethodName)) (b := b71) (argsL := []) (S := []) (wd15 hw) (wd16 hw) (wd18 hw) (wd17 hw) (wd2 hw) (wd19 hw) (by decide) X72_b71 (c_empty l Z a0 hw [] b71 (0 : Int32) h72 n0 (Nat.le_trans Z0 P72.1) Q72_F_size) (lenOf pd1 rfl) at_59 rfl (Nat.le_of_ble_eq_true rfl) (Nat.le_of_ble_eq_true rfl) (Nat.le_of_ble_eq_true rfl) (Nat.le_of_ble_eq_true rfl) rfl (pc' := 62) rfl ?_
      rintro v73 h73 ⟨rfl, rfl⟩
      show Go _ _ _ _ _ _ _ _ _ _ _ h72 3 131 (mkF m 62 #[.val (.int p0), .val (.int p1), .val (.int p2), .val (.int p3), .val (.int p4), .val (.int p5), .val (.int (3 : Int32)), .val (.int (1 : Int32)), .val (.double (FP.i2d ((p5 <<< ((28 : Int32) &&& 31)) >>> ((28 : Int32) &&& 31)))), .second, .val (.double (FP.i2d ((p5 <<< ((24 : Int32) &&& 31)) >>> ((28 : Int32) &&& 31)))), .second, .val (.double (FP.i2d ((p5 <<< ((20 : Int32) &&& 31)) >>> ((28 : Int32) &&& 31)))), .second, .val (.ref b71), .unset] [(.int (1 : Int32))]) _
      refine Jvm.OwnWp.istore K at_62 (Ls' := #[.val (.int p0), .val (.int p1), .val (.int p2), .val (.int p3), .val (.int p4), .val (.int p5), .val (.int (3 : Int32)), .val (.int (1 : Int32)), .val (.double (FP.i2d ((p5 <<< ((28 : Int32) &&& 31)) >>> ((28 : Int32) &&& 31)))), .second, .val (.double (FP.i2d ((p5 <<< ((24 : Int32) &&& 31)) >>> ((28 : Int32) &&& 31)))), .second, .val (.double (FP.i2d ((p5 <<< ((20 : Int32) &&& 31)) >>> ((28 : Int32) &&& 31)))), .second, .val (.ref b71), .val (.int (1 : Int32))]) rfl (pc' := 64) rfl ?_
      refine Jvm.OwnWp.iload K at_64 rfl (pc' := 66) rfl ?_
      refine Jvm.OwnWp.iconst K (1 : Int32) at_66 (by decide) (pc' := 67) rfl ?_
      refine icN K at_67 (by decide) (pc' := 70) rfl ?_
      refine Jvm.OwnWp.aload K at_70 rfl rfl (pc' := 72) rfl ?_
      refine Jvm.OwnWp.iloadN K at_72 rfl (pc' := 73) rfl ?_
      refine Jvm.OwnWp.dload K at_73 rfl (pc' := 75) rfl ?_
      refine callVirt K (y := (⟨"com/example/routeloom/routeloom/MinQueue", "add", "(ID)V"⟩ : MethodName)) (b := b71) (argsL := [(.int p2), (.double (FP.i2d ((p5 <<< ((28 : Int32) &&& 31)) >>> ((28 : Int32) &&& 31))))]) (S := []) (wd22 hw) (wd23 hw) (wd25 hw) (wd24 hw) (wd2 hw) (wd26 hw) (by decide) X72_b71 (c_add l Z a0 hw [] b71 ks is p2 (FP.i2d ((p5 <<< ((28 : Int32) &&& 31)) >>> ((28 : Int32) &&& 31))) 0 (0 : Int32) (List.replicate 64 0) (List.replicate 64 0) h72 n0 (Nat.le_trans Z0 P72.1) (by decide) (by decide) (List.length_replicate ..) (List.length_replicate ..) X72_b71 Q72_F_keys Q72_F_items Q72_F_size Q72_VK Q72_VI (Ne.symm ne_b71_ks) (Ne.symm ne_b71_is) ne_is_ks ge_b71 ge_ks ge_is) (lenOf pd2 rfl) at_75 rfl (Nat.le_of_ble_eq_true rfl) (Nat.le_of_ble_eq_true rfl) (Nat.le_of_ble_eq_true rfl) (Nat.le_of_ble_eq_true rfl) rfl (pc' := 78) rfl ?_
      rintro v74 h74 ⟨rfl, K74, Q74_E, Q74_F_keys, Q74_F_items, Q74_F_size, Q74_VK, Q74_VI⟩
      have X74_b71 := (Exa.keep X72_b71 K74)
      have P74 := (P72.trans K74 (allS (Or.inr lt_b71) (allS (Or.inr lt_ks) (allS (Or.inr lt_is) (all0)))))
      have hu74 := up_len (key := (FP.i2d ((p5 <<< ((28 : Int32) &&& 31)) >>> ((28 : Int32) &&& 31)))) (item := p2) 0 (List.replicate 64 0) (List.replicate 64 0)
      rw [List.length_replicate, List.length_replicate] at hu74
      generalize up (FP.i2d ((p5 <<< ((28 : Int32) &&& 31)) >>> ((28 : Int32) &&& 31))) p2 (List.replicate 64 0) (List.replicate 64 0) 0 = U74 at hu74 Q74_VK Q74_VI
      show Go _ _ _ _ _ _ _ _ _ _ _ h74 3 131 (mkF m 78 #[.val (.int p0), .val (.int p1), .val (.int p2), .val (.int p3), .val (.int p4), .val (.int p5), .val (.int (3 : Int32)), .val (.int (1 : Int32)), .val (.double (FP.i2d ((p5 <<< ((28 : Int32) &&& 31)) >>> ((28 : Int32) &&& 31)))), .second, .val (.double (FP.i2d ((p5 <<< ((24 : Int32) &&& 31)) >>> ((28 : Int32) &&& 31)))), .second, .val (.double (FP.i2d ((p5 <<< ((20 : Int32) &&& 31)) >>> ((28 : Int32) &&& 31)))), .second, .val (.ref b71), .val (.int (1 : Int32))] []) _
      refine Jvm.OwnWp.iload K at_78 rfl (pc' := 80) rfl ?_
      refine Jvm.OwnWp.iconst K (2 : Int32) at_80 (by decide) (pc' := 81) rfl ?_
      refine icN K at_81 (by decide) (pc' := 84) rfl ?_
      refine Jvm.OwnWp.aload K at_84 rfl rfl (pc' := 86) rfl ?_
      refine Jvm.OwnWp.iloadN K at_86 rfl (pc' := 87) rfl ?_
      refine Jvm.OwnWp.dload K at_87 rfl (pc' := 89) rfl ?_
      refine callVirt K (y := (⟨"com/example/routeloom/routeloom/MinQueue", "add", "(ID)V"⟩ : MethodName)) (b := b71) (argsL := [(.int p3), (.double (FP.i2d ((p5 <<< ((24 : Int32) &&& 31)) >>> ((28 : Int32) &&& 31))))]) (S := []) (wd22 hw) (wd23 hw) (wd25 hw) (wd24 hw) (wd2 hw) (wd26 hw) (by decide) Q74_E (c_add l Z a0 hw [] b71 ks is p3 (FP.i2d ((p5 <<< ((24 : Int32) &&& 31)) >>> ((28 : Int32) &&& 31))) 1 ((0 : Int32) + (1 : Int32)) U74.1 U74.2 h74 n0 (Nat.le_trans Z0 P74.1) (by decide) (by decide) hu74.1 hu74.2 Q74_E Q74_F_keys Q74_F_items Q74_F_size Q74_VK Q74_VI (Ne.symm ne_b71_ks) (Ne.symm ne_b71_is) ne_is_ks ge_b71 ge_ks ge_is) (lenOf pd2 rfl) at_89 rfl (Nat.le_of_ble_eq_true rfl) (Nat.le_of_ble_eq_true rfl) (Nat.le_of_ble_eq_true rfl) (Nat.le_of_ble_eq_true rfl) rfl (pc' := 92) rfl ?_
      rintro v75 h75 ⟨rfl, K75, Q75_E, Q75_F_keys, Q75_F_items, Q75_F_size, Q75_VK, Q75_VI⟩
      have X75_b71 := (Exa.keep Q74_E K75)
      have P75 := (P74.trans K75 (allS (Or.inr lt_b71) (allS (Or.inr lt_ks) (allS (Or.inr lt_is) (all0)))))
      have hu75 := up_len (key := (FP.i2d ((p5 <<< ((24 : Int32) &&& 31)) >>> ((28 : Int32) &&& 31)))) (item := p3) 1 U74.1 U74.2
      rw [hu74.1, hu74.2] at hu75
      generalize up (FP.i2d ((p5 <<< ((24 : Int32) &&& 31)) >>> ((28 : Int32) &&& 31))) p3 U74.1 U74.2 1 = U75 at hu75 Q75_VK Q75_VI
      show Go _ _ _ _ _ _ _ _ _ _ _ h75 3 131 (mkF m 92 #[.val (.int p0), .val (.int p1), .val (.int p2), .val (.int p3), .val (.int p4), .val (.int p5), .val (.int (3 : Int32)), .val (.int (1 : Int32)), .val (.double (FP.i2d ((p5 <<< ((28 : Int32) &&& 31)) >>> ((28 : Int32) &&& 31)))), .second, .val (.double (FP.i2d ((p5 <<< ((24 : Int32) &&& 31)) >>> ((28 : Int32) &&& 31)))), .second, .val (.double (FP.i2d ((p5 <<< ((20 : Int32) &&& 31)) >>> ((28 : Int32) &&& 31)))), .second, .val (.ref b71), .val (.int (1 : Int32))] []) _
      refine Jvm.OwnWp.iload K at_92 rfl (pc' := 94) rfl ?_
      refine Jvm.OwnWp.iconst K (3 : Int32) at_94 (by decide) (pc' := 95) rfl ?_
      refine icN K at_95 (by decide) (pc' := 98) rfl ?_
      refine Jvm.OwnWp.aload K at_98 rfl rfl (pc' := 100) rfl ?_
      refine Jvm.OwnWp.iload K at_100 rfl (pc' := 102) rfl ?_
      refine Jvm.OwnWp.dload K at_102 rfl (pc' := 104) rfl ?_
      refine callVirt K (y := (⟨"com/example/routeloom/routeloom/MinQueue", "add", "(ID)V"⟩ : MethodName)) (b := b71) (argsL := [(.int p4), (.double (FP.i2d ((p5 <<< ((20 : Int32) &&& 31)) >>> ((28 : Int32) &&& 31))))]) (S := []) (wd22 hw) (wd23 hw) (wd25 hw) (wd24 hw) (wd2 hw) (wd26 hw) (by decide) Q75_E (c_add l Z a0 hw [] b71 ks is p4 (FP.i2d ((p5 <<< ((20 : Int32) &&& 31)) >>> ((28 : Int32) &&& 31))) 2 (((0 : Int32) + (1 : Int32)) + (1 : Int32)) U75.1 U75.2 h75 n0 (Nat.le_trans Z0 P75.1) (by decide) (by decide) hu75.1 hu75.2 Q75_E Q75_F_keys Q75_F_items Q75_F_size Q75_VK Q75_VI (Ne.symm ne_b71_ks) (Ne.symm ne_b71_is) ne_is_ks ge_b71 ge_ks ge_is) (lenOf pd2 rfl) at_104 rfl (Nat.le_of_ble_eq_true rfl) (Nat.le_of_ble_eq_true rfl) (Nat.le_of_ble_eq_true rfl) (Nat.le_of_ble_eq_true rfl) rfl (pc' := 107) rfl ?_
      rintro v76 h76 ⟨rfl, K76, Q76_E, Q76_F_keys, Q76_F_items, Q76_F_size, Q76_VK, Q76_VI⟩
      have X76_b71 := (Exa.keep Q75_E K76)
      have P76 := (P75.trans K76 (allS (Or.inr lt_b71) (allS (Or.inr lt_ks) (allS (Or.inr lt_is) (all0)))))
      have hu76 := up_len (key := (FP.i2d ((p5 <<< ((20 : Int32) &&& 31)) >>> ((28 : Int32) &&& 31)))) (item := p4) 2 U75.1 U75.2
      rw [hu75.1, hu75.2] at hu76
      generalize up (FP.i2d ((p5 <<< ((20 : Int32) &&& 31)) >>> ((28 : Int32) &&& 31))) p4 U75.1 U75.2 2 = U76 at hu76 Q76_VK Q76_VI
      show Go _ _ _ _ _ _ _ _ _ _ _ h76 3 131 (mkF m 107 #[.val (.int p0), .val (.int p1), .val (.int p2), .val (.int p3), .val (.int p4), .val (.int p5), .val (.int (3 : Int32)), .val (.int (1 : Int32)), .val (.double (FP.i2d ((p5 <<< ((28 : Int32) &&& 31)) >>> ((28 : Int32) &&& 31)))), .second, .val (.double (FP.i2d ((p5 <<< ((24 : Int32) &&& 31)) >>> ((28 : Int32) &&& 31)))), .second, .val (.double (FP.i2d ((p5 <<< ((20 : Int32) &&& 31)) >>> ((28 : Int32) &&& 31)))), .second, .val (.ref b71), .val (.int (1 : Int32))] []) _
      refine Jvm.OwnWp.iload K at_107 rfl (pc' := 109) rfl ?_
      refine ifN K at_109 (by decide) (pc' := 112) rfl ?_
      refine Jvm.OwnWp.aload K at_112 rfl rfl (pc' := 114) rfl ?_
      refine callVirt K (y := (⟨"com/example/routeloom/routeloom/MinQueue", "isEmpty", "()Z"⟩ : MethodName)) (b := b71) (argsL := []) (S := []) (wd15 hw) (wd16 hw) (wd18 hw) (wd17 hw) (wd2 hw) (wd19 hw) (by decide) Q76_E (c_empty l Z a0 hw [] b71 ((((0 : Int32) + (1 : Int32)) + (1 : Int32)) + (1 : Int32)) h76 n0 (Nat.le_trans Z0 P76.1) Q76_F_size) (lenOf pd1 rfl) at_114 rfl (Nat.le_of_ble_eq_true rfl) (Nat.le_of_ble_eq_true rfl) (Nat.le_of_ble_eq_true rfl) (Nat.le_of_ble_eq_true rfl) rfl (pc' := 117) rfl ?_
      rintro v77 h77 ⟨rfl, rfl⟩
      show Go _ _ _ _ _ _ _ _ _ _ _ h76 3 131 (mkF m 117 #[.val (.int p0), .val (.int p1), .val (.int p2), .val (.int p3), .val (.int p4), .val (.int p5), .val (.int (3 : Int32)), .val (.int (1 : Int32)), .val (.double (FP.i2d ((p5 <<< ((28 : Int32) &&& 31)) >>> ((28 : Int32) &&& 31)))), .second, .val (.double (FP.i2d ((p5 <<< ((24 : Int32) &&& 31)) >>> ((28 : Int32) &&& 31)))), .second, .val (.double (FP.i2d ((p5 <<< ((20 : Int32) &&& 31)) >>> ((28 : Int32) &&& 31)))), .second, .val (.ref b71), .val (.int (1 : Int32))] [(.int (0 : Int32))]) _
      refine Jvm.OwnWp.iload K at_117 rfl (pc' := 119) rfl ?_
      refine ifY K at_119 (by decide) (pc' := 126) (by decide) (by decide) ?_
      refine Jvm.OwnWp.iconst K (0 : Int32) at_126 (by decide) (pc' := 127) rfl ?_
      refine icN K at_127 (by decide) (pc' := 130) rfl ?_
      refine Jvm.OwnWp.iconst K (1 : Int32) at_130 (by decide) (pc' := 131) rfl ?_
      refine goto' K at_131 (pc' := 135) (by decide) (by decide) ?_
      refine Jvm.OwnWp.istore K at_135 (Ls' := #[.val (.int p0), .val (.int p1), .val (.int p2), .val (.int p3), .val (.int p4), .val (.int p5), .val (.int (3 : Int32)), .val (.int (1 : Int32)), .val (.double (FP.i2d ((p5 <<< ((28 : Int32) &&& 31)) >>> ((28 : Int32) &&& 31)))), .second, .val (.double (FP.i2d ((p5 <<< ((24 : Int32) &&& 31)) >>> ((28 : Int32) &&& 31)))), .second, .val (.double (FP.i2d ((p5 <<< ((20 : Int32) &&& 31)) >>> ((28 : Int32) &&& 31)))), .second, .val (.ref b71), .val (.int (1 : Int32))]) rfl (pc' := 137) rfl ?_
      refine Jvm.OwnWp.iload K at_137 rfl (pc' := 139) rfl ?_
      refine Jvm.OwnWp.iconst K (1 : Int32) at_139 (by decide) (pc' := 140) rfl ?_
      refine icN K at_140 (by decide) (pc' := 143) rfl ?_
      refine Jvm.OwnWp.aload K at_143 rfl rfl (pc' := 145) rfl ?_
      refine callVirt K (y := (⟨"com/example/routeloom/routeloom/MinQueue", "removeMin", "()I"⟩ : MethodName)) (b := b71) (argsL := []) (S := []) (wd27 hw) (wd28 hw) (wd30 hw) (wd29 hw) (wd2 hw) (wd31 hw) (by decide) Q76_E (c_rem l Z a0 hw [] b71 ks is 3 ((((0 : Int32) + (1 : Int32)) + (1 : Int32)) + (1 : Int32)) U76.1 U76.2 h76 n0 (Nat.le_trans Z0 P76.1) (by decide) (by decide) (by decide) hu76.1 hu76.2 Q76_E Q76_F_keys Q76_F_items Q76_F_size Q76_VK Q76_VI (Ne.symm ne_b71_ks) (Ne.symm ne_b71_is) ne_is_ks ge_b71 ge_ks ge_is) (lenOf pd3 rfl) at_145 rfl (Nat.le_of_ble_eq_true rfl) (Nat.le_of_ble_eq_true rfl) (Nat.le_of_ble_eq_true rfl) (Nat.le_of_ble_eq_true rfl) rfl (pc' := 148) rfl ?_
      rintro v78 h78 ⟨rfl, K78, Q78_E, Q78_F_keys, Q78_F_items, Q78_F_size, Q78_VK, Q78_VI⟩
      have X78_b71 := (Exa.keep Q76_E K78)
      have P78 := (P76.trans K78 (allS (Or.inr lt_b71) (allS (Or.inr lt_ks) (allS (Or.inr lt_is) (all0)))))
      have hu78 := down_len (n := 3 - 1) (key := U76.1.getD (3 - 1) 0) (item := U76.2.getD (3 - 1) 0) _ 0 U76.1 U76.2 (Nat.le_refl _)
      rw [hu76.1, hu76.2] at hu78
      generalize down (3 - 1) (U76.1.getD (3 - 1) 0) (U76.2.getD (3 - 1) 0) U76.1 U76.2 0 = U78 at hu78 Q78_VK Q78_VI
      show Go _ _ _ _ _ _ _ _ _ _ _ h78 3 131 (mkF m 148 #[.val (.int p0), .val (.int p1), .val (.int p2), .val (.int p3), .val (.int p4), .val (.int p5), .val (.int (3 : Int32)), .val (.int (1 : Int32)), .val (.double (FP.i2d ((p5 <<< ((28 : Int32) &&& 31)) >>> ((28 : Int32) &&& 31)))), .second, .val (.double (FP.i2d ((p5 <<< ((24 : Int32) &&& 31)) >>> ((28 : Int32) &&& 31)))), .second, .val (.double (FP.i2d ((p5 <<< ((20 : Int32) &&& 31)) >>> ((28 : Int32) &&& 31)))), .second, .val (.ref b71), .val (.int (1 : Int32))] [(.int (U76.2.getD 0 0))]) _
      refine Jvm.OwnWp.pop K at_148 rfl (pc' := 149) rfl ?_
      refine Jvm.OwnWp.iload K at_149 rfl (pc' := 151) rfl ?_
      refine Jvm.OwnWp.iconst K (2 : Int32) at_151 (by decide) (pc' := 152) rfl ?_
      refine icY K at_152 (by decide) (pc' := 161) (by decide) (by decide) ?_
      refine Jvm.OwnWp.iload K at_161 rfl (pc' := 163) rfl ?_
      refine Jvm.OwnWp.iconst K (3 : Int32) at_163 (by decide) (pc' := 164) rfl ?_
      refine icY K at_164 (by decide) (pc' := 173) (by decide) (by decide) ?_
      refine Jvm.OwnWp.iload K at_173 rfl (pc' := 175) rfl ?_
      refine ifN K at_175 (by decide) (pc' := 178) rfl ?_
      refine Jvm.OwnWp.aload K at_178 rfl rfl (pc' := 180) rfl ?_
      refine callVirt K (y := (⟨"com/example/routeloom/routeloom/MinQueue", "isEmpty", "()Z"⟩ : MethodName)) (b := b71) (argsL := []) (S := []) (wd15 hw) (wd16 hw) (wd18 hw) (wd17 hw) (wd2 hw) (wd19 hw) (by decide) Q78_E (c_empty l Z a0 hw [] b71 (((((0 : Int32) + (1 : Int32)) + (1 : Int32)) + (1 : Int32)) - (1 : Int32)) h78 n0 (Nat.le_trans Z0 P78.1) Q78_F_size) (lenOf pd1 rfl) at_180 rfl (Nat.le_of_ble_eq_true rfl) (Nat.le_of_ble_eq_true rfl) (Nat.le_of_ble_eq_true rfl) (Nat.le_of_ble_eq_true rfl) rfl (pc' := 183) rfl ?_
      rintro v79 h79 ⟨rfl, rfl⟩
      show Go _ _ _ _ _ _ _ _ _ _ _ h78 3 131 (mkF m 183 #[.val (.int p0), .val (.int p1), .val (.int p2), .val (.int p3), .val (.int p4), .val (.int p5), .val (.int (3 : Int32)), .val (.int (1 : Int32)), .val (.double (FP.i2d ((p5 <<< ((28 : Int32) &&& 31)) >>> ((28 : Int32) &&& 31)))), .second, .val (.double (FP.i2d ((p5 <<< ((24 : Int32) &&& 31)) >>> ((28 : Int32) &&& 31)))), .second, .val (.double (FP.i2d ((p5 <<< ((20 : Int32) &&& 31)) >>> ((28 : Int32) &&& 31)))), .second, .val (.ref b71), .val (.int (1 : Int32))] [(.int (0 : Int32))]) _
      refine Jvm.OwnWp.iload K at_183 rfl (pc' := 185) rfl ?_
      refine Jvm.OwnWp.iload K at_185 rfl (pc' := 187) rfl ?_
      refine Jvm.OwnWp.isub K at_187 (pc' := 188) rfl ?_
      refine ifY K at_188 (by decide) (pc' := 195) (by decide) (by decide) ?_
      refine Jvm.OwnWp.iconst K (0 : Int32) at_195 (by decide) (pc' := 196) rfl ?_
      refine icN K at_196 (by decide) (pc' := 199) rfl ?_
      refine Jvm.OwnWp.iconst K (1 : Int32) at_199 (by decide) (pc' := 200) rfl ?_
      refine goto' K at_200 (pc' := 204) (by decide) (by decide) ?_
      refine Jvm.OwnWp.istore K at_204 (Ls' := #[.val (.int p0), .val (.int p1), .val (.int p2), .val (.int p3), .val (.int p4), .val (.int p5), .val (.int (3 : Int32)), .val (.int (1 : Int32)), .val (.double (FP.i2d ((p5 <<< ((28 : Int32) &&& 31)) >>> ((28 : Int32) &&& 31)))), .second, .val (.double (FP.i2d ((p5 <<< ((24 : Int32) &&& 31)) >>> ((28 : Int32) &&& 31)))), .second, .val (.double (FP.i2d ((p5 <<< ((20 : Int32) &&& 31)) >>> ((28 : Int32) &&& 31)))), .second, .val (.ref b71), .val (.int (1 : Int32))]) rfl (pc' := 206) rfl ?_
      refine Jvm.OwnWp.iload K at_206 rfl (pc' := 208) rfl ?_
      refine retB K (t := .boolean) rfl (by simp) at_208 (Nat.le_of_ble_eq_true rfl) (Nat.le_of_ble_eq_true rfl) ?_
      rfl
    · refine Jvm.OwnWp.istore K at_13 (Ls' := #[.val (.int p0), .val (.int p1), .val (.int p2), .val (.int p3), .val (.int p4), .val (.int p5), .val (.int (3 : Int32)), .val (.int (2 : Int32)), .unset, .unset, .unset, .unset, .unset, .unset, .unset, .unset]) rfl (pc' := 15) rfl ?_
      refine Jvm.OwnWp.iload K at_15 rfl (pc' := 17) rfl ?_
      refine Jvm.OwnWp.bipush K (28 : Int32) at_17 (by decide) (pc' := 19) rfl ?_
      refine Jvm.OwnWp.ishl K at_19 (pc' := 20) rfl ?_
      refine Jvm.OwnWp.bipush K (28 : Int32) at_20 (by decide) (pc' := 22) rfl ?_
      refine Jvm.OwnWp.ishr K at_22 (pc' := 23) rfl ?_
      refine Jvm.OwnWp.i2d K at_23 (pc' := 24) rfl ?_
      refine Jvm.OwnWp.dstore K at_24 (Ls' := #[.val (.int p0), .val (.int p1), .val (.int p2), .val (.int p3), .val (.int p4), .val (.int p5), .val (.int (3 : Int32)), .val (.int (2 : Int32)), .val (.double (FP.i2d ((p5 <<< ((28 : Int32) &&& 31)) >>> ((28 : Int32) &&& 31)))), .second, .unset, .unset, .unset, .unset, .unset, .unset]) rfl (pc' := 26) rfl ?_
      refine Jvm.OwnWp.iload K at_26 rfl (pc' := 28) rfl ?_
      refine Jvm.OwnWp.bipush K (24 : Int32) at_28 (by decide) (pc' := 30) rfl ?_
      refine Jvm.OwnWp.ishl K at_30 (pc' := 31) rfl ?_
      refine Jvm.OwnWp.bipush K (28 : Int32) at_31 (by decide) (pc' := 33) rfl ?_
      refine Jvm.OwnWp.ishr K at_33 (pc' := 34) rfl ?_
      refine Jvm.OwnWp.i2d K at_34 (pc' := 35) rfl ?_
      refine Jvm.OwnWp.dstore K at_35 (Ls' := #[.val (.int p0), .val (.int p1), .val (.int p2), .val (.int p3), .val (.int p4), .val (.int p5), .val (.int (3 : Int32)), .val (.int (2 : Int32)), .val (.double (FP.i2d ((p5 <<< ((28 : Int32) &&& 31)) >>> ((28 : Int32) &&& 31)))), .second, .val (.double (FP.i2d ((p5 <<< ((24 : Int32) &&& 31)) >>> ((28 : Int32) &&& 31)))), .second, .unset, .unset, .unset, .unset]) rfl (pc' := 37) rfl ?_
      refine Jvm.OwnWp.iload K at_37 rfl (pc' := 39) rfl ?_
      refine Jvm.OwnWp.bipush K (20 : Int32) at_39 (by decide) (pc' := 41) rfl ?_
      refine Jvm.OwnWp.ishl K at_41 (pc' := 42) rfl ?_
      refine Jvm.OwnWp.bipush K (28 : Int32) at_42 (by decide) (pc' := 44) rfl ?_
      refine Jvm.OwnWp.ishr K at_44 (pc' := 45) rfl ?_
      refine Jvm.OwnWp.i2d K at_45 (pc' := 46) rfl ?_
      refine Jvm.OwnWp.dstore K at_46 (Ls' := #[.val (.int p0), .val (.int p1), .val (.int p2), .val (.int p3), .val (.int p4), .val (.int p5), .val (.int (3 : Int32)), .val (.int (2 : Int32)), .val (.double (FP.i2d ((p5 <<< ((28 : Int32) &&& 31)) >>> ((28 : Int32) &&& 31)))), .second, .val (.double (FP.i2d ((p5 <<< ((24 : Int32) &&& 31)) >>> ((28 : Int32) &&& 31)))), .second, .val (.double (FP.i2d ((p5 <<< ((20 : Int32) &&& 31)) >>> ((28 : Int32) &&& 31)))), .second, .unset, .unset]) rfl (pc' := 48) rfl ?_
      refine newObj K (wd0 hw) (wd1 hw) (wd2 hw) at_48 (by decide) (by decide) (pc' := 51) rfl ?_
      intro h80 b80 g80 E80 A80 D80
      have lt_b80 : h0.size ≤ b80 := Nat.le_trans P0.1 (Nat.le_of_eq g80.symm)
      have ge_b80 : n0 ≤ b80 := Nat.le_trans Z0 lt_b80
      have P80 := (P0.ext E80)
      have F80_keys_b80 : Fld Z h80 b80 "com/example/routeloom/routeloom/MinQueue" "keys" "[D" .null := D80 (Or.inl (wd11 hw)) (ty := (.array .double)) (by decide)
      have F80_items_b80 : Fld Z h80 b80 "com/example/routeloom/routeloom/MinQueue" "items" "[I" .null := D80 (Or.inl (wd14 hw)) (ty := (.array .int)) (by decide)
      have F80_size_b80 : Fld Z h80 b80 "com/example/routeloom/routeloom/MinQueue" "size" "I" (.int (0 : Int32)) := D80 (Or.inl (wd21 hw)) (ty := .int) (by decide)
      refine Jvm.OwnWp.dup K at_51 rfl (pc' := 52) rfl ?_
      refine callInit K (y := (⟨"com/example/routeloom/routeloom/MinQueue", "<init>", "()V"⟩ : MethodName)) (b := b80) (argsL := []) (S := [(.ref b80)]) rfl (wd3 hw) (wd4 hw) (wd2 hw) (wd5 hw) rfl (by decide) (c_init l Z a0 hw [] b80 h80 n0 (Nat.le_trans Z0 P80.1) A80 ge_b80 F80_keys_b80 F80_items_b80 F80_size_b80) (lenOf pd0 rfl) at_52 rfl (Nat.le_of_ble_eq_true rfl) (Nat.le_of_ble_eq_true rfl) (Nat.le_of_ble_eq_true rfl) (Nat.le_of_ble_eq_true rfl) rfl (pc' := 55) rfl ?_
      rintro v81 h81 ⟨rfl, K81, ks, is, lk81, li81, ne_is_ks, Q81_F_keys, Q81_F_items, Q81_F_size, Q81_VK, Q81_VI⟩
      have ne_b80_ks : b80 ≠ ks := Nat.ne_of_lt (Nat.lt_of_lt_of_le (Exa.lt A80) lk81)
      have lt_ks : h0.size ≤ ks := Nat.le_trans P80.1 lk81
      have ge_ks : n0 ≤ ks := Nat.le_trans Z0 lt_ks
      have ne_b80_is : b80 ≠ is := Nat.ne_of_lt (Nat.lt_of_lt_of_le (Exa.lt A80) li81)
      have lt_is : h0.size ≤ is := Nat.le_trans P80.1 li81
      have ge_is : n0 ≤ is := Nat.le_trans Z0 lt_is
      have X81_b80 := (Exa.keep A80 K81)
      have P81 := (P80.trans K81 (allS (Or.inr lt_b80) (all0)))
      show Go _ _ _ _ _ _ _ _ _ _ _ h81 3 131 (mkF m 55 #[.val (.int p0), .val (.int p1), .val (.int p2), .val (.int p3), .val (.int p4), .val (.int p5), .val (.int (3 : Int32)), .val (.int (2 : Int32)), .val (.double (FP.i2d ((p5 <<< ((28 : Int32) &&& 31)) >>> ((28 : Int32) &&& 31)))), .second, .val (.double (FP.i2d ((p5 <<< ((24 : Int32) &&& 31)) >>> ((28 : Int32) &&& 31)))), .second, .val (.double (FP.i2d ((p5 <<< ((20 : Int32) &&& 31)) >>> ((28 : Int32) &&& 31)))), .second, .unset, .unset] [(.ref b80)]) _
      refine Jvm.OwnWp.astore K at_55 rfl (Ls' := #[.val (.int p0), .val (.int p1), .val (.int p2), .val (.int p3), .val (.int p4), .val (.int p5), .val (.int (3 : Int32)), .val (.int (2 : Int32)), .val (.double (FP.i2d ((p5 <<< ((28 : Int32) &&& 31)) >>> ((28 : Int32) &&& 31)))), .second, .val (.double (FP.i2d ((p5 <<< ((24 : Int32) &&& 31)) >>> ((28 : Int32) &&& 31)))), .second, .val (.double (FP.i2d ((p5 <<< ((20 : Int32) &&& 31)) >>> ((28 : Int32) &&& 31)))), .second, .val (.ref b80), .unset]) rfl (pc' := 57) rfl ?_
      refine Jvm.OwnWp.aload K at_57 rfl rfl (pc' := 59) rfl ?_
      refine callVirt K (y := (⟨"com/example/routeloom/routeloom/MinQueue", "isEmpty", "()Z"⟩ : MethodName)) (b := b80) (argsL := []) (S := []) (wd15 hw) (wd16 hw) (wd18 hw) (wd17 hw) (wd2 hw) (wd19 hw) (by decide) X81_b80 (c_empty l Z a0 hw [] b80 (0 : Int32) h81 n0 (Nat.le_trans Z0 P81.1) Q81_F_size) (lenOf pd1 rfl) at_59 rfl (Nat.le_of_ble_eq_true rfl) (Nat.le_of_ble_eq_true rfl) (Nat.le_of_ble_eq_true rfl) (Nat.le_of_ble_eq_true rfl) rfl (pc' := 62) rfl ?_
      rintro v82 h82 ⟨rfl, rfl⟩
      show Go _ _ _ _ _ _ _ _ _ _ _ h81 3 131 (mkF m 62 #[.val (.int p0), .val (.int p1), .val (.int p2), .val (.int p3), .val (.int p4), .val (.int p5), .val (.int (3 : Int32)), .val (.int (2 : Int32)), .val (.double (FP.i2d ((p5 <<< ((28 : Int32) &&& 31)) >>> ((28 : Int32) &&& 31)))), .second, .val (.double (FP.i2d ((p5 <<< ((24 : Int32) &&& 31)) >>> ((28 : Int32) &&& 31)))), .second, .val (.double (FP.i2d ((p5 <<< ((20 : Int32) &&& 31)) >>> ((28 : Int32) &&& 31)))), .second, .val (.ref b80), .unset] [(.int (1 : Int32))]) _
      refine Jvm.OwnWp.istore K at_62 (Ls' := #[.val (.int p0), .val (.int p1), .val (.int p2), .val (.int p3), .val (.int p4), .val (.int p5), .val (.int (3 : Int32)), .val (.int (2 : Int32)), .val (.double (FP.i2d ((p5 <<< ((28 : Int32) &&& 31)) >>> ((28 : Int32) &&& 31)))), .second, .val (.double (FP.i2d ((p5 <<< ((24 : Int32) &&& 31)) >>> ((28 : Int32) &&& 31)))), .second, .val (.double (FP.i2d ((p5 <<< ((20 : Int32) &&& 31)) >>> ((28 : Int32) &&& 31)))), .second, .val (.ref b80), .val (.int (1 : Int32))]) rfl (pc' := 64) rfl ?_
      refine Jvm.OwnWp.iload K at_64 rfl (pc' := 66) rfl ?_
      refine Jvm.OwnWp.iconst K (1 : Int32) at_66 (by decide) (pc' := 67) rfl ?_
      refine icN K at_67 (by decide) (pc' := 70) rfl ?_
      refine Jvm.OwnWp.aload K at_70 rfl rfl (pc' := 72) rfl ?_
      refine Jvm.OwnWp.iloadN K at_72 rfl (pc' := 73) rfl ?_
      refine Jvm.OwnWp.dload K at_73 rfl (pc' := 75) rfl ?_
      refine callVirt K (y := (⟨"com/example/routeloom/routeloom/MinQueue", "add", "(ID)V"⟩ : MethodName)) (b := b80) (argsL := [(.int p2), (.double (FP.i2d ((p5 <<< ((28 : Int32) &&& 31)) >>> ((28 : Int32) &&& 31))))]) (S := []) (wd22 hw) (wd23 hw) (wd25 hw) (wd24 hw) (wd2 hw) (wd26 hw) (by decide) X81_b80 (c_add l Z a0 hw [] b80 ks is p2 (FP.i2d ((p5 <<< ((28 : Int32) &&& 31)) >>> ((28 : Int32) &&& 31))) 0 (0 : Int32) (List.replicate 64 0) (List.replicate 64 0) h81 n0 (Nat.le_trans Z0 P81.1) (by decide) (by decide) (List.length_replicate ..) (List.length_replicate ..) X81_b80 Q81_F_keys Q81_F_items Q81_F_size Q81_VK Q81_VI (Ne.symm ne_b80_ks) (Ne.symm ne_b80_is) ne_is_ks ge_b80 ge_ks ge_is) (lenOf pd2 rfl) at_75 rfl (Nat.le_of_ble_eq_true rfl) (Nat.le_of_ble_eq_true rfl) (Nat.le_of_ble_eq_true rfl) (Nat.le_of_ble_eq_true rfl) rfl (pc' := 78) rfl ?_
      rintro v83 h83 ⟨rfl, K83, Q83_E, Q83_F_keys, Q83_F_items, Q83_F_size, Q83_VK, Q83_VI⟩
      have X83_b80 := (Exa.keep X81_b80 K83)
      have P83 := (P81.trans K83 (allS (Or.inr lt_b80) (allS (Or.inr lt_ks) (allS (Or.inr lt_is) (all0)))))
      have hu83 := up_len (key := (FP.i2d ((p5 <<< ((28 : Int32) &&& 31)) >>> ((28 : Int32) &&& 31)))) (item := p2) 0 (List.replicate 64 0) (List.replicate 64 0)
      rw [List.length_replicate, List.length_replicate] at hu83
      generalize up (FP.i2d ((p5 <<< ((28 : Int32) &&& 31)) >>> ((28 : Int32) &&& 31))) p2 (List.replicate 64 0) (List.replicate 64 0) 0 = U83 at hu83 Q83_VK Q83_VI
      show Go _ _ _ _ _ _ _ _ _ _ _ h83 3 131 (mkF m 78 #[.val (.int p0), .val (.int p1), .val (.int p2), .val (.int p3), .val (.int p4), .val (.int p5), .val (.int (3 : Int32)), .val (.int (2 : Int32)), .val (.double (FP.i2d ((p5 <<< ((28 : Int32) &&& 31)) >>> ((28 : Int32) &&& 31)))), .second, .val (.double (FP.i2d ((p5 <<< ((24 : Int32) &&& 31)) >>> ((28 : Int32) &&& 31)))), .second, .val (.double (FP.i2d ((p5 <<< ((20 : Int32) &&& 31)) >>> ((28 : Int32) &&& 31)))), .second, .val (.ref b80), .val (.int (1 : Int32))] []) _
      refine Jvm.OwnWp.iload K at_78 rfl (pc' := 80) rfl ?_
      refine Jvm.OwnWp.iconst K (2 : Int32) at_80 (by decide) (pc' := 81) rfl ?_
      refine icN K at_81 (by decide) (pc' := 84) rfl ?_
      refine Jvm.OwnWp.aload K at_84 rfl rfl (pc' := 86) rfl ?_
      refine Jvm.OwnWp.iloadN K at_86 rfl (pc' := 87) rfl ?_
      refine Jvm.OwnWp.dload K at_87 rfl (pc' := 89) rfl ?_
      refine callVirt K (y := (⟨"com/example/routeloom/routeloom/MinQueue", "add", "(ID)V"⟩ : MethodName)) (b := b80) (argsL := [(.int p3), (.double (FP.i2d ((p5 <<< ((24 : Int32) &&& 31)) >>> ((28 : Int32) &&& 31))))]) (S := []) (wd22 hw) (wd23 hw) (wd25 hw) (wd24 hw) (wd2 hw) (wd26 hw) (by decide) Q83_E (c_add l Z a0 hw [] b80 ks is p3 (FP.i2d ((p5 <<< ((24 : Int32) &&& 31)) >>> ((28 : Int32) &&& 31))) 1 ((0 : Int32) + (1 : Int32)) U83.1 U83.2 h83 n0 (Nat.le_trans Z0 P83.1) (by decide) (by decide) hu83.1 hu83.2 Q83_E Q83_F_keys Q83_F_items Q83_F_size Q83_VK Q83_VI (Ne.symm ne_b80_ks) (Ne.symm ne_b80_is) ne_is_ks ge_b80 ge_ks ge_is) (lenOf pd2 rfl) at_89 rfl (Nat.le_of_ble_eq_true rfl) (Nat.le_of_ble_eq_true rfl) (Nat.le_of_ble_eq_true rfl) (Nat.le_of_ble_eq_true rfl) rfl (pc' := 92) rfl ?_
      rintro v84 h84 ⟨rfl, K84, Q84_E, Q84_F_keys, Q84_F_items, Q84_F_size, Q84_VK, Q84_VI⟩
      have X84_b80 := (Exa.keep Q83_E K84)
      have P84 := (P83.trans K84 (allS (Or.inr lt_b80) (allS (Or.inr lt_ks) (allS (Or.inr lt_is) (all0)))))
      have hu84 := up_len (key := (FP.i2d ((p5 <<< ((24 : Int32) &&& 31)) >>> ((28 : Int32) &&& 31)))) (item := p3) 1 U83.1 U83.2
      rw [hu83.1, hu83.2] at hu84
      generalize up (FP.i2d ((p5 <<< ((24 : Int32) &&& 31)) >>> ((28 : Int32) &&& 31))) p3 U83.1 U83.2 1 = U84 at hu84 Q84_VK Q84_VI
      show Go _ _ _ _ _ _ _ _ _ _ _ h84 3 131 (mkF m 92 #[.val (.int p0), .val (.int p1), .val (.int p2), .val (.int p3), .val (.int p4), .val (.int p5), .val (.int (3 : Int32)), .val (.int (2 : Int32)), .val (.double (FP.i2d ((p5 <<< ((28 : Int32) &&& 31)) >>> ((28 : Int32) &&& 31)))), .second, .val (.double (FP.i2d ((p5 <<< ((24 : Int32) &&& 31)) >>> ((28 : Int32) &&& 31)))), .second, .val (.double (FP.i2d ((p5 <<< ((20 : Int32) &&& 31)) >>> ((28 : Int32) &&& 31)))), .second, .val (.ref b80), .val (.int (1 : Int32))] []) _
      refine Jvm.OwnWp.iload K at_92 rfl (pc' := 94) rfl ?_
      refine Jvm.OwnWp.iconst K (3 : Int32) at_94 (by decide) (pc' := 95) rfl ?_
      refine icN K at_95 (by decide) (pc' := 98) rfl ?_
      refine Jvm.OwnWp.aload K at_98 rfl rfl (pc' := 100) rfl ?_
      refine Jvm.OwnWp.iload K at_100 rfl (pc' := 102) rfl ?_
      refine Jvm.OwnWp.dload K at_102 rfl (pc' := 104) rfl ?_
      refine callVirt K (y := (⟨"com/example/routeloom/routeloom/MinQueue", "add", "(ID)V"⟩ : MethodName)) (b := b80) (argsL := [(.int p4), (.double (FP.i2d ((p5 <<< ((20 : Int32) &&& 31)) >>> ((28 : Int32) &&& 31))))]) (S := []) (wd22 hw) (wd23 hw) (wd25 hw) (wd24 hw) (wd2 hw) (wd26 hw) (by decide) Q84_E (c_add l Z a0 hw [] b80 ks is p4 (FP.i2d ((p5 <<< ((20 : Int32) &&& 31)) >>> ((28 : Int32) &&& 31))) 2 (((0 : Int32) + (1 : Int32)) + (1 : Int32)) U84.1 U84.2 h84 n0 (Nat.le_trans Z0 P84.1) (by decide) (by decide) hu84.1 hu84.2 Q84_E Q84_F_keys Q84_F_items Q84_F_size Q84_VK Q84_VI (Ne.symm ne_b80_ks) (Ne.symm ne_b80_is) ne_is_ks ge_b80 ge_ks ge_is) (lenOf pd2 rfl) at_104 rfl (Nat.le_of_ble_eq_true rfl) (Nat.le_of_ble_eq_true rfl) (Nat.le_of_ble_eq_true rfl) (Nat.le_of_ble_eq_true rfl) rfl (pc' := 107) rfl ?_
      rintro v85 h85 ⟨rfl, K85, Q85_E, Q85_F_keys, Q85_F_items, Q85_F_size, Q85_VK, Q85_VI⟩
      have X85_b80 := (Exa.keep Q84_E K85)
      have P85 := (P84.trans K85 (allS (Or.inr lt_b80) (allS (Or.inr lt_ks) (allS (Or.inr lt_is) (all0)))))
      have hu85 := up_len (key := (FP.i2d ((p5 <<< ((20 : Int32) &&& 31)) >>> ((28 : Int32) &&& 31)))) (item := p4) 2 U84.1 U84.2
      rw [hu84.1, hu84.2] at hu85
      generalize up (FP.i2d ((p5 <<< ((20 : Int32) &&& 31)) >>> ((28 : Int32) &&& 31))) p4 U84.1 U84.2 2 = U85 at hu85 Q85_VK Q85_VI
      show Go _ _ _ _ _ _ _ _ _ _ _ h85 3 131 (mkF m 107 #[.val (.int p0), .val (.int p1), .val (.int p2), .val (.int p3), .val (.int p4), .val (.int p5), .val (.int (3 : Int32)), .val (.int (2 : Int32)), .val (.double (FP.i2d ((p5 <<< ((28 : Int32) &&& 31)) >>> ((28 : Int32) &&& 31)))), .second, .val (.double (FP.i2d ((p5 <<< ((24 : Int32) &&& 31)) >>> ((28 : Int32) &&& 31)))), .second, .val (.double (FP.i2d ((p5 <<< ((20 : Int32) &&& 31)) >>> ((28 : Int32) &&& 31)))), .second, .val (.ref b80), .val (.int (1 : Int32))] []) _
      refine Jvm.OwnWp.iload K at_107 rfl (pc' := 109) rfl ?_
      refine ifN K at_109 (by decide) (pc' := 112) rfl ?_
      refine Jvm.OwnWp.aload K at_112 rfl rfl (pc' := 114) rfl ?_
      refine callVirt K (y := (⟨"com/example/routeloom/routeloom/MinQueue", "isEmpty", "()Z"⟩ : MethodName)) (b := b80) (argsL := []) (S := []) (wd15 hw) (wd16 hw) (wd18 hw) (wd17 hw) (wd2 hw) (wd19 hw) (by decide) Q85_E (c_empty l Z a0 hw [] b80 ((((0 : Int32) + (1 : Int32)) + (1 : Int32)) + (1 : Int32)) h85 n0 (Nat.le_trans Z0 P85.1) Q85_F_size) (lenOf pd1 rfl) at_114 rfl (Nat.le_of_ble_eq_true rfl) (Nat.le_of_ble_eq_true rfl) (Nat.le_of_ble_eq_true rfl) (Nat.le_of_ble_eq_true rfl) rfl (pc' := 117) rfl ?_
      rintro v86 h86 ⟨rfl, rfl⟩
      show Go _ _ _ _ _ _ _ _ _ _ _ h85 3 131 (mkF m 117 #[.val (.int p0), .val (.int p1), .val (.int p2), .val (.int p3), .val (.int p4), .val (.int p5), .val (.int (3 : Int32)), .val (.int (2 : Int32)), .val (.double (FP.i2d ((p5 <<< ((28 : Int32) &&& 31)) >>> ((28 : Int32) &&& 31)))), .second, .val (.double (FP.i2d ((p5 <<< ((24 : Int32) &&& 31)) >>> ((28 : Int32) &&& 31)))), .second, .val (.double (FP.i2d ((p5 <<< ((20 : Int32) &&& 31)) >>> ((28 : Int32) &&& 31)))), .second, .val (.ref b80), .val (.int (1 : Int32))] [(.int (0 : Int32))]) _
      refine Jvm.OwnWp.iload K at_117 rfl (pc' := 119) rfl ?_
      refine ifY K at_119 (by decide) (pc' := 126) (by decide) (by decide) ?_
      refine Jvm.OwnWp.iconst K (0 : Int32) at_126 (by decide) (pc' := 127) rfl ?_
      refine icN K at_127 (by decide) (pc' := 130) rfl ?_
      refine Jvm.OwnWp.iconst K (1 : Int32) at_130 (by decide) (pc' := 131) rfl ?_
      refine goto' K at_131 (pc' := 135) (by decide) (by decide) ?_
      refine Jvm.OwnWp.istore K at_135 (Ls' := #[.val (.int p0), .val (.int p1), .val (.int p2), .val (.int p3), .val (.int p4), .val (.int p5), .val (.int (3 : Int32)), .val (.int (2 : Int32)), .val (.double (FP.i2d ((p5 <<< ((28 : Int32) &&& 31)) >>> ((28 : Int32) &&& 31)))), .second, .val (.double (FP.i2d ((p5 <<< ((24 : Int32) &&& 31)) >>> ((28 : Int32) &&& 31)))), .second, .val (.double (FP.i2d ((p5 <<< ((20 : Int32) &&& 31)) >>> ((28 : Int32) &&& 31)))), .second, .val (.ref b80), .val (.int (1 : Int32))]) rfl (pc' := 137) rfl ?_
      refine Jvm.OwnWp.iload K at_137 rfl (pc' := 139) rfl ?_
      refine Jvm.OwnWp.iconst K (1 : Int32) at_139 (by decide) (pc' := 140) rfl ?_
      refine icN K at_140 (by decide) (pc' := 143) rfl ?_
      refine Jvm.OwnWp.aload K at_143 rfl rfl (pc' := 145) rfl ?_
      refine callVirt K (y := (⟨"com/example/routeloom/routeloom/MinQueue", "removeMin", "()I"⟩ : MethodName)) (b := b80) (argsL := []) (S := []) (wd27 hw) (wd28 hw) (wd30 hw) (wd29 hw) (wd2 hw) (wd31 hw) (by decide) Q85_E (c_rem l Z a0 hw [] b80 ks is 3 ((((0 : Int32) + (1 : Int32)) + (1 : Int32)) + (1 : Int32)) U85.1 U85.2 h85 n0 (Nat.le_trans Z0 P85.1) (by decide) (by decide) (by decide) hu85.1 hu85.2 Q85_E Q85_F_keys Q85_F_items Q85_F_size Q85_VK Q85_VI (Ne.symm ne_b80_ks) (Ne.symm ne_b80_is) ne_is_ks ge_b80 ge_ks ge_is) (lenOf pd3 rfl) at_145 rfl (Nat.le_of_ble_eq_true rfl) (Nat.le_of_ble_eq_true rfl) (Nat.le_of_ble_eq_true rfl) (Nat.le_of_ble_eq_true rfl) rfl (pc' := 148) rfl ?_
      rintro v87 h87 ⟨rfl, K87, Q87_E, Q87_F_keys, Q87_F_items, Q87_F_size, Q87_VK, Q87_VI⟩
      have X87_b80 := (Exa.keep Q85_E K87)
      have P87 := (P85.trans K87 (allS (Or.inr lt_b80) (allS (Or.inr lt_ks) (allS (Or.inr lt_is) (all0)))))
      have hu87 := down_len (n := 3 - 1) (key := U85.1.getD (3 - 1) 0) (item := U85.2.getD (3 - 1) 0) _ 0 U85.1 U85.2 (Nat.le_refl _)
      rw [hu85.1, hu85.2] at hu87
      generalize down (3 - 1) (U85.1.getD (3 - 1) 0) (U85.2.getD (3 - 1) 0) U85.1 U85.2 0 = U87 at hu87 Q87_VK Q87_VI
      show Go _ _ _ _ _ _ _ _ _ _ _ h87 3 131 (mkF m 148 #[.val (.int p0), .val (.int p1), .val (.int p2), .val (.int p3), .val (.int p4), .val (.int p5), .val (.int (3 : Int32)), .val (.int (2 : Int32)), .val (.double (FP.i2d ((p5 <<< ((28 : Int32) &&& 31)) >>> ((28 : Int32) &&& 31)))), .second, .val (.double (FP.i2d ((p5 <<< ((24 : Int32) &&& 31)) >>> ((28 : Int32) &&& 31)))), .second, .val (.double (FP.i2d ((p5 <<< ((20 : Int32) &&& 31)) >>> ((28 : Int32) &&& 31)))), .second, .val (.ref b80), .val (.int (1 : Int32))] [(.int (U85.2.getD 0 0))]) _
      refine Jvm.OwnWp.pop K at_148 rfl (pc' := 149) rfl ?_
      refine Jvm.OwnWp.iload K at_149 rfl (pc' := 151) rfl ?_
      refine Jvm.OwnWp.iconst K (2 : Int32) at_151 (by decide) (pc' := 152) rfl ?_
      refine icN K at_152 (by decide) (pc' := 155) rfl ?_
      refine Jvm.OwnWp.aload K at_155 rfl rfl (pc' := 157) rfl ?_
      refine callVirt K (y := (⟨"com/example/routeloom/routeloom/MinQueue", "removeMin", "()I"⟩ : MethodName)) (b := b80) (argsL := []) (S := []) (wd27 hw) (wd28 hw) (wd30 hw) (wd29 hw) (wd2 hw) (wd31 hw) (by decide) Q87_E (c_rem l Z a0 hw [] b80 ks is 2 (((((0 : Int32) + (1 : Int32)) + (1 : Int32)) + (1 : Int32)) - (1 : Int32)) U87.1 U87.2 h87 n0 (Nat.le_trans Z0 P87.1) (by decide) (by decide) (by decide) hu87.1 hu87.2 Q87_E Q87_F_keys Q87_F_items Q87_F_size Q87_VK Q87_VI (Ne.symm ne_b80_ks) (Ne.symm ne_b80_is) ne_is_ks ge_b80 ge_ks ge_is) (lenOf pd3 rfl) at_157 rfl (Nat.le_of_ble_eq_true rfl) (Nat.le_of_ble_eq_true rfl) (Nat.le_of_ble_eq_true rfl) (Nat.le_of_ble_eq_true rfl) rfl (pc' := 160) rfl ?_
      rintro v88 h88 ⟨rfl, K88, Q88_E, Q88_F_keys, Q88_F_items, Q88_F_size, Q88_VK, Q88_VI⟩
      have X88_b80 := (Exa.keep Q87_E K88)
      have P88 := (P87.trans K88 (allS (Or.inr lt_b80) (allS (Or.inr lt_ks) (allS (Or.inr lt_is) (all0)))))
      have hu88 := down_len (n := 2 - 1) (key := U87.1.getD (2 - 1) 0) (item := U87.2.getD (2 - 1) 0) _ 0 U87.1 U87.2 (Nat.le_refl _)
      rw [hu87.1, hu87.2] at hu88
      generalize down (2 - 1) (U87.1.getD (2 - 1) 0) (U87.2.getD (2 - 1) 0) U87.1 U87.2 0 = U88 at hu88 Q88_VK Q88_VI
      show Go _ _ _ _ _ _ _ _ _ _ _ h88 3 131 (mkF m 160 #[.val (.int p0), .val (.int p1), .val (.int p2), .val (.int p3), .val (.int p4), .val (.int p5), .val (.int (3 : Int32)), .val (.int (2 : Int32)), .val (.double (FP.i2d ((p5 <<< ((28 : Int32) &&& 31)) >>> ((28 : Int32) &&& 31)))), .second, .val (.double (FP.i2d ((p5 <<< ((24 : Int32) &&& 31)) >>> ((28 : Int32) &&& 31)))), .second, .val (.double (FP.i2d ((p5 <<< ((20 : Int32) &&& 31)) >>> ((28 : Int32) &&& 31)))), .second, .val (.ref b80), .val (.int (1 : Int32))] [(.int (U87.2.getD 0 0))]) _
      refine Jvm.OwnWp.pop K at_160 rfl (pc' := 161) rfl ?_
      refine Jvm.OwnWp.iload K at_161 rfl (pc' := 163) rfl ?_
      refine Jvm.OwnWp.iconst K (3 : Int32) at_163 (by decide) (pc' := 164) rfl ?_
      refine icY K at_164 (by decide) (pc' := 173) (by decide) (by decide) ?_
      refine Jvm.OwnWp.iload K at_173 rfl (pc' := 175) rfl ?_
      refine ifN K at_175 (by decide) (pc' := 178) rfl ?_
      refine Jvm.OwnWp.aload K at_178 rfl rfl (pc' := 180) rfl ?_
      refine callVirt K (y := (⟨"com/example/routeloom/routeloom/MinQueue", "isEmpty", "()Z"⟩ : MethodName)) (b := b80) (argsL := []) (S := []) (wd15 hw) (wd16 hw) (wd18 hw) (wd17 hw) (wd2 hw) (wd19 hw) (by decide) Q88_E (c_empty l Z a0 hw [] b80 ((((((0 : Int32) + (1 : Int32)) + (1 : Int32)) + (1 : Int32)) - (1 : Int32)) - (1 : Int32)) h88 n0 (Nat.le_trans Z0 P88.1) Q88_F_size) (lenOf pd1 rfl) at_180 rfl (Nat.le_of_ble_eq_true rfl) (Nat.le_of_ble_eq_true rfl) (Nat.le_of_ble_eq_true rfl) (Nat.le_of_ble_eq_true rfl) rfl (pc' := 183) rfl ?_
      rintro v89 h89 ⟨rfl, rfl⟩
      show Go _ _ _ _ _ _ _ _ _ _ _ h88 3 131 (mkF m 183 #[.val (.int p0), .val (.int p1), .val (.int p2), .val (.int p3), .val (.int p4), .val (.int p5), .val (.int (3 : Int32)), .val (.int (2 : Int32)), .val (.double (FP.i2d ((p5 <<< ((28 : Int32) &&& 31)) >>> ((28 : Int32) &&& 31)))), .second, .val (.double (FP.i2d ((p5 <<< ((24 : Int32) &&& 31)) >>> ((28 : Int32) &&& 31)))), .second, .val (.double (FP.i2d ((p5 <<< ((20 : Int32) &&& 31)) >>> ((28 : Int32) &&& 31)))), .second, .val (.ref b80), .val (.int (1 : Int32))] [(.int (0 : Int32))]) _
      refine Jvm.OwnWp.iload K at_183 rfl (pc' := 185) rfl ?_
      refine Jvm.OwnWp.iload K at_185 rfl (pc' := 187) rfl ?_
      refine Jvm.OwnWp.isub K at_187 (pc' := 188) rfl ?_
      refine ifY K at_188 (by decide) (pc' := 195) (by decide) (by decide) ?_
      refine Jvm.OwnWp.iconst K (0 : Int32) at_195 (by decide) (pc' := 196) rfl ?_
      refine icN K at_196 (by decide) (pc' := 199) rfl ?_
      refine Jvm.OwnWp.iconst K (1 : Int32) at_199 (by decide) (pc' := 200) rfl ?_
      refine goto' K at_200 (pc' := 204) (by decide) (by decide) ?_
      refine Jvm.OwnWp.istore K at_204 (Ls' := #[.val (.int p0), .val (.int p1), .val (.int p2), .val (.int p3), .val (.int p4), .val (.int p5), .val (.int (3 : Int32)), .val (.int (2 : Int32)), .val (.double (FP.i2d ((p5 <<< ((28 : Int32) &&& 31)) >>> ((28 : Int32) &&& 31)))), .second, .val (.double (FP.i2d ((p5 <<< ((24 : Int32) &&& 31)) >>> ((28 : Int32) &&& 31)))), .second, .val (.double (FP.i2d ((p5 <<< ((20 : Int32) &&& 31)) >>> ((28 : Int32) &&& 31)))), .second, .val (.ref b80), .val (.int (1 : Int32))]) rfl (pc' := 206) rfl ?_
      refine Jvm.OwnWp.iload K at_206 rfl (pc' := 208) rfl ?_
      refine retB K (t := .boolean) rfl (by simp) at_208 (Nat.le_of_ble_eq_true rfl) (Nat.le_of_ble_eq_true rfl) ?_
      rfl
    · refine Jvm.OwnWp.istore K at_13 (Ls' := #[.val (.int p0), .val (.int p1), .val (.int p2), .val (.int p3), .val (.int p4), .val (.int p5), .val (.int (3 : Int32)), .val (.int (3 : Int32)), .unset, .unset, .unset, .unset, .unset, .unset, .unset, .unset]) rfl (pc' := 15) rfl ?_
      refine Jvm.OwnWp.iload K at_15 rfl (pc' := 17) rfl ?_
      refine Jvm.OwnWp.bipush K (28 : Int32) at_17 (by decide) (pc' := 19) rfl ?_
      refine Jvm.OwnWp.ishl K at_19 (pc' := 20) rfl ?_
      refine Jvm.OwnWp.bipush K (28 : Int32) at_20 (by decide) (pc' := 22) rfl ?_
      refine Jvm.OwnWp.ishr K at_22 (pc' := 23) rfl ?_
      refine Jvm.OwnWp.i2d K at_23 (pc' := 24) rfl ?_
      refine Jvm.OwnWp.dstore K at_24 (Ls' := #[.val (.int p0), .val (.int p1), .val (.int p2), .val (.int p3), .val (.int p4), .val (.int p5), .val (.int (3 : Int32)), .val (.int (3 : Int32)), .val (.double (FP.i2d ((p5 <<< ((28 : Int32) &&& 31)) >>> ((28 : Int32) &&& 31)))), .second, .unset, .unset, .unset, .unset, .unset, .unset]) rfl (pc' := 26) rfl ?_
      refine Jvm.OwnWp.iload K at_26 rfl (pc' := 28) rfl ?_
      refine Jvm.OwnWp.bipush K (24 : Int32) at_28 (by decide) (pc' := 30) rfl ?_
      refine Jvm.OwnWp.ishl K at_30 (pc' := 31) rfl ?_
      refine Jvm.OwnWp.bipush K (28 : Int32) at_31 (by decide) (pc' := 33) rfl ?_
      refine Jvm.OwnWp.ishr K at_33 (pc' := 34) rfl ?_
      refine Jvm.OwnWp.i2d K at_34 (pc' := 35) rfl ?_
      refine Jvm.OwnWp.dstore K at_35 (Ls' := #[.val (.int p0), .val (.int p1), .val (.int p2), .val (.int p3), .val (.int p4), .val (.int p5), .val (.int (3 : Int32)), .val (.int (3 : Int32)), .val (.double (FP.i2d ((p5 <<< ((28 : Int32) &&& 31)) >>> ((28 : Int32) &&& 31)))), .second, .val (.double (FP.i2d ((p5 <<< ((24 : Int32) &&& 31)) >>> ((28 : Int32) &&& 31)))), .second, .unset, .unset, .unset, .unset]) rfl (pc' := 37) rfl ?_
      refine Jvm.OwnWp.iload K at_37 rfl (pc' := 39) rfl ?_
      refine Jvm.OwnWp.bipush K (20 : Int32) at_39 (by decide) (pc' := 41) rfl ?_
      refine Jvm.OwnWp.ishl K at_41 (pc' := 42) rfl ?_
      refine Jvm.OwnWp.bipush K (28 : Int32) at_42 (by decide) (pc' := 44) rfl ?_
      refine Jvm.OwnWp.ishr K at_44 (pc' := 45) rfl ?_
      refine Jvm.OwnWp.i2d K at_45 (pc' := 46) rfl ?_
      refine Jvm.OwnWp.dstore K at_46 (Ls' := #[.val (.int p0), .val (.int p1), .val (.int p2), .val (.int p3), .val (.int p4), .val (.int p5), .val (.int (3 : Int32)), .val (.int (3 : Int32)), .val (.double (FP.i2d ((p5 <<< ((28 : Int32) &&& 31)) >>> ((28 : Int32) &&& 31)))), .second, .val (.double (FP.i2d ((p5 <<< ((24 : Int32) &&& 31)) >>> ((28 : Int32) &&& 31)))), .second, .val (.double (FP.i2d ((p5 <<< ((20 : Int32) &&& 31)) >>> ((28 : Int32) &&& 31)))), .second, .unset, .unset]) rfl (pc' := 48) rfl ?_
      refine newObj K (wd0 hw) (wd1 hw) (wd2 hw) at_48 (by decide) (by decide) (pc' := 51) rfl ?_
      intro h90 b90 g90 E90 A90 D90
      have lt_b90 : h0.size ≤ b90 := Nat.le_trans P0.1 (Nat.le_of_eq g90.symm)
      have ge_b90 : n0 ≤ b90 := Nat.le_trans Z0 lt_b90
      have P90 := (P0.ext E90)
      have F90_keys_b90 : Fld Z h90 b90 "com/example/routeloom/routeloom/MinQueue" "keys" "[D" .null := D90 (Or.inl (wd11 hw)) (ty := (.array .double)) (by decide)
      have F90_items_b90 : Fld Z h90 b90 "com/example/routeloom/routeloom/MinQueue" "items" "[I" .null := D90 (Or.inl (wd14 hw)) (ty := (.array .int)) (by decide)
      have F90_size_b90 : Fld Z h90 b90 "com/example/routeloom/routeloom/MinQueue" "size" "I" (.int (0 : Int32)) := D90 (Or.inl (wd21 hw)) (ty := .int) (by decide)
      refine Jvm.OwnWp.dup K at_51 rfl (pc' := 52) rfl ?_
      refine callInit K (y := (⟨"com/example/routeloom/routeloom/MinQueue", "<init>", "()V"⟩ : MethodName)) (b := b90) (argsL := []) (S := [(.ref b90)]) rfl (wd3 hw) (wd4 hw) (wd2 hw) (wd5 hw) rfl (by decide) (c_init l Z a0 hw [] b90 h90 n0 (Nat.le_trans Z0 P90.1) A90 ge_b90 F90_keys_b90 F90_items_b90 F90_size_b90) (lenOf pd0 rfl) at_52 rfl (Nat.le_of_ble_eq_true rfl) (Nat.le_of_ble_eq_true rfl) (Nat.le_of_ble_eq_true rfl) (Nat.le_of_ble_eq_true rfl) rfl (pc' := 55) rfl ?_
      rintro v91 h91 ⟨rfl, K91, ks, is, lk91, li91, ne_is_ks, Q91_F_keys, Q91_F_items, Q91_F_size, Q91_VK, Q91_VI⟩
      have ne_b90_ks : b90 ≠ ks := Nat.ne_of_lt (Nat.lt_of_lt_of_le (Exa.lt A90) lk91)
      have lt_ks : h0.size ≤ ks := Nat.le_trans P90.1 lk91
      have ge_ks : n0 ≤ ks := Nat.le_trans Z0 lt_ks
      have ne_b90_is : b90 ≠ is := Nat.ne_of_lt (Nat.lt_of_lt_of_le (Exa.lt A90) li91)
      have lt_is : h0.size ≤ is := Nat.le_trans P90.1 li91
      have ge_is : n0 ≤ is := Nat.le_trans Z0 lt_is
      have X91_b90 := (Exa.keep A90 K91)
      have P91 := (P90.trans K91 (allS (Or.inr lt_b90) (all0)))
      show Go _ _ _ _ _ _ _ _ _ _ _ h91 3 131 (mkF m 55 #[.val (.int p0), .val (.int p1), .val (.int p2), .val (.int p3), .val (.int p4), .val (.int p5), .val (.int (3 : Int32)), .val (.int (3 : Int32)), .val (.double (FP.i2d ((p5 <<< ((28 : Int32) &&& 31)) >>> ((28 : Int32) &&& 31)))), .second, .val (.double (FP.i2d ((p5 <<< ((24 : Int32) &&& 31)) >>> ((28 : Int32) &&& 31)))), .second, .val (.double (FP.i2d ((p5 <<< ((20 : Int32) &&& 31)) >>> ((28 : Int32) &&& 31)))), .second, .unset, .unset] [(.ref b90)]) _
      refine Jvm.OwnWp.astore K at_55 rfl (Ls' := #[.val (.int p0), .val (.int p1), .val (.int p2), .val (.int p3), .val (.int p4), .val (.int p5), .val (.int (3 : Int32)), .val (.int (3 : Int32)), .val (.double (FP.i2d ((p5 <<< ((28 : Int32) &&& 31)) >>> ((28 : Int32) &&& 31)))), .second, .val (.double (FP.i2d ((p5 <<< ((24 : Int32) &&& 31)) >>> ((28 : Int32) &&& 31)))), .second, .val (.double (FP.i2d ((p5 <<< ((20 : Int32) &&& 31)) >>> ((28 : Int32) &&& 31)))), .second, .val (.ref b90), .unset]) rfl (pc' := 57) rfl ?_
      refine Jvm.OwnWp.aload K at_57 rfl rfl (pc' := 59) rfl ?_
      refine callVirt K (y := (⟨"com/example/routeloom/routeloom/MinQueue", "isEmpty", "()Z"⟩ : MethodName)) (b := b90) (argsL := []) (S := []) (wd15 hw) (wd16 hw) (wd18 hw) (wd17 hw) (wd2 hw) (wd19 hw) (by decide) X91_b90 (c_empty l Z a0 hw [] b90 (0 : Int32) h91 n0 (Nat.le_trans Z0 P91.1) Q91_F_size) (lenOf pd1 rfl) at_59 rfl (Nat.le_of_ble_eq_true rfl) (Nat.le_of_ble_eq_true rfl) (Nat.le_of_ble_eq_true rfl) (Nat.le_of_ble_eq_true rfl) rfl (pc' := 62) rfl ?_
      rintro v92 h92 ⟨rfl, rfl⟩
      show Go _ _ _ _ _ _ _ _ _ _ _ h91 3 131 (mkF m 62 #[.val (.int p0), .val (.int p1), .val (.int p2), .val (.int p3), .val (.int p4), .val (.int p5), .val (.int (3 : Int32)), .val (.int (3 : Int32)), .val (.double (FP.i2d ((p5 <<< ((28 : Int32) &&& 31)) >>> ((28 : Int32) &&& 31)))), .second, .val (.double (FP.i2d ((p5 <<< ((24 : Int32) &&& 31)) >>> ((28 : Int32) &&& 31)))), .second, .val (.double (FP.i2d ((p5 <<< ((20 : Int32) &&& 31)) >>> ((28 : Int32) &&& 31)))), .second, .val (.ref b90), .unset] [(.int (1 : Int32))]) _
      refine Jvm.OwnWp.istore K at_62 (Ls' := #[.val (.int p0), .val (.int p1), .val (.int p2), .val (.int p3), .val (.int p4), .val (.int p5), .val (.int (3 : Int32)), .val (.int (3 : Int32)), .val (.double (FP.i2d ((p5 <<< ((28 : Int32) &&& 31)) >>> ((28 : Int32) &&& 31)))), .second, .val (.double (FP.i2d ((p5 <<< ((24 : Int32) &&& 31)) >>> ((28 : Int32) &&& 31)))), .second, .val (.double (FP.i2d ((p5 <<< ((20 : Int32) &&& 31)) >>> ((28 : Int32) &&& 31)))), .second, .val (.ref b90), .val (.int (1 : Int32))]) rfl (pc' := 64) rfl ?_
      refine Jvm.OwnWp.iload K at_64 rfl (pc' := 66) rfl ?_
      refine Jvm.OwnWp.iconst K (1 : Int32) at_66 (by decide) (pc' := 67) rfl ?_
      refine icN K at_67 (by decide) (pc' := 70) rfl ?_
      refine Jvm.OwnWp.aload K at_70 rfl rfl (pc' := 72) rfl ?_
      refine Jvm.OwnWp.iloadN K at_72 rfl (pc' := 73) rfl ?_
      refine Jvm.OwnWp.dload K at_73 rfl (pc' := 75) rfl ?_
      refine callVirt K (y := (⟨"com/example/routeloom/routeloom/MinQueue", "add", "(ID)V"⟩ : MethodName)) (b := b90) (argsL := [(.int p2), (.double (FP.i2d ((p5 <<< ((28 : Int32) &&& 31)) >>> ((28 : Int32) &&& 31))))]) (S := []) (wd22 hw) (wd23 hw) (wd25 hw) (wd24 hw) (wd2 hw) (wd26 hw) (by decide) X91_b90 (c_add l Z a0 hw [] b90 ks is p2 (FP.i2d ((p5 <<< ((28 : Int32) &&& 31)) >>> ((28 : Int32) &&& 31))) 0 (0 : Int32) (List.replicate 64 0) (List.replicate 64 0) h91 n0 (Nat.le_trans Z0 P91.1) (by decide) (by decide) (List.length_replicate ..) (List.length_replicate ..) X91_b90 Q91_F_keys Q91_F_items Q91_F_size Q91_VK Q91_VI (Ne.symm ne_b90_ks) (Ne.symm ne_b90_is) ne_is_ks ge_b90 ge_ks ge_is) (lenOf pd2 rfl) at_75 rfl (Nat.le_of_ble_eq_true rfl) (Nat.le_of_ble_eq_true rfl) (Nat.le_of_ble_eq_true rfl) (Nat.le_of_ble_eq_true rfl) rfl (pc' := 78) rfl ?_
      rintro v93 h93 ⟨rfl, K93, Q93_E, Q93_F_keys, Q93_F_items, Q93_F_size, Q93_VK, Q93_VI⟩
      have X93_b90 := (Exa.keep X91_b90 K93)
      have P93 := (P91.trans K93 (allS (Or.inr lt_b90) (allS (Or.inr lt_ks) (allS (Or.inr lt_is) (all0)))))
      have hu93 := up_len (key := (FP.i2d ((p5 <<< ((28 : Int32) &&& 31)) >>> ((28 : Int32) &&& 31)))) (item := p2) 0 (List.replicate 64 0) (List.replicate 64 0)
      rw [List.length_replicate, List.length_replicate] at hu93
      generalize up (FP.i2d ((p5 <<< ((28 : Int32) &&& 31)) >>> ((28 : Int32) &&& 31))) p2 (List.replicate 64 0) (List.replicate 64 0) 0 = U93 at hu93 Q93_VK Q93_VI
      show Go _ _ _ _ _ _ _ _ _ _ _ h93 3 131 (mkF m 78 #[.val (.int p0), .val (.int p1), .val (.int p2), .val (.int p3), .val (.int p4), .val (.int p5), .val (.int (3 : Int32)), .val (.int (3 : Int32)), .val (.double (FP.i2d ((p5 <<< ((28 : Int32) &&& 31)) >>> ((28 : Int32) &&& 31)))), .second, .val (.double (FP.i2d ((p5 <<< ((24 : Int32) &&& 31)) >>> ((28 : Int32) &&& 31)))), .second, .val (.double (FP.i2d ((p5 <<< ((20 : Int32) &&& 31)) >>> ((28 : Int32) &&& 31)))), .second, .val (.ref b90), .val (.int (1 : Int32))] []) _
      refine Jvm.OwnWp.iload K at_78 rfl (pc' := 80) rfl ?_
      refine Jvm.OwnWp.iconst K (2 : Int32) at_80 (by decide) (pc' := 81) rfl ?_
      refine icN K at_81 (by decide) (pc' := 84) rfl ?_
      refine Jvm.OwnWp.aload K at_84 rfl rfl (pc' := 86) rfl ?_
      refine Jvm.OwnWp.iloadN K at_86 rfl (pc' := 87) rfl ?_
      refine Jvm.OwnWp.dload K at_87 rfl (pc' := 89) rfl ?_
      refine callVirt K (y := (⟨"com/example/routeloom/routeloom/MinQueue", "add", "(ID)V"⟩ : MethodName)) (b := b90) (argsL := [(.int p3), (.double (FP.i2d ((p5 <<< ((24 : Int32) &&& 31)) >>> ((28 : Int32) &&& 31))))]) (S := []) (wd22 hw) (wd23 hw) (wd25 hw) (wd24 hw) (wd2 hw) (wd26 hw) (by decide) Q93_E (c_add l Z a0 hw [] b90 ks is p3 (FP.i2d ((p5 <<< ((24 : Int32) &&& 31)) >>> ((28 : Int32) &&& 31))) 1 ((0 : Int32) + (1 : Int32)) U93.1 U93.2 h93 n0 (Nat.le_trans Z0 P93.1) (by decide) (by decide) hu93.1 hu93.2 Q93_E Q93_F_keys Q93_F_items Q93_F_size Q93_VK Q93_VI (Ne.symm ne_b90_ks) (Ne.symm ne_b90_is) ne_is_ks ge_b90 ge_ks ge_is) (lenOf pd2 rfl) at_89 rfl (Nat.le_of_ble_eq_true rfl) (Nat.le_of_ble_eq_true rfl) (Nat.le_of_ble_eq_true rfl) (Nat.le_of_ble_eq_true rfl) rfl (pc' := 92) rfl ?_
      rintro v94 h94 ⟨rfl, K94, Q94_E, Q94_F_keys, Q94_F_items, Q94_F_size, Q94_VK, Q94_VI⟩
      have X94_b90 := (Exa.keep Q93_E K94)
      have P94 := (P93.trans K94 (allS (Or.inr lt_b90) (allS (Or.inr lt_ks) (allS (Or.inr lt_is) (all0)))))
      have hu94 := up_len (key := (FP.i2d ((p5 <<< ((24 : Int32) &&& 31)) >>> ((28 : Int32) &&& 31)))) (item := p3) 1 U93.1 U93.2
      rw [hu93.1, hu93.2] at hu94
      generalize up (FP.i2d ((p5 <<< ((24 : Int32) &&& 31)) >>> ((28 : Int32) &&& 31))) p3 U93.1 U93.2 1 = U94 at hu94 Q94_VK Q94_VI
      show Go _ _ _ _ _ _ _ _ _ _ _ h94 3 131 (mkF m 92 #[.val (.int p0), .val (.int p1), .val (.int p2), .val (.int p3), .val (.int p4), .val (.int p5), .val (.int (3 : Int32)), .val (.int (3 : Int32)), .val (.double (FP.i2d ((p5 <<< ((28 : Int32) &&& 31)) >>> ((28 : Int32) &&& 31)))), .second, .val (.double (FP.i2d ((p5 <<< ((24 : Int32) &&& 31)) >>> ((28 : Int32) &&& 31)))), .second, .val (.double (FP.i2d ((p5 <<< ((20 : Int32) &&& 31)) >>> ((28 : Int32) &&& 31)))), .second, .val (.ref b90), .val (.int (1 : Int32))] []) _
      refine Jvm.OwnWp.iload K at_92 rfl (pc' := 94) rfl ?_
      refine Jvm.OwnWp.iconst K (3 : Int32) at_94 (by decide) (pc' := 95) rfl ?_
      refine icN K at_95 (by decide) (pc' := 98) rfl ?_
      refine Jvm.OwnWp.aload K at_98 rfl rfl (pc' := 100) rfl ?_
      refine Jvm.OwnWp.iload K at_100 rfl (pc' := 102) rfl ?_
      refine Jvm.OwnWp.dload K at_102 rfl (pc' := 104) rfl ?_
      refine callVirt K (y := (⟨"com/example/routeloom/routeloom/MinQueue", "add", "(ID)V"⟩ : MethodName)) (b := b90) (argsL := [(.int p4), (.double (FP.i2d ((p5 <<< ((20 : Int32) &&& 31)) >>> ((28 : Int32) &&& 31))))]) (S := []) (wd22 hw) (wd23 hw) (wd25 hw) (wd24 hw) (wd2 hw) (wd26 hw) (by decide) Q94_E (c_add l Z a0 hw [] b90 ks is p4 (FP.i2d ((p5 <<< ((20 : Int32) &&& 31)) >>> ((28 : Int32) &&& 31))) 2 (((0 : Int32) + (1 : Int32)) + (1 : Int32)) U94.1 U94.2 h94 n0 (Nat.le_trans Z0 P94.1) (by decide) (by decide) hu94.1 hu94.2 Q94_E Q94_F_keys Q94_F_items Q94_F_size Q94_VK Q94_VI (Ne.symm ne_b90_ks) (Ne.symm ne_b90_is) ne_is_ks ge_b90 ge_ks ge_is) (lenOf pd2 rfl) at_104 rfl (Nat.le_of_ble_eq_true rfl) (Nat.le_of_ble_eq_true rfl) (Nat.le_of_ble_eq_true rfl) (Nat.le_of_ble_eq_true rfl) rfl (pc' := 107) rfl ?_
      rintro v95 h95 ⟨rfl, K95, Q95_E, Q95_F_keys, Q95_F_items, Q95_F_size, Q95_VK, Q95_VI⟩
      have X95_b90 := (Exa.keep Q94_E K95)
      have P95 := (P94.trans K95 (allS (Or.inr lt_b90) (allS (Or.inr lt_ks) (allS (Or.inr lt_is) (all0)))))
      have hu95 := up_len (key := (FP.i2d ((p5 <<< ((20 : Int32) &&& 31)) >>> ((28 : Int32) &&& 31)))) (item := p4) 2 U94.1 U94.2
      rw [hu94.1, hu94.2] at hu95
      generalize up (FP.i2d ((p5 <<< ((20 : Int32) &&& 31)) >>> ((28 : Int32) &&& 31))) p4 U94.1 U94.2 2 = U95 at hu95 Q95_VK Q95_VI
      show Go _ _ _ _ _ _ _ _ _ _ _ h95 3 131 (mkF m 107 #[.val (.int p0), .val (.int p1), .val (.int p2), .val (.int p3), .val (.int p4), .val (.int p5), .val (.int (3 : Int32)), .val (.int (3 : Int32)), .val (.double (FP.i2d ((p5 <<< ((28 : Int32) &&& 31)) >>> ((28 : Int32) &&& 31)))), .second, .val (.double (FP.i2d ((p5 <<< ((24 : Int32) &&& 31)) >>> ((28 : Int32) &&& 31)))), .second, .val (.double (FP.i2d ((p5 <<< ((20 : Int32) &&& 31)) >>> ((28 : Int32) &&& 31)))), .second, .val (.ref b90), .val (.int (1 : Int32))] []) _
      refine Jvm.OwnWp.iload K at_107 rfl (pc' := 109) rfl ?_
      refine ifN K at_109 (by decide) (pc' := 112) rfl ?_
      refine Jvm.OwnWp.aload K at_112 rfl rfl (pc' := 114) rfl ?_
      refine callVirt K (y := (⟨"com/example/routeloom/routeloom/MinQueue", "isEmpty", "()Z"⟩ : MethodName)) (b := b90) (argsL := []) (S := []) (wd15 hw) (wd16 hw) (wd18 hw) (wd17 hw) (wd2 hw) (wd19 hw) (by decide) Q95_E (c_empty l Z a0 hw [] b90 ((((0 : Int32) + (1 : Int32)) + (1 : Int32)) + (1 : Int32)) h95 n0 (Nat.le_trans Z0 P95.1) Q95_F_size) (lenOf pd1 rfl) at_114 rfl (Nat.le_of_ble_eq_true rfl) (Nat.le_of_ble_eq_true rfl) (Nat.le_of_ble_eq_true rfl) (Nat.le_of_ble_eq_true rfl) rfl (pc' := 117) rfl ?_
      rintro v96 h96 ⟨rfl, rfl⟩
      show Go _ _ _ _ _ _ _ _ _ _ _ h95 3 131 (mkF m 117 #[.val (.int p0), .val (.int p1), .val (.int p2), .val (.int p3), .val (.int p4), .val (.int p5), .val (.int (3 : Int32)), .val (.int (3 : Int32)), .val (.double (FP.i2d ((p5 <<< ((28 : Int32) &&& 31)) >>> ((28 : Int32) &&& 31)))), .second, .val (.double (FP.i2d ((p5 <<< ((24 : Int32) &&& 31)) >>> ((28 : Int32) &&& 31)))), .second, .val (.double (FP.i2d ((p5 <<< ((20 : Int32) &&& 31)) >>> ((28 : Int32) &&& 31)))), .second, .val (.ref b90), .val (.int (1 : Int32))] [(.int (0 : Int32))]) _
      refine Jvm.OwnWp.iload K at_117 rfl (pc' := 119) rfl ?_
      refine ifY K at_119 (by decide) (pc' := 126) (by decide) (by decide) ?_
      refine Jvm.OwnWp.iconst K (0 : Int32) at_126 (by decide) (pc' := 127) rfl ?_
      refine icN K at_127 (by decide) (pc' := 130) rfl ?_
      refine Jvm.OwnWp.iconst K (1 : Int32) at_130 (by decide) (pc' := 131) rfl ?_
      refine goto' K at_131 (pc' := 135) (by decide) (by decide) ?_
      refine Jvm.OwnWp.istore K at_135 (Ls' := #[.val (.int p0), .val (.int p1), .val (.int p2), .val (.int p3), .val (.int p4), .val (.int p5), .val (.int (3 : Int32)), .val (.int (3 : Int32)), .val (.double (FP.i2d ((p5 <<< ((28 : Int32) &&& 31)) >>> ((28 : Int32) &&& 31)))), .second, .val (.double (FP.i2d ((p5 <<< ((24 : Int32) &&& 31)) >>> ((28 : Int32) &&& 31)))), .second, .val (.double (FP.i2d ((p5 <<< ((20 : Int32) &&& 31)) >>> ((28 : Int32) &&& 31)))), .second, .val (.ref b90), .val (.int (1 : Int32))]) rfl (pc' := 137) rfl ?_
      refine Jvm.OwnWp.iload K at_137 rfl (pc' := 139) rfl ?_
      refine Jvm.OwnWp.iconst K (1 : Int32) at_139 (by decide) (pc' := 140) rfl ?_
      refine icN K at_140 (by decide) (pc' := 143) rfl ?_
      refine Jvm.OwnWp.aload K at_143 rfl rfl (pc' := 145) rfl ?_
      refine callVirt K (y := (⟨"com/example/routeloom/routeloom/MinQueue", "removeMin", "()I"⟩ : MethodName)) (b := b90) (argsL := []) (S := []) (wd27 hw) (wd28 hw) (wd30 hw) (wd29 hw) (wd2 hw) (wd31 hw) (by decide) Q95_E (c_rem l Z a0 hw [] b90 ks is 3 ((((0 : Int32) + (1 : Int32)) + (1 : Int32)) + (1 : Int32)) U95.1 U95.2 h95 n0 (Nat.le_trans Z0 P95.1) (by decide) (by decide) (by decide) hu95.1 hu95.2 Q95_E Q95_F_keys Q95_F_items Q95_F_size Q95_VK Q95_VI (Ne.symm ne_b90_ks) (Ne.symm ne_b90_is) ne_is_ks ge_b90 ge_ks ge_is) (lenOf pd3 rfl) at_145 rfl (Nat.le_of_ble_eq_true rfl) (Nat.le_of_ble_eq_true rfl) (Nat.le_of_ble_eq_true rfl) (Nat.le_of_ble_eq_true rfl) rfl (pc' := 148) rfl ?_
      rintro v97 h97 ⟨rfl, K97, Q97_E, Q97_F_keys, Q97_F_items, Q97_F_size, Q97_VK, Q97_VI⟩
      have X97_b90 := (Exa.keep Q95_E K97)
      have P97 := (P95.trans K97 (allS (Or.inr lt_b90) (allS (Or.inr lt_ks) (allS (Or.inr lt_is) (all0)))))
      have hu97 := down_len (n := 3 - 1) (key := U95.1.getD (3 - 1) 0) (item := U95.2.getD (3 - 1) 0) _ 0 U95.1 U95.2 (Nat.le_refl _)
      rw [hu95.1, hu95.2] at hu97
      generalize down (3 - 1) (U95.1.getD (3 - 1) 0) (U95.2.getD (3 - 1) 0) U95.1 U95.2 0 = U97 at hu97 Q97_VK Q97_VI
      show Go _ _ _ _ _ _ _ _ _ _ _ h97 3 131 (mkF m 148 #[.val (.int p0), .val (.int p1), .val (.int p2), .val (.int p3), .val (.int p4), .val (.int p5), .val (.int (3 : Int32)), .val (.int (3 : Int32)), .val (.double (FP.i2d ((p5 <<< ((28 : Int32) &&& 31)) >>> ((28 : Int32) &&& 31)))), .second, .val (.double (FP.i2d ((p5 <<< ((24 : Int32) &&& 31)) >>> ((28 : Int32) &&& 31)))), .second, .val (.double (FP.i2d ((p5 <<< ((20 : Int32) &&& 31)) >>> ((28 : Int32) &&& 31)))), .second, .val (.ref b90), .val (.int (1 : Int32))] [(.int (U95.2.getD 0 0))]) _
      refine Jvm.OwnWp.pop K at_148 rfl (pc' := 149) rfl ?_
      refine Jvm.OwnWp.iload K at_149 rfl (pc' := 151) rfl ?_
      refine Jvm.OwnWp.iconst K (2 : Int32) at_151 (by decide) (pc' := 152) rfl ?_
      refine icN K at_152 (by decide) (pc' := 155) rfl ?_
      refine Jvm.OwnWp.aload K at_155 rfl rfl (pc' := 157) rfl ?_
      refine callVirt K (y := (⟨"com/example/routeloom/routeloom/MinQueue", "removeMin", "()I"⟩ : MethodName)) (b := b90) (argsL := []) (S := []) (wd27 hw) (wd28 hw) (wd30 hw) (wd29 hw) (wd2 hw) (wd31 hw) (by decide) Q97_E (c_rem l Z a0 hw [] b90 ks is 2 (((((0 : Int32) + (1 : Int32)) + (1 : Int32)) + (1 : Int32)) - (1 : Int32)) U97.1 U97.2 h97 n0 (Nat.le_trans Z0 P97.1) (by decide) (by decide) (by decide) hu97.1 hu97.2 Q97_E Q97_F_keys Q97_F_items Q97_F_size Q97_VK Q97_VI (Ne.symm ne_b90_ks) (Ne.symm ne_b90_is) ne_is_ks ge_b90 ge_ks ge_is) (lenOf pd3 rfl) at_157 rfl (Nat.le_of_ble_eq_true rfl) (Nat.le_of_ble_eq_true rfl) (Nat.le_of_ble_eq_true rfl) (Nat.le_of_ble_eq_true rfl) rfl (pc' := 160) rfl ?_
      rintro v98 h98 ⟨rfl, K98, Q98_E, Q98_F_keys, Q98_F_items, Q98_F_size, Q98_VK, Q98_VI⟩
      have X98_b90 := (Exa.keep Q97_E K98)
      have P98 := (P97.trans K98 (allS (Or.inr lt_b90) (allS (Or.inr lt_ks) (allS (Or.inr lt_is) (all0)))))
      have hu98 := down_len (n := 2 - 1) (key := U97.1.getD (2 - 1) 0) (item := U97.2.getD (2 - 1) 0) _ 0 U97.1 U97.2 (Nat.le_refl _)
      rw [hu97.1, hu97.2] at hu98
      generalize down (2 - 1) (U97.1.getD (2 - 1) 0) (U97.2.getD (2 - 1) 0) U97.1 U97.2 0 = U98 at hu98 Q98_VK Q98_VI
      show Go _ _ _ _ _ _ _ _ _ _ _ h98 3 131 (mkF m 160 #[.val (.int p0), .val (.int p1), .val (.int p2), .val (.int p3), .val (.int p4), .val (.int p5), .val (.int (3 : Int32)), .val (.int (3 : Int32)), .val (.double (FP.i2d ((p5 <<< ((28 : Int32) &&& 31)) >>> ((28 : Int32) &&& 31)))), .second, .val (.double (FP.i2d ((p5 <<< ((24 : Int32) &&& 31)) >>> ((28 : Int32) &&& 31)))), .second, .val (.double (FP.i2d ((p5 <<< ((20 : Int32) &&& 31)) >>> ((28 : Int32) &&& 31)))), .second, .val (.ref b90), .val (.int (1 : Int32))] [(.int (U97.2.getD 0 0))]) _
      refine Jvm.OwnWp.pop K at_160 rfl (pc' := 161) rfl ?_
      refine Jvm.OwnWp.iload K at_161 rfl (pc' := 163) rfl ?_
      refine Jvm.OwnWp.iconst K (3 : Int32) at_163 (by decide) (pc' := 164) rfl ?_
      refine icN K at_164 (by decide) (pc' := 167) rfl ?_
      refine Jvm.OwnWp.aload K at_167 rfl rfl (pc' := 169) rfl ?_
      refine callVirt K (y := (⟨"com/example/routeloom/routeloom/MinQueue", "removeMin", "()I"⟩ : MethodName)) (b := b90) (argsL := []) (S := []) (wd27 hw) (wd28 hw) (wd30 hw) (wd29 hw) (wd2 hw) (wd31 hw) (by decide) Q98_E (c_rem l Z a0 hw [] b90 ks is 1 ((((((0 : Int32) + (1 : Int32)) + (1 : Int32)) + (1 : Int32)) - (1 : Int32)) - (1 : Int32)) U98.1 U98.2 h98 n0 (Nat.le_trans Z0 P98.1) (by decide) (by decide) (by decide) hu98.1 hu98.2 Q98_E Q98_F_keys Q98_F_items Q98_F_size Q98_VK Q98_VI (Ne.symm ne_b90_ks) (Ne.symm ne_b90_is) ne_is_ks ge_b90 ge_ks ge_is) (lenOf pd3 rfl) at_169 rfl (Nat.le_of_ble_eq_true rfl) (Nat.le_of_ble_eq_true rfl) (Nat.le_of_ble_eq_true rfl) (Nat.le_of_ble_eq_true rfl) rfl (pc' := 172) rfl ?_
      rintro v99 h99 ⟨rfl, K99, Q99_E, Q99_F_keys, Q99_F_items, Q99_F_size, Q99_VK, Q99_VI⟩
      have X99_b90 := (Exa.keep Q98_E K99)
      have P99 := (P98.trans K99 (allS (Or.inr lt_b90) (allS (Or.inr lt_ks) (allS (Or.inr lt_is) (all0)))))
      have hu99 := down_len (n := 1 - 1) (key := U98.1.getD (1 - 1) 0) (item := U98.2.getD (1 - 1) 0) _ 0 U98.1 U98.2 (Nat.le_refl _)
      rw [hu98.1, hu98.2] at hu99
      generalize down (1 - 1) (U98.1.getD (1 - 1) 0) (U98.2.getD (1 - 1) 0) U98.1 U98.2 0 = U99 at hu99 Q99_VK Q99_VI
      show Go _ _ _ _ _ _ _ _ _ _ _ h99 3 131 (mkF m 172 #[.val (.int p0), .val (.int p1), .val (.int p2), .val (.int p3), .val (.int p4), .val (.int p5), .val (.int (3 : Int32)), .val (.int (3 : Int32)), .val (.double (FP.i2d ((p5 <<< ((28 : Int32) &&& 31)) >>> ((28 : Int32) &&& 31)))), .second, .val (.double (FP.i2d ((p5 <<< ((24 : Int32) &&& 31)) >>> ((28 : Int32) &&& 31)))), .second, .val (.double (FP.i2d ((p5 <<< ((20 : Int32) &&& 31)) >>> ((28 : Int32) &&& 31)))), .second, .val (.ref b90), .val (.int (1 : Int32))] [(.int (U98.2.getD 0 0))]) _
      refine Jvm.OwnWp.pop K at_172 rfl (pc' := 173) rfl ?_
      refine Jvm.OwnWp.iload K at_173 rfl (pc' := 175) rfl ?_
      refine ifN K at_175 (by decide) (pc' := 178) rfl ?_
      refine Jvm.OwnWp.aload K at_178 rfl rfl (pc' := 180) rfl ?_
      refine callVirt K (y := (⟨"com/example/routeloom/routeloom/MinQueue", "isEmpty", "()Z"⟩ : MethodName)) (b := b90) (argsL := []) (S := []) (wd15 hw) (wd16 hw) (wd18 hw) (wd17 hw) (wd2 hw) (wd19 hw) (by decide) Q99_E (c_empty l Z a0 hw [] b90 (((((((0 : Int32) + (1 : Int32)) + (1 : Int32)) + (1 : Int32)) - (1 : Int32)) - (1 : Int32)) - (1 : Int32)) h99 n0 (Nat.le_trans Z0 P99.1) Q99_F_size) (lenOf pd1 rfl) at_180 rfl (Nat.le_of_ble_eq_true rfl) (Nat.le_of_ble_eq_true rfl) (Nat.le_of_ble_eq_true rfl) (Nat.le_of_ble_eq_true rfl) rfl (pc' := 183) rfl ?_
      rintro v100 h100 ⟨rfl, rfl⟩
      show Go _ _ _ _ _ _ _ _ _ _ _ h99 3 131 (mkF m 183 #[.val (.int p0), .val (.int p1), .val (.int p2), .val (.int p3), .val (.int p4), .val (.int p5), .val (.int (3 : Int32)), .val (.int (3 : Int32)), .val (.double (FP.i2d ((p5 <<< ((28 : Int32) &&& 31)) >>> ((28 : Int32) &&& 31)))), .second, .val (.double (FP.i2d ((p5 <<< ((24 : Int32) &&& 31)) >>> ((28 : Int32) &&& 31)))), .second, .val (.double (FP.i2d ((p5 <<< ((20 : Int32) &&& 31)) >>> ((28 : Int32) &&& 31)))), .second, .val (.ref b90), .val (.int (1 : Int32))] [(.int (1 : Int32))]) _
      refine Jvm.OwnWp.iload K at_183 rfl (pc' := 185) rfl ?_
      refine Jvm.OwnWp.iload K at_185 rfl (pc' := 187) rfl ?_
      refine Jvm.OwnWp.isub K at_187 (pc' := 188) rfl ?_
      refine ifN K at_188 (by decide) (pc' := 191) rfl ?_
      refine Jvm.OwnWp.iconst K (1 : Int32) at_191 (by decide) (pc' := 192) rfl ?_
      refine goto' K at_192 (pc' := 196) (by decide) (by decide) ?_
      refine icN K at_196 (by decide) (pc' := 199) rfl ?_
      refine Jvm.OwnWp.iconst K (1 : Int32) at_199 (by decide) (pc' := 200) rfl ?_
      refine goto' K at_200 (pc' := 204) (by decide) (by decide) ?_
      refine Jvm.OwnWp.istore K at_204 (Ls' := #[.val (.int p0), .val (.int p1), .val (.int p2), .val (.int p3), .val (.int p4), .val (.int p5), .val (.int (3 : Int32)), .val (.int (3 : Int32)), .val (.double (FP.i2d ((p5 <<< ((28 : Int32) &&& 31)) >>> ((28 : Int32) &&& 31)))), .second, .val (.double (FP.i2d ((p5 <<< ((24 : Int32) &&& 31)) >>> ((28 : Int32) &&& 31)))), .second, .val (.double (FP.i2d ((p5 <<< ((20 : Int32) &&& 31)) >>> ((28 : Int32) &&& 31)))), .second, .val (.ref b90), .val (.int (1 : Int32))]) rfl (pc' := 206) rfl ?_
      refine Jvm.OwnWp.iload K at_206 rfl (pc' := 208) rfl ?_
      refine retB K (t := .boolean) rfl (by simp) at_208 (Nat.le_of_ble_eq_true rfl) (Nat.le_of_ble_eq_true rfl) ?_
      rfl
set_option maxRecDepth 65536 in
set_option maxHeartbeats 40000000 in
theorem comes_1 {Post : Tables → Env → Array Value → State → Outcome → State → Prop} (hpost : ∀ tb e args s v u, (limb_1_1.after args s (.returned v) u = true ∧ limb_1_2.after args s (.returned v) u = true ∧ True) → FrameEnd s (.returned v) u (Jvm.fieldLocs frame_1_writes args s ++ Jvm.arrayLocs frame_1_arrays args s ++ Jvm.staticLocs frame_1_statics s) 16 384 → Post tb e args s (.returned v) u) :
    ArmFor flags0 classFile x code maxLocals ret World_1 tables_1 room_1 Calls_1 rest_1 Pre_1 Post := by
  intro l hfl _ _ p e ha hc hk s m args below hf hA hF happ hP
  obtain ⟨hcalls, hrest, hpre⟩ := hP
  obtain ⟨-, -, -, hnamed, -, -, -, hat⟩ := (Spec.applies_iff hf).mp happ
  obtain ⟨hg, hn⟩ := and_e (Cond.before_iff.mp (show (Jvm.Cond.and given_1 narrow_1).before args s = true from hpre))
  obtain ⟨q0, r0⟩ := and_e hg
  obtain ⟨q1, r1⟩ := and_e r0
  obtain ⟨q2, r2⟩ := and_e r1
  obtain ⟨q3, r3⟩ := and_e r2
  obtain ⟨q4, r4⟩ := and_e r3
  obtain ⟨q5, r5⟩ := and_e r4
  have q6 := r5
  obtain ⟨w0, w1, w2, w3, w4, w5, rfl⟩ : ∃ w0 w1 w2 w3 w4 w5 : Value, args = #[w0, w1, w2, w3, w4, w5] := by
    have hs : args.size = 6 := by simpa [Cond.value, given_1] using q0
    obtain ⟨L⟩ := args
    match L, hs with
    | [w0, w1, w2, w3, w4, w5], _ => exact ⟨w0, w1, w2, w3, w4, w5, rfl⟩
  have hw := fun d (hd : d ∈ tables_1) => atoms_spec (ws := Jvm.Cond.code x code maxLocals ret :: tables_1) hat d (List.mem_cons_of_mem _ hd)
  have hfit : Fit s := fun {y c} hc i hi => by
    obtain ⟨ha, rfl⟩ := Array.getElem?_eq_some_iff.mp hc
    have q := List.all_eq_true.mp ((Array.all_eq_true_iff_forall_mem.mp hF) _ (Array.getElem_mem ha)) i (List.mem_range.mpr hi)
    simpa [Array.getElem?_eq_getElem hi] using q
  obtain ⟨i0, e0⟩ := is_v q1
  obtain rfl : w0 = (.int i0) := Option.some.inj e0
  obtain ⟨i1, e1⟩ := is_v q2
  obtain rfl : w1 = (.int i1) := Option.some.inj e1
  obtain ⟨i2, e2⟩ := is_v q3
  obtain rfl : w2 = (.int i2) := Option.some.inj e2
  obtain ⟨i3, e3⟩ := is_v q4
  obtain rfl : w3 = (.int i3) := Option.some.inj e3
  obtain ⟨i4, e4⟩ := is_v q5
  obtain rfl : w4 = (.int i4) := Option.some.inj e4
  obtain ⟨i5, e5⟩ := is_v q6
  obtain rfl : w5 = (.int i5) := Option.some.inj e5
  obtain ⟨n, o, h1, h2, h3, _, L, rfl, ⟨rfl, N⟩, hq⟩ := c_law l s _ hw tables_1 i0 i1 i2 i3 i4 i5 s.heap s.heap.size (Nat.le_refl _)  p e ha hc hk s m _ below hf ((Spec.applies_iff_loose hf).mp happ).1 ⟨rfl, State.Warmed39.refl s, rfl⟩ trivial
  refine ⟨n, _, h1, h2, h3, hpost _ _ _ _ _ _ ⟨Cond.after_iff.mpr rfl, Cond.after_iff.mpr (eq_i res_at (Term.int_eval (1)) rfl), trivial⟩ ⟨hq.1, hq.2.1, (hq.2.2.sift fun y hy => Or.inr (N y hy)).mono (by decide) (by decide)⟩⟩
theorem main_1_1 : Claimed_1_1 := comes_1 fun _ _ _ _ _ _ h hF => ⟨h.1, hF⟩
theorem main_1_2 : Claimed_1_2 := comes_1 fun _ _ _ _ _ _ h hF => ⟨h.2.1, hF⟩
end Jvm.Pilot.@@N@@
namespace Jvm.Pilot.@@N@@
open Jvm Jvm.ClassFile Sem Op Lib Jvm.Free Jvm.Stand Jvm.Pilot.@@N@@.Jvm.D
/-! MADE BY PROGRAM (witnessworld.py) out of the Statement's table words and the real class files: 11 classes; the members and pool entries that the words name. The judged class is class 1, her method 1. -/
namespace start1
open Jvm.ClassFile
def u (s : String) : CpInfo := .utf8 (stringToUtf16 s)
/-- a pool by its gaps: so many unusable entries, then the entry; so many at the end -/
def gap : Nat → List CpInfo → List CpInfo
  | 0, r => r
  | n + 1, r => .unusable :: gap n r
def poolList (es : List (Nat × CpInfo)) (last : Nat) : List CpInfo := es.foldr (fun e r => gap e.1 (e.2 :: r)) (gap last [])
def pool (es : List (Nat × CpInfo)) (last : Nat) : Array CpInfo := ⟨poolList es last⟩
def fileOf (pool : Array CpInfo) (this : Nat) (attrs : Array Attribute := #[]) (ms : Array MethodInfo := #[]) (fl : Nat := 33) (sup : Nat := 0) (ifs : Array Nat := #[]) (fds : Array FieldInfo := #[]) : ClassFile where
  minorVersion := 0
  majorVersion := 65
  constantPool := pool
  accessFlags := fl
  thisClass := this
  superClass := sup
  interfaces := ifs
  fields := fds
  methods := ms
  attributes := attrs
def plain (name : String) (sup : Option ClassId) : Class where
  name := name
  kind := .ordinary
  loader := none
  accessFlags := 33
  super := sup
  interfaces := #[]
  cf := none
  fields := #[]
  methods := #[]
  instanceTypes := #[]
  staticTypes := #[]
  resolved := #[]
  callSites := []
  init := .initialized
  statics := none
  mirror := none

def pool0 : Array CpInfo := pool [(5, u "<init>"), (0, u "()V"), (1, .class_ 10), (1, u "java/lang/Object")] 113

def k0c0 : Code := { maxStack := 0, maxLocals := 1, code := object_method_1_code, exceptionTable := #[], attributes := #[] }
def k0m0 : Method := { name := "<init>", desc := "()V", sig := { parameters := [], returnType := none }, accessFlags := 1, code := some k0c0 }
/-- java/lang/Object -/
def k0 : Class := { plain "java/lang/Object" none with
  accessFlags := 33
  interfaces := #[]
  cf := some (fileOf pool0 8 #[] #[{ accessFlags := 1, nameIndex := 5, descriptorIndex := 6, attributes := #[] }] 33 0 #[] #[])
  fields := #[]
  methods := #[k0m0]
  instanceTypes := #[]
  staticTypes := #[]
  resolved := Array.replicate 124 none
  statics := none }

def pool1 : Array CpInfo := pool [(2, .class_ 4), (0, .nameAndType 5 6), (0, u "java/lang/Object"), (0, u "<init>"), (0, u "()V"), (0, .class_ 8), (0, u "com/example/routeloom/routeloom/MinQueue"), (0, .methodref 7 3), (0, .methodref 7 11), (0, .nameAndType 12 13), (0, u "isEmpty"), (0, u "()Z"), (0, .methodref 7 15), (0, .nameAndType 16 17), (0, u "add"), (0, u "(ID)V"), (0, .methodref 7 19), (0, .nameAndType 20 21), (0, u "removeMin"), (0, u "()I"), (0, .class_ 23), (0, u "com/example/routeloom/routeloom/MinQueueIsEmptyPinLaw"), (2, u "law"), (0, u "(IIIIII)Z")] 3

def k1m0 : Method := { name := "<init>", desc := "()V", sig := { parameters := [], returnType := none }, accessFlags := 1, code := none }
def k1c1 : Code := { maxStack := 4, maxLocals := 16, code := code, exceptionTable := #[], attributes := #[] }
def k1m1 : Method := { name := "law", desc := "(IIIIII)Z", sig := { parameters := [.int, .int, .int, .int, .int, .int], returnType := some .boolean }, accessFlags := 9, code := some k1c1 }
/-- com/example/routeloom/routeloom/MinQueueIsEmptyPinLaw -/
def k1 : Class := { plain "com/example/routeloom/routeloom/MinQueueIsEmptyPinLaw" (some 0) with
  accessFlags := 49
  interfaces := #[]
  cf := some (fileOf pool1 22 #[] #[{ accessFlags := 1, nameIndex := 5, descriptorIndex := 6, attributes := #[] }, { accessFlags := 9, nameIndex := 26, descriptorIndex := 27, attributes := #[] }] 49 2 #[] #[])
  fields := #[]
  methods := #[k1m0, k1m1]
  instanceTypes := #[]
  staticTypes := #[]
  resolved := Array.replicate 31 none
  statics := none }

def pool2 : Array CpInfo := pool [(1, .methodref 2 3), (0, .class_ 4), (0, .nameAndType 5 6), (0, u "java/lang/Object"), (0, u "<init>"), (0, u "()V"), (0, .fieldref 8 9), (0, .class_ 10), (0, .nameAndType 11 12), (0, u "com/example/routeloom/routeloom/MinQueue"), (0, u "keys"), (0, u "[D"), (0, .fieldref 8 14), (0, .nameAndType 15 16), (0, u "items"), (0, u "[I"), (0, .fieldref 8 18), (0, .nameAndType 19 20), (0, u "size"), (0, u "I"), (11, u "isEmpty"), (0, u "()Z"), (1, u "add"), (0, u "(ID)V"), (0, u "removeMin"), (0, u "()I")] 2

def k2c0 : Code := { maxStack := 2, maxLocals := 1, code := prog_13_method_1_code, exceptionTable := #[], attributes := #[] }
def k2m0 : Method := { name := "<init>", desc := "()V", sig := { parameters := [], returnType := none }, accessFlags := 0, code := some k2c0 }
def k2c1 : Code := { maxStack := 1, maxLocals := 1, code := prog_13_method_2_code, exceptionTable := #[], attributes := #[] }
def k2m1 : Method := { name := "isEmpty", desc := "()Z", sig := { parameters := [], returnType := some .boolean }, accessFlags := 0, code := some k2c1 }
def k2c2 : Code := { maxStack := 4, maxLocals := 6, code := prog_13_method_3_code, exceptionTable := #[], attributes := #[] }
def k2m2 : Method := { name := "add", desc := "(ID)V", sig := { parameters := [.int, .double], returnType := none }, accessFlags := 0, code := some k2c2 }
def k2c3 : Code := { maxStack := 4, maxLocals := 7, code := prog_13_method_4_code, exceptionTable := #[], attributes := #[] }
def k2m3 : Method := { name := "removeMin", desc := "()I", sig := { parameters := [], returnType := some .int }, accessFlags := 0, code := some k2c3 }
/-- com/example/routeloom/routeloom/MinQueue -/
def k2 : Class := { plain "com/example/routeloom/routeloom/MinQueue" (some 0) with
  accessFlags := 48
  interfaces := #[]
  cf := some (fileOf pool2 8 #[] #[{ accessFlags := 0, nameIndex := 5, descriptorIndex := 6, attributes := #[] }, { accessFlags := 0, nameIndex := 32, descriptorIndex := 33, attributes := #[] }, { accessFlags := 0, nameIndex := 35, descriptorIndex := 36, attributes := #[] }, { accessFlags := 0, nameIndex := 37, descriptorIndex := 38, attributes := #[] }] 48 2 #[] #[{ accessFlags := 2, nameIndex := 11, descriptorIndex := 12, attributes := #[] }, { accessFlags := 2, nameIndex := 15, descriptorIndex := 16, attributes := #[] }, { accessFlags := 2, nameIndex := 19, descriptorIndex := 20, attributes := #[] }])
  fields := #[{ name := "keys", type := (.array .double), accessFlags := 2, slot := 0, constantValue := 0 }, { name := "items", type := (.array .int), accessFlags := 2, slot := 1, constantValue := 0 }, { name := "size", type := .int, accessFlags := 2, slot := 2, constantValue := 0 }]
  methods := #[k2m0, k2m1, k2m2, k2m3]
  instanceTypes := #[(.array .double), (.array .int), .int]
  staticTypes := #[]
  resolved := Array.replicate 41 none
  statics := none }

def pool3 : Array CpInfo := pool [(1, u "java/lang/Cloneable"), (0, .class_ 1), (0, u "java/lang/Object"), (0, .class_ 3)] 3

/-- java/lang/Cloneable -/
def k3 : Class := { plain "java/lang/Cloneable" (some 0) with
  accessFlags := 1537
  interfaces := #[]
  cf := some (fileOf pool3 2 #[] #[] 1537 4 #[] #[])
  fields := #[]
  methods := #[]
  instanceTypes := #[]
  staticTypes := #[]
  resolved := Array.replicate 8 none
  statics := none }

def pool4 : Array CpInfo := pool [(1, u "java/io/Serializable"), (0, .class_ 1), (0, u "java/lang/Object"), (0, .class_ 3)] 3

/-- java/io/Serializable -/
def k4 : Class := { plain "java/io/Serializable" (some 0) with
  accessFlags := 1537
  interfaces := #[]
  cf := some (fileOf pool4 2 #[] #[] 1537 4 #[] #[])
  fields := #[]
  methods := #[]
  instanceTypes := #[]
  staticTypes := #[]
  resolved := Array.replicate 8 none
  statics := none }

/-- the primitive byte -/
def k5 : Class := { plain "byte" none with kind := .primitive 'B', accessFlags := 0x411 }
/-- [B -/
def k6 : Class := { plain "[B" (some 0) with kind := .array 5 .byte, interfaces := #[3, 4], accessFlags := 1041 }

/-- the primitive double -/
def k7 : Class := { plain "double" none with kind := .primitive 'D', accessFlags := 0x411 }
/-- [D -/
def k8 : Class := { plain "[D" (some 0) with kind := .array 7 .double, interfaces := #[3, 4], accessFlags := 1041 }

/-- the primitive int -/
def k9 : Class := { plain "int" none with kind := .primitive 'I', accessFlags := 0x411 }
/-- [I -/
def k10 : Class := { plain "[I" (some 0) with kind := .array 9 .int, interfaces := #[3, 4], accessFlags := 1041 }

def heap : Heap := #[]
def classes : Array Class := #[k0, k1, k2, k3, k4, k5, k6, k7, k8, k9, k10]
def interned : List (Array UInt16 × Addr) := []
def slotsUsed : Nat := 0
def theMethod : MethodId := ⟨1, 1⟩
def args0 : Array Value := #[.int 5, .int 5, .int 5, .int 5, .int 5, .int 5]
def aboutOver (below : List Frame) : State where
  vm := { classes := classes, interned := interned.toArray }
  heap := heap
  slotsUsed := slotsUsed
  threads := #[{ frames := .invoking theMethod args0 :: below }]
def below0 : List Frame := [.native { method := ⟨0, 0⟩, args := #[] }]
def about1 : State := aboutOver below0
def p0 : Program := .bare "" "" ""
def e0 : Env := launch0.env 0 0 0
theorem w_frames : about1.frames = Frame.invoking theMethod args0 :: below0 := rfl
set_option maxRecDepth 65536 in
theorem w_args : argsFit about1.vm theMethod args0 = true := by decide +kernel
set_option maxRecDepth 65536 in
theorem w_heap : heapFits about1 = true := by decide +kernel
set_option maxRecDepth 65536 in
theorem w_runnable : about1.curStatus? = some .runnable := by decide +kernel
set_option maxRecDepth 65536 in
theorem w_alone : about1.alone = true := by decide +kernel
set_option maxRecDepth 65536 in
theorem w_named : about1.methodNamed? x = some theMethod := by decide +kernel
set_option maxRecDepth 65536 in
theorem w_hears : about1.hears theMethod below0 = true := by decide +kernel
set_option maxRecDepth 65536 in
theorem w_ripe : about1.ripe theMethod args0 below0 = true := by decide +kernel
theorem w_running : about1.status = .running := rfl
set_option maxRecDepth 65536 in
theorem w_room : about1.hasRoom e0.platform room_1 = true :=
  launch0.hasRoom_least _ room_1 (by decide +kernel) (by decide +kernel) (by decide +kernel) (by decide +kernel) (by decide +kernel) (by decide +kernel)
theorem allAtoms_all (ts : List Jvm.Cond) (a : Array Jvm.Value) (st : Jvm.State) : (allAtoms ts).before a st = ts.all (fun c => c.before a st) := by
  induction ts with
  | nil => rfl
  | cons c t ih =>
    show (Jvm.Cond.and c (allAtoms t)).before a st = _
    rw [Jvm.Cond.before_and, ih, List.all_cons]
def words1 : List Jvm.Cond := Jvm.Cond.code x code maxLocals ret :: tables_1
/-- a 'code' word, met by the world's own term for the bytes: nothing is compared byte by byte -/
theorem code_word {y : MethodName} {bytes : ByteArray} {mx : Nat} {rt : Option FieldType} {a : Array Value} {s : State} {m : MethodId} {meth : Method} {c : Code} (h1 : s.methodNamed? y = some m) (h2 : s.vm.method? m = some meth) (h3 : meth.code = some c) (h4 : c.code = bytes)
    (h5 : (c.maxLocals == mx && c.exceptionTable.isEmpty && decide (c.maxStack ≤ mostOperands) && decide (meth.sig.returnType = rt) && !meth.locks && decide (parseMethodDescriptor y.desc = some meth.sig)) = true) : (Jvm.Cond.code y bytes mx rt).before a s = true := by
  simp only [Bool.and_eq_true, beq_iff_eq, Bool.not_eq_true', decide_eq_true_eq] at h5
  obtain ⟨⟨⟨⟨⟨g1, g2⟩, g3⟩, g4⟩, g5⟩, g6⟩ := h5
  simp [Cond.before, Cond.holds, Cond.value, h1, h2, h3, h4, g1, g2, g3, g4, g5, g6]
def isCode : Jvm.Cond → Bool
  | .code _ _ _ _ => true
  | _ => false
theorem all_split {L : List Jvm.Cond} {P : Jvm.Cond → Bool} (h1 : L.all (fun c => isCode c || P c) = true) (h2 : ∀ c ∈ L.filter isCode, P c = true) : L.all P = true := by
  refine List.all_eq_true.mpr fun c hc => ?_
  have h := List.all_eq_true.mp h1 c hc
  rcases Bool.eq_false_or_eq_true (isCode c) with hi | hi
  · exact h2 c (List.mem_filter.mpr ⟨hc, hi⟩)
  · simpa [hi] using h
set_option maxRecDepth 65536 in
theorem w_c0 : (Jvm.Cond.code x code maxLocals ret).before args0 about1 = true := code_word (m := ⟨1, 1⟩) (meth := k1m1) (c := k1c1) (by decide +kernel) rfl rfl rfl (by decide +kernel)
set_option maxRecDepth 65536 in
theorem w_c1 : (Jvm.Cond.code ({ cls := "com/example/routeloom/routeloom/MinQueue", name := "<init>", desc := "()V" } : Jvm.MethodName) prog_13_method_1_code (1 : Nat) (Option.none : Option Jvm.ClassFile.FieldType)).before args0 about1 = true := code_word (m := ⟨2, 0⟩) (meth := k2m0) (c := k2c0) (by decide +kernel) rfl rfl rfl (by decide +kernel)
set_option maxRecDepth 65536 in
theorem w_c2 : (Jvm.Cond.code ({ cls := "java/lang/Object", name := "<init>", desc := "()V" } : Jvm.MethodName) object_method_1_code (1 : Nat) (Option.none : Option Jvm.ClassFile.FieldType)).before args0 about1 = true := code_word (m := ⟨0, 0⟩) (meth := k0m0) (c := k0c0) (by decide +kernel) rfl rfl rfl (by decide +kernel)
set_option maxRecDepth 65536 in
theorem w_c3 : (Jvm.Cond.code ({ cls := "com/example/routeloom/routeloom/MinQueue", name := "isEmpty", desc := "()Z" } : Jvm.MethodName) prog_13_method_2_code (1 : Nat) (Option.some Jvm.ClassFile.FieldType.boolean)).before args0 about1 = true := code_word (m := ⟨2, 1⟩) (meth := k2m1) (c := k2c1) (by decide +kernel) rfl rfl rfl (by decide +kernel)
set_option maxRecDepth 65536 in
theorem w_c4 : (Jvm.Cond.code ({ cls := "com/example/routeloom/routeloom/MinQueue", name := "add", desc := "(ID)V" } : Jvm.MethodName) prog_13_method_3_code (6 : Nat) (Option.none : Option Jvm.ClassFile.FieldType)).before args0 about1 = true := code_word (m := ⟨2, 2⟩) (meth := k2m2) (c := k2c2) (by decide +kernel) rfl rfl rfl (by decide +kernel)
set_option maxRecDepth 65536 in
theorem w_c5 : (Jvm.Cond.code ({ cls := "com/example/routeloom/routeloom/MinQueue", name := "removeMin", desc := "()I" } : Jvm.MethodName) prog_13_method_4_code (7 : Nat) (Option.some Jvm.ClassFile.FieldType.int)).before args0 about1 = true := code_word (m := ⟨2, 3⟩) (meth := k2m3) (c := k2c3) (by decide +kernel) rfl rfl rfl (by decide +kernel)
def codes1 : List Jvm.Cond := [Jvm.Cond.code x code maxLocals ret, Jvm.Cond.code ({ cls := "com/example/routeloom/routeloom/MinQueue", name := "<init>", desc := "()V" } : Jvm.MethodName) prog_13_method_1_code (1 : Nat) (Option.none : Option Jvm.ClassFile.FieldType), Jvm.Cond.code ({ cls := "java/lang/Object", name := "<init>", desc := "()V" } : Jvm.MethodName) object_method_1_code (1 : Nat) (Option.none : Option Jvm.ClassFile.FieldType), Jvm.Cond.code ({ cls := "com/example/routeloom/routeloom/MinQueue", name := "isEmpty", desc := "()Z" } : Jvm.MethodName) prog_13_method_2_code (1 : Nat) (Option.some Jvm.ClassFile.FieldType.boolean), Jvm.Cond.code ({ cls := "com/example/routeloom/routeloom/MinQueue", name := "add", desc := "(ID)V" } : Jvm.MethodName) prog_13_method_3_code (6 : Nat) (Option.none : Option Jvm.ClassFile.FieldType), Jvm.Cond.code ({ cls := "com/example/routeloom/routeloom/MinQueue", name := "removeMin", desc := "()I" } : Jvm.MethodName) prog_13_method_4_code (7 : Nat) (Option.some Jvm.ClassFile.FieldType.int)]
set_option maxRecDepth 65536 in
theorem codes_eq : words1.filter isCode = codes1 := rfl
theorem w_codes : ∀ c ∈ words1.filter isCode, c.before args0 about1 = true := by
  rw [codes_eq]
  intro c hc
  simp only [codes1, List.mem_cons, List.not_mem_nil, or_false] at hc
  rcases hc with rfl | rfl | rfl | rfl | rfl | rfl
  · exact w_c0
  · exact w_c1
  · exact w_c2
  · exact w_c3
  · exact w_c4
  · exact w_c5
set_option maxRecDepth 65536 in
theorem w_t1 : (words1.take 24).all (fun c => isCode c || c.before args0 about1) = true := by decide +kernel
set_option maxRecDepth 65536 in
theorem w_t2 : (words1.drop 24).all (fun c => isCode c || c.before args0 about1) = true := by decide +kernel
theorem w_tables : (allAtoms (Jvm.Cond.code x code maxLocals ret :: tables_1)).before args0 about1 = true := by
  rw [allAtoms_all]
  show words1.all (fun c => c.before args0 about1) = true
  refine all_split ?_ w_codes
  rw [← List.take_append_drop 24 words1, List.all_append, w_t1, w_t2]
  rfl
set_option maxRecDepth 65536 in
theorem w_case : (Jvm.Cond.and given_1 narrow_1).before args0 about1 = true := by decide +kernel
theorem w_applies : (headSpec (Jvm.Cond.code x code maxLocals ret :: tables_1) room_1).applies x e0.platform about1 = true :=
  (Spec.applies_iff w_frames).mpr ⟨w_running, w_runnable, w_alone, w_named, w_hears, w_ripe, w_room, w_tables⟩
theorem atStart : AtStart classFile x code maxLocals ret World_1 tables_1 room_1 Calls_1 rest_1 Pre_1 launch0 p0 e0 about1 theMethod args0 below0 :=
  ⟨lists_1, trivial, launch0.admits_env _ _ _, launch0.least_env, fairChoices_fair.cas, fairChoices_fair.clock, w_frames, w_args, w_heap, w_applies, trivial, trivial, w_case⟩
end start1
theorem witness_1 : WitnessClaimed_1 := ⟨start1.p0, start1.e0, start1.about1, start1.theMethod, start1.args0, start1.below0, start1.atStart⟩
end Jvm.Pilot.@@N@@

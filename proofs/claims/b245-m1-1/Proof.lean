import JvmDerived
import JvmDerived.Pilot.@@N@@Statement
import JvmDerived.Pilot.@@N@@Code
set_option linter.unusedVariables false
set_option linter.unusedSimpArgs false
namespace Jvm.OwnWp
open Sem ClassFile Op Lib Jvm.Stand Jvm.Free Jvm.LawKit Jvm.RoadKit
/-- what holds of the method that is walked: its bytes, its class, its tables -/
def Cx (Z : State) (own nm : String) (bytes : ByteArray) (ml : Nat) (ret : Option FieldType) (p : Program) (s : State) (m : MethodId) (meth : Method) (c : Code) : Prop :=
  p.tables.exec = Jvm.exec ∧ Z.Warmed39 s.vm ∧ s.vm.findClass own = some m.cls ∧ c.code = bytes ∧ c.maxLocals = ml ∧ meth.sig.returnType = ret ∧ meth.locks = false ∧ meth.name = nm
/-- from the frame g over the heap h the method returns v at a heap of which Q holds; it has written fresh places alone -/
def Go (p : Program) (l : Launch) (e : Env) (R : Room) (s : State) (m : MethodId) (args : Array Value) (below : List Frame) (meth : Method) (c : Code) (n0 : Nat) (h : Heap) (ce sl : Nat) (g : JFrame) (Q : Option Value → Heap → Prop) : Prop :=
  ∀ (T : State) (L : List Loc), Stand p l e R s m args below meth c T L ce sl → Fr n0 L → T.heap = h →
    ∃ (s₂ : State) (v : Option Value) (L' : List Loc), Steps p.tables e below (T.setTop g) s₂ ∧ s₂.status = .running ∧ Ended s₂ below (.returned v) ∧ Fr n0 L' ∧ Q v s₂.heap ∧ FrameEnd s (.returned v) s₂ L' R.cells R.slots
/-- the contract of a method: called with the values as' over the heap h it returns as Q says -/
def Ctr (l : Launch) (Z : State) (y : MethodName) (bytes : ByteArray) (ml : Nat) (ret : Option FieldType) (ws : List Cond) (rm : Room) (n0 : Nat) (as' : Array Value) (h : Heap) (Q : Option Value → Heap → Prop) : Prop :=
  MetFree l y (head1 (Cond.code y bytes ml ret :: ws) rm) (fun a U => a = as' ∧ Z.Warmed39 U.vm ∧ U.heap = h) (fun _ _ _ _ _ => True) (fun _ U o U' => ∃ v L, o = .returned v ∧ (Q v U'.heap ∧ Fr n0 L) ∧ FrameEnd U o U' L rm.cells rm.slots)
section Walk
variable {p : Program} {l : Launch} {e : Env} {R : Room} {s : State} {m : MethodId} {args : Array Value} {below : List Frame} {meth : Method} {c : Code} {Z : State} {a0 : Array Value} {own nm : String} {bytes : ByteArray} {ml : Nat} {ret : Option FieldType} {n0 ce sl pc pc' : Nat} {h : Heap} {Ls Ls' : Array Slot} {S : List Value} {Q : Option Value → Heap → Prop}
theorem one {g g' : JFrame} (st : ∀ (T : State) (L : List Loc), Stand p l e R s m args below meth c T L ce sl → T.heap = h → ∀ t, Steps p.tables e below (T.setTop g') t → Steps p.tables e below (T.setTop g) t) (q : Go p l e R s m args below meth c n0 h ce sl g' Q) : Go p l e R s m args below meth c n0 h ce sl g Q := fun T L X N eT => by
  obtain ⟨s₂, v, L', a1, r⟩ := q T L X N eT
  exact ⟨s₂, v, L', st T L X eT _ a1, r⟩
/-- a step that goes to another state over the same heap -/
theorem oneT {g g' : JFrame} (st : ∀ (T : State) (L : List Loc), Stand p l e R s m args below meth c T L ce sl → T.heap = h → ∃ T', Stand p l e R s m args below meth c T' L ce sl ∧ T'.heap = h ∧ ∀ t, Steps p.tables e below (T'.setTop g') t → Steps p.tables e below (T.setTop g) t) (q : Go p l e R s m args below meth c n0 h ce sl g' Q) : Go p l e R s m args below meth c n0 h ce sl g Q := fun T L X N eT => by
  obtain ⟨T', X', eT', k⟩ := st T L X eT
  obtain ⟨s₂, v, L', a1, r⟩ := q T' L X' N eT'
  exact ⟨s₂, v, L', k _ a1, r⟩
theorem Go.cast {g g' : JFrame} (q : g = g') (k : Go p l e R s m args below meth c n0 h ce sl g' Q) : Go p l e R s m args below meth c n0 h ce sl g Q := q ▸ k
theorem Go.mono {g : JFrame} {Q' : Option Value → Heap → Prop} (k : Go p l e R s m args below meth c n0 h ce sl g Q') (q : ∀ v h, Q' v h → Q v h) : Go p l e R s m args below meth c n0 h ce sl g Q := fun T L X N eT => by
  obtain ⟨s₂, v, L', a1, a2, a3, a4, a5, r⟩ := k T L X N eT
  exact ⟨s₂, v, L', a1, a2, a3, a4, q _ _ a5, r⟩

theorem iloadN (K : Cx Z own nm bytes ml ret p s m meth c) {k : Fin 4} {v : Int32} (hd : decode bytes pc = .ok (.iload_n k, 1)) (hl : Ls[k.val]? = some (.val (.int v))) (hp : pc + 1 = pc') (q : Go p l e R s m args below meth c n0 h ce sl (mkF m pc' Ls (.int v :: S)) Q) : Go p l e R s m args below meth c n0 h ce sl (mkF m pc Ls S) Q := by
  subst hp; exact one (fun T L X _ t => Jvm.Free.XS.iloadN X.here K.1 rfl (hb K.2.2.2.1 hd) hl) q
theorem iload (K : Cx Z own nm bytes ml ret p s m meth c) {k : Nat} {v : Int32} (hd : decode bytes pc = .ok (.iload k, 2)) (hl : Ls[k]? = some (.val (.int v))) (hp : pc + 2 = pc') (q : Go p l e R s m args below meth c n0 h ce sl (mkF m pc' Ls (.int v :: S)) Q) : Go p l e R s m args below meth c n0 h ce sl (mkF m pc Ls S) Q := by
  subst hp; exact one (fun T L X _ t => Jvm.Free.XS.iload X.here K.1 rfl (hb K.2.2.2.1 hd) hl) q
theorem istoreN (K : Cx Z own nm bytes ml ret p s m meth c) {k : Fin 4} {v : Int32} (hd : decode bytes pc = .ok (.istore_n k, 1)) (hl : storeLocals Ls k.val (.int v) = some Ls') (hp : pc + 1 = pc') (q : Go p l e R s m args below meth c n0 h ce sl (mkF m pc' Ls' S) Q) : Go p l e R s m args below meth c n0 h ce sl (mkF m pc Ls (.int v :: S)) Q := by
  subst hp; exact one (fun T L X _ t => Jvm.Free.XS.istoreN X.here K.1 rfl (hb K.2.2.2.1 hd) rfl hl) q
theorem istore (K : Cx Z own nm bytes ml ret p s m meth c) {k : Nat} {v : Int32} (hd : decode bytes pc = .ok (.istore k, 2)) (hl : storeLocals Ls k (.int v) = some Ls') (hp : pc + 2 = pc') (q : Go p l e R s m args below meth c n0 h ce sl (mkF m pc' Ls' S) Q) : Go p l e R s m args below meth c n0 h ce sl (mkF m pc Ls (.int v :: S)) Q := by
  subst hp; exact one (fun T L X _ t => Jvm.Free.XS.istore X.here K.1 rfl (hb K.2.2.2.1 hd) rfl hl) q
theorem lloadN (K : Cx Z own nm bytes ml ret p s m meth c) {k : Fin 4} {v : Int64} (hd : decode bytes pc = .ok (.lload_n k, 1)) (hl : Ls[k.val]? = some (.val (.long v))) (hp : pc + 1 = pc') (q : Go p l e R s m args below meth c n0 h ce sl (mkF m pc' Ls (.long v :: S)) Q) : Go p l e R s m args below meth c n0 h ce sl (mkF m pc Ls S) Q := by
  subst hp; exact one (fun T L X _ t => Jvm.Free.XT.lloadN X.here K.1 rfl (hb K.2.2.2.1 hd) hl) q
theorem lload (K : Cx Z own nm bytes ml ret p s m meth c) {k : Nat} {v : Int64} (hd : decode bytes pc = .ok (.lload k, 2)) (hl : Ls[k]? = some (.val (.long v))) (hp : pc + 2 = pc') (q : Go p l e R s m args below meth c n0 h ce sl (mkF m pc' Ls (.long v :: S)) Q) : Go p l e R s m args below meth c n0 h ce sl (mkF m pc Ls S) Q := by
  subst hp; exact one (fun T L X _ t => Jvm.Free.XT.lload X.here K.1 rfl (hb K.2.2.2.1 hd) hl) q
theorem lstoreN (K : Cx Z own nm bytes ml ret p s m meth c) {k : Fin 4} {v : Int64} (hd : decode bytes pc = .ok (.lstore_n k, 1)) (hl : storeLocals Ls k.val (.long v) = some Ls') (hp : pc + 1 = pc') (q : Go p l e R s m args below meth c n0 h ce sl (mkF m pc' Ls' S) Q) : Go p l e R s m args below meth c n0 h ce sl (mkF m pc Ls (.long v :: S)) Q := by
  subst hp; exact one (fun T L X _ t => Jvm.Free.XT.lstoreN X.here K.1 rfl (hb K.2.2.2.1 hd) rfl hl) q
theorem lstore (K : Cx Z own nm bytes ml ret p s m meth c) {k : Nat} {v : Int64} (hd : decode bytes pc = .ok (.lstore k, 2)) (hl : storeLocals Ls k (.long v) = some Ls') (hp : pc + 2 = pc') (q : Go p l e R s m args below meth c n0 h ce sl (mkF m pc' Ls' S) Q) : Go p l e R s m args below meth c n0 h ce sl (mkF m pc Ls (.long v :: S)) Q := by
  subst hp; exact one (fun T L X _ t => Jvm.Free.XT.lstore X.here K.1 rfl (hb K.2.2.2.1 hd) rfl hl) q
theorem dloadN (K : Cx Z own nm bytes ml ret p s m meth c) {k : Fin 4} {v : UInt64} (hd : decode bytes pc = .ok (.dload_n k, 1)) (hl : Ls[k.val]? = some (.val (.double v))) (hp : pc + 1 = pc') (q : Go p l e R s m args below meth c n0 h ce sl (mkF m pc' Ls (.double v :: S)) Q) : Go p l e R s m args below meth c n0 h ce sl (mkF m pc Ls S) Q := by
  subst hp; exact one (fun T L X _ t => Jvm.Free.XS.dloadN X.here K.1 rfl (hb K.2.2.2.1 hd) hl) q
theorem dload (K : Cx Z own nm bytes ml ret p s m meth c) {k : Nat} {v : UInt64} (hd : decode bytes pc = .ok (.dload k, 2)) (hl : Ls[k]? = some (.val (.double v))) (hp : pc + 2 = pc') (q : Go p l e R s m args below meth c n0 h ce sl (mkF m pc' Ls (.double v :: S)) Q) : Go p l e R s m args below meth c n0 h ce sl (mkF m pc Ls S) Q := by
  subst hp; exact one (fun T L X _ t => Jvm.Free.XS.dload X.here K.1 rfl (hb K.2.2.2.1 hd) hl) q
theorem dstoreN (K : Cx Z own nm bytes ml ret p s m meth c) {k : Fin 4} {v : UInt64} (hd : decode bytes pc = .ok (.dstore_n k, 1)) (hl : storeLocals Ls k.val (.double v) = some Ls') (hp : pc + 1 = pc') (q : Go p l e R s m args below meth c n0 h ce sl (mkF m pc' Ls' S) Q) : Go p l e R s m args below meth c n0 h ce sl (mkF m pc Ls (.double v :: S)) Q := by
  subst hp; exact one (fun T L X _ t => Jvm.Free.XS.dstoreN X.here K.1 rfl (hb K.2.2.2.1 hd) rfl hl) q
theorem dstore (K : Cx Z own nm bytes ml ret p s m meth c) {k : Nat} {v : UInt64} (hd : decode bytes pc = .ok (.dstore k, 2)) (hl : storeLocals Ls k (.double v) = some Ls') (hp : pc + 2 = pc') (q : Go p l e R s m args below meth c n0 h ce sl (mkF m pc' Ls' S) Q) : Go p l e R s m args below meth c n0 h ce sl (mkF m pc Ls (.double v :: S)) Q := by
  subst hp; exact one (fun T L X _ t => Jvm.Free.XS.dstore X.here K.1 rfl (hb K.2.2.2.1 hd) rfl hl) q
theorem aloadN (K : Cx Z own nm bytes ml ret p s m meth c) {k : Fin 4} {v : Value} (hd : decode bytes pc = .ok (.aload_n k, 1)) (hl : Ls[k.val]? = some (.val v)) (hv : v.isRef = true) (hp : pc + 1 = pc') (q : Go p l e R s m args below meth c n0 h ce sl (mkF m pc' Ls (v :: S)) Q) : Go p l e R s m args below meth c n0 h ce sl (mkF m pc Ls S) Q := by
  subst hp; exact one (fun T L X _ t => Jvm.Free.XS.aloadN X.here K.1 rfl (hb K.2.2.2.1 hd) hl hv) q
theorem aload (K : Cx Z own nm bytes ml ret p s m meth c) {k : Nat} {v : Value} (hd : decode bytes pc = .ok (.aload k, 2)) (hl : Ls[k]? = some (.val v)) (hv : v.isRef = true) (hp : pc + 2 = pc') (q : Go p l e R s m args below meth c n0 h ce sl (mkF m pc' Ls (v :: S)) Q) : Go p l e R s m args below meth c n0 h ce sl (mkF m pc Ls S) Q := by
  subst hp; exact one (fun T L X _ t => Jvm.Free.XS.aload X.here K.1 rfl (hb K.2.2.2.1 hd) hl hv) q
theorem astoreN (K : Cx Z own nm bytes ml ret p s m meth c) {k : Fin 4} {v : Value} (hd : decode bytes pc = .ok (.astore_n k, 1)) (hv : v.isRef = true) (hl : storeLocals Ls k.val v = some Ls') (hp : pc + 1 = pc') (q : Go p l e R s m args below meth c n0 h ce sl (mkF m pc' Ls' S) Q) : Go p l e R s m args below meth c n0 h ce sl (mkF m pc Ls (v :: S)) Q := by
  subst hp; exact one (fun T L X _ t => Jvm.Free.XS.astoreN X.here K.1 rfl (hb K.2.2.2.1 hd) rfl hv hl) q
theorem astore (K : Cx Z own nm bytes ml ret p s m meth c) {k : Nat} {v : Value} (hd : decode bytes pc = .ok (.astore k, 2)) (hv : v.isRef = true) (hl : storeLocals Ls k v = some Ls') (hp : pc + 2 = pc') (q : Go p l e R s m args below meth c n0 h ce sl (mkF m pc' Ls' S) Q) : Go p l e R s m args below meth c n0 h ce sl (mkF m pc Ls (v :: S)) Q := by
  subst hp; exact one (fun T L X _ t => Jvm.Free.XS.astore X.here K.1 rfl (hb K.2.2.2.1 hd) rfl hv hl) q
theorem iconst (K : Cx Z own nm bytes ml ret p s m meth c) {i : Int} (v : Int32) (hd : decode bytes pc = .ok (.iconst i, 1)) (hv : Int32.ofInt i = v) (hp : pc + 1 = pc') (q : Go p l e R s m args below meth c n0 h ce sl (mkF m pc' Ls (.int v :: S)) Q) : Go p l e R s m args below meth c n0 h ce sl (mkF m pc Ls S) Q := by
  subst hp; exact one (fun T L X _ t => Jvm.Free.XT.iconstV X.here K.1 rfl v (hb K.2.2.2.1 hd) hv) q
theorem bipush (K : Cx Z own nm bytes ml ret p s m meth c) {i : Int} (v : Int32) (hd : decode bytes pc = .ok (.bipush i, 2)) (hv : (Int8.ofInt i).toInt32 = v) (hp : pc + 2 = pc') (q : Go p l e R s m args below meth c n0 h ce sl (mkF m pc' Ls (.int v :: S)) Q) : Go p l e R s m args below meth c n0 h ce sl (mkF m pc Ls S) Q := by
  subst hp; exact one (fun T L X _ t => Jvm.Free.XT.bipushV X.here K.1 rfl v (hb K.2.2.2.1 hd) hv) q
theorem sipush (K : Cx Z own nm bytes ml ret p s m meth c) {i : Int} (v : Int32) (hd : decode bytes pc = .ok (.sipush i, 3)) (hv : (Int16.ofInt i).toInt32 = v) (hp : pc + 3 = pc') (q : Go p l e R s m args below meth c n0 h ce sl (mkF m pc' Ls (.int v :: S)) Q) : Go p l e R s m args below meth c n0 h ce sl (mkF m pc Ls S) Q := by
  subst hp; exact one (fun T L X _ t => Jvm.Free.XT.sipushV X.here K.1 rfl v (hb K.2.2.2.1 hd) hv) q
theorem lconst (K : Cx Z own nm bytes ml ret p s m meth c) {i : Fin 2} (v : Int64) (hd : decode bytes pc = .ok (.lconst i, 1)) (hv : Int64.ofNat i = v) (hp : pc + 1 = pc') (q : Go p l e R s m args below meth c n0 h ce sl (mkF m pc' Ls (.long v :: S)) Q) : Go p l e R s m args below meth c n0 h ce sl (mkF m pc Ls S) Q := by
  subst hp; exact one (fun T L X _ t => Jvm.Free.XT.lconstV X.here K.1 rfl v (hb K.2.2.2.1 hd) hv) q
theorem istoreS (K : Cx Z own nm bytes ml ret p s m meth c) {k : Nat} {x : Int32} {o : Slot} (hd : decode bytes pc = .ok (.istore k, 2)) (hold : Ls[k]? = some o) (ho : One o) (hl : Ls.setIfInBounds k (.val (.int x)) = Ls') (hp : pc + 2 = pc') (q : Go p l e R s m args below meth c n0 h ce sl (mkF m pc' Ls' S) Q) : Go p l e R s m args below meth c n0 h ce sl (mkF m pc Ls (.int x :: S)) Q := by
  subst hp hl; exact one (fun T L X _ t => Jvm.Free.XS.istoreS X.here K.1 rfl (hb K.2.2.2.1 hd) rfl hold ho) q
theorem dconst0 (K : Cx Z own nm bytes ml ret p s m meth c) {v : UInt64} (hd : decode bytes pc = .ok (.dconst 0, 1)) (hv : FP.dconst0 = v) (hp : pc + 1 = pc') (q : Go p l e R s m args below meth c n0 h ce sl (mkF m pc' Ls (.double v :: S)) Q) : Go p l e R s m args below meth c n0 h ce sl (mkF m pc Ls S) Q := by
  subst hp; exact one (fun T L X _ t => Jvm.Free.XS.dconst0 X.here K.1 rfl (hb K.2.2.2.1 hd) hv) q
theorem dconst1 (K : Cx Z own nm bytes ml ret p s m meth c) {v : UInt64} (hd : decode bytes pc = .ok (.dconst 1, 1)) (hv : FP.dconst1 = v) (hp : pc + 1 = pc') (q : Go p l e R s m args below meth c n0 h ce sl (mkF m pc' Ls (.double v :: S)) Q) : Go p l e R s m args below meth c n0 h ce sl (mkF m pc Ls S) Q := by
  subst hp; exact one (fun T L X _ t => Jvm.Free.XS.dconst1 X.here K.1 rfl (hb K.2.2.2.1 hd) hv) q
theorem anull (K : Cx Z own nm bytes ml ret p s m meth c) (hd : decode bytes pc = .ok (.aconst_null, 1)) (hp : pc + 1 = pc') (q : Go p l e R s m args below meth c n0 h ce sl (mkF m pc' Ls (.null :: S)) Q) : Go p l e R s m args below meth c n0 h ce sl (mkF m pc Ls S) Q := by
  subst hp; exact one (fun T L X _ t => Jvm.Free.XS.aconstNull X.here K.1 rfl (hb K.2.2.2.1 hd) ) q
theorem iinc (K : Cx Z own nm bytes ml ret p s m meth c) {k : Nat} {i : Int} {x : Int32} (v : Int32) (hd : decode bytes pc = .ok (.iinc k i, 3)) (hv : Int32.ofInt i = v) (hl : Ls[k]? = some (.val (.int x))) (hl' : storeLocals Ls k (.int (x + v)) = some Ls') (hp : pc + 3 = pc') (q : Go p l e R s m args below meth c n0 h ce sl (mkF m pc' Ls' S) Q) : Go p l e R s m args below meth c n0 h ce sl (mkF m pc Ls S) Q := by
  subst hp; exact one (fun T L X _ t => Jvm.Free.XT.iincV X.here K.1 rfl v (hb K.2.2.2.1 hd) hv hl hl') q
theorem iadd (K : Cx Z own nm bytes ml ret p s m meth c) {x y : Int32} (hd : decode bytes pc = .ok (.iadd, 1)) (hp : pc + 1 = pc') (q : Go p l e R s m args below meth c n0 h ce sl (mkF m pc' Ls (.int (x + y) :: S)) Q) : Go p l e R s m args below meth c n0 h ce sl (mkF m pc Ls (.int y :: .int x :: S)) Q := by
  subst hp; exact one (fun T L X _ t => Jvm.Free.XS.iadd X.here K.1 rfl (hb K.2.2.2.1 hd) rfl) q
theorem isub (K : Cx Z own nm bytes ml ret p s m meth c) {x y : Int32} (hd : decode bytes pc = .ok (.isub, 1)) (hp : pc + 1 = pc') (q : Go p l e R s m args below meth c n0 h ce sl (mkF m pc' Ls (.int (x - y) :: S)) Q) : Go p l e R s m args below meth c n0 h ce sl (mkF m pc Ls (.int y :: .int x :: S)) Q := by
  subst hp; exact one (fun T L X _ t => Jvm.Free.XS.isub X.here K.1 rfl (hb K.2.2.2.1 hd) rfl) q
theorem imul (K : Cx Z own nm bytes ml ret p s m meth c) {x y : Int32} (hd : decode bytes pc = .ok (.imul, 1)) (hp : pc + 1 = pc') (q : Go p l e R s m args below meth c n0 h ce sl (mkF m pc' Ls (.int (x * y) :: S)) Q) : Go p l e R s m args below meth c n0 h ce sl (mkF m pc Ls (.int y :: .int x :: S)) Q := by
  subst hp; exact one (fun T L X _ t => Jvm.Free.XS.imul X.here K.1 rfl (hb K.2.2.2.1 hd) rfl) q
theorem iand (K : Cx Z own nm bytes ml ret p s m meth c) {x y : Int32} (hd : decode bytes pc = .ok (.iand, 1)) (hp : pc + 1 = pc') (q : Go p l e R s m args below meth c n0 h ce sl (mkF m pc' Ls (.int (x &&& y) :: S)) Q) : Go p l e R s m args below meth c n0 h ce sl (mkF m pc Ls (.int y :: .int x :: S)) Q := by
  subst hp; exact one (fun T L X _ t => Jvm.Free.XS.iand X.here K.1 rfl (hb K.2.2.2.1 hd) rfl) q
theorem ior (K : Cx Z own nm bytes ml ret p s m meth c) {x y : Int32} (hd : decode bytes pc = .ok (.ior, 1)) (hp : pc + 1 = pc') (q : Go p l e R s m args below meth c n0 h ce sl (mkF m pc' Ls (.int (x ||| y) :: S)) Q) : Go p l e R s m args below meth c n0 h ce sl (mkF m pc Ls (.int y :: .int x :: S)) Q := by
  subst hp; exact one (fun T L X _ t => Jvm.Free.XT.ior X.here K.1 rfl (hb K.2.2.2.1 hd) rfl) q
theorem ixor (K : Cx Z own nm bytes ml ret p s m meth c) {x y : Int32} (hd : decode bytes pc = .ok (.ixor, 1)) (hp : pc + 1 = pc') (q : Go p l e R s m args below meth c n0 h ce sl (mkF m pc' Ls (.int (x ^^^ y) :: S)) Q) : Go p l e R s m args below meth c n0 h ce sl (mkF m pc Ls (.int y :: .int x :: S)) Q := by
  subst hp; exact one (fun T L X _ t => Jvm.Free.XT.ixor X.here K.1 rfl (hb K.2.2.2.1 hd) rfl) q
theorem ishl (K : Cx Z own nm bytes ml ret p s m meth c) {x y : Int32} (hd : decode bytes pc = .ok (.ishl, 1)) (hp : pc + 1 = pc') (q : Go p l e R s m args below meth c n0 h ce sl (mkF m pc' Ls (.int (x <<< (y &&& 31)) :: S)) Q) : Go p l e R s m args below meth c n0 h ce sl (mkF m pc Ls (.int y :: .int x :: S)) Q := by
  subst hp; exact one (fun T L X _ t => Jvm.Free.XT.ishl X.here K.1 rfl (hb K.2.2.2.1 hd) rfl) q
theorem ishr (K : Cx Z own nm bytes ml ret p s m meth c) {x y : Int32} (hd : decode bytes pc = .ok (.ishr, 1)) (hp : pc + 1 = pc') (q : Go p l e R s m args below meth c n0 h ce sl (mkF m pc' Ls (.int (x >>> (y &&& 31)) :: S)) Q) : Go p l e R s m args below meth c n0 h ce sl (mkF m pc Ls (.int y :: .int x :: S)) Q := by
  subst hp; exact one (fun T L X _ t => Jvm.Free.XT.ishr X.here K.1 rfl (hb K.2.2.2.1 hd) rfl) q
theorem iushr (K : Cx Z own nm bytes ml ret p s m meth c) {x y : Int32} (hd : decode bytes pc = .ok (.iushr, 1)) (hp : pc + 1 = pc') (q : Go p l e R s m args below meth c n0 h ce sl (mkF m pc' Ls (.int ((x.toUInt32 >>> (y &&& 31).toUInt32).toInt32) :: S)) Q) : Go p l e R s m args below meth c n0 h ce sl (mkF m pc Ls (.int y :: .int x :: S)) Q := by
  subst hp; exact one (fun T L X _ t => Jvm.Free.XT.iushr X.here K.1 rfl (hb K.2.2.2.1 hd) rfl) q
theorem irem_mod (x y : Int32) : x - (x / y) * y = x % y := by
  apply Int32.toInt_inj.mp
  have h1 := Int32.le_toInt (x % y)
  have h2 := Int32.toInt_lt (x % y)
  rw [Int32.toInt_sub, Int32.toInt_mul, Int32.toInt_div, Int.bmod_mul_bmod, Int.sub_bmod_bmod, Int.mul_comm (x.toInt.tdiv y.toInt), ← Int.tmod_def, ← Int32.toInt_mod]
  exact Int.bmod_eq_of_le_mul_two (by omega) (by omega)
theorem irem (K : Cx Z own nm bytes ml ret p s m meth c) {x y : Int32} (hd : decode bytes pc = .ok (.irem, 1)) (hy : y ≠ 0) (hp : pc + 1 = pc') (q : Go p l e R s m args below meth c n0 h ce sl (mkF m pc' Ls (.int (x % y) :: S)) Q) : Go p l e R s m args below meth c n0 h ce sl (mkF m pc Ls (.int y :: .int x :: S)) Q := by
  subst hp; rw [← irem_mod] at q; exact one (fun T L X _ t => Jvm.Free.XS.irem X.here K.1 rfl (hb K.2.2.2.1 hd) rfl hy) q
theorem idiv (K : Cx Z own nm bytes ml ret p s m meth c) {x y : Int32} (hd : decode bytes pc = .ok (.idiv, 1)) (hy : y ≠ 0) (hp : pc + 1 = pc') (q : Go p l e R s m args below meth c n0 h ce sl (mkF m pc' Ls (.int (x / y) :: S)) Q) : Go p l e R s m args below meth c n0 h ce sl (mkF m pc Ls (.int y :: .int x :: S)) Q := by
  subst hp; exact one (fun T L X _ t => Jvm.Free.XS.idiv X.here K.1 rfl (hb K.2.2.2.1 hd) rfl hy) q
theorem ladd (K : Cx Z own nm bytes ml ret p s m meth c) {x y : Int64} (hd : decode bytes pc = .ok (.ladd, 1)) (hp : pc + 1 = pc') (q : Go p l e R s m args below meth c n0 h ce sl (mkF m pc' Ls (.long (x + y) :: S)) Q) : Go p l e R s m args below meth c n0 h ce sl (mkF m pc Ls (.long y :: .long x :: S)) Q := by
  subst hp; exact one (fun T L X _ t => Jvm.Free.XT.ladd X.here K.1 rfl (hb K.2.2.2.1 hd) rfl) q
theorem lsub (K : Cx Z own nm bytes ml ret p s m meth c) {x y : Int64} (hd : decode bytes pc = .ok (.lsub, 1)) (hp : pc + 1 = pc') (q : Go p l e R s m args below meth c n0 h ce sl (mkF m pc' Ls (.long (x - y) :: S)) Q) : Go p l e R s m args below meth c n0 h ce sl (mkF m pc Ls (.long y :: .long x :: S)) Q := by
  subst hp; exact one (fun T L X _ t => Jvm.Free.XT.lsub X.here K.1 rfl (hb K.2.2.2.1 hd) rfl) q
theorem lmul (K : Cx Z own nm bytes ml ret p s m meth c) {x y : Int64} (hd : decode bytes pc = .ok (.lmul, 1)) (hp : pc + 1 = pc') (q : Go p l e R s m args below meth c n0 h ce sl (mkF m pc' Ls (.long (x * y) :: S)) Q) : Go p l e R s m args below meth c n0 h ce sl (mkF m pc Ls (.long y :: .long x :: S)) Q := by
  subst hp; exact one (fun T L X _ t => Jvm.Free.XT.lmul X.here K.1 rfl (hb K.2.2.2.1 hd) rfl) q
theorem land (K : Cx Z own nm bytes ml ret p s m meth c) {x y : Int64} (hd : decode bytes pc = .ok (.land, 1)) (hp : pc + 1 = pc') (q : Go p l e R s m args below meth c n0 h ce sl (mkF m pc' Ls (.long (x &&& y) :: S)) Q) : Go p l e R s m args below meth c n0 h ce sl (mkF m pc Ls (.long y :: .long x :: S)) Q := by
  subst hp; exact one (fun T L X _ t => Jvm.Free.XT.land X.here K.1 rfl (hb K.2.2.2.1 hd) rfl) q
theorem lor (K : Cx Z own nm bytes ml ret p s m meth c) {x y : Int64} (hd : decode bytes pc = .ok (.lor, 1)) (hp : pc + 1 = pc') (q : Go p l e R s m args below meth c n0 h ce sl (mkF m pc' Ls (.long (x ||| y) :: S)) Q) : Go p l e R s m args below meth c n0 h ce sl (mkF m pc Ls (.long y :: .long x :: S)) Q := by
  subst hp; exact one (fun T L X _ t => Jvm.Free.XT.lor X.here K.1 rfl (hb K.2.2.2.1 hd) rfl) q
theorem lxor (K : Cx Z own nm bytes ml ret p s m meth c) {x y : Int64} (hd : decode bytes pc = .ok (.lxor, 1)) (hp : pc + 1 = pc') (q : Go p l e R s m args below meth c n0 h ce sl (mkF m pc' Ls (.long (x ^^^ y) :: S)) Q) : Go p l e R s m args below meth c n0 h ce sl (mkF m pc Ls (.long y :: .long x :: S)) Q := by
  subst hp; exact one (fun T L X _ t => Jvm.Free.XT.lxor X.here K.1 rfl (hb K.2.2.2.1 hd) rfl) q
theorem lshl (K : Cx Z own nm bytes ml ret p s m meth c) {x : Int64} {y : Int32} (hd : decode bytes pc = .ok (.lshl, 1)) (hp : pc + 1 = pc') (q : Go p l e R s m args below meth c n0 h ce sl (mkF m pc' Ls (.long (x <<< (y.toInt64 &&& 63)) :: S)) Q) : Go p l e R s m args below meth c n0 h ce sl (mkF m pc Ls (.int y :: .long x :: S)) Q := by
  subst hp; exact one (fun T L X _ t => Jvm.Free.XT.lshl X.here K.1 rfl (hb K.2.2.2.1 hd) rfl) q
theorem lshr (K : Cx Z own nm bytes ml ret p s m meth c) {x : Int64} {y : Int32} (hd : decode bytes pc = .ok (.lshr, 1)) (hp : pc + 1 = pc') (q : Go p l e R s m args below meth c n0 h ce sl (mkF m pc' Ls (.long (x >>> (y.toInt64 &&& 63)) :: S)) Q) : Go p l e R s m args below meth c n0 h ce sl (mkF m pc Ls (.int y :: .long x :: S)) Q := by
  subst hp; exact one (fun T L X _ t => Jvm.Free.XT.lshr X.here K.1 rfl (hb K.2.2.2.1 hd) rfl) q
theorem lushr (K : Cx Z own nm bytes ml ret p s m meth c) {x : Int64} {y : Int32} (hd : decode bytes pc = .ok (.lushr, 1)) (hp : pc + 1 = pc') (q : Go p l e R s m args below meth c n0 h ce sl (mkF m pc' Ls (.long (XT.ushrL x y) :: S)) Q) : Go p l e R s m args below meth c n0 h ce sl (mkF m pc Ls (.int y :: .long x :: S)) Q := by
  subst hp; exact one (fun T L X _ t => Jvm.Free.XT.lushr X.here K.1 rfl (hb K.2.2.2.1 hd) rfl) q
theorem ldiv (K : Cx Z own nm bytes ml ret p s m meth c) {x y : Int64} (hd : decode bytes pc = .ok (.ldiv, 1)) (hy : y ≠ 0) (hp : pc + 1 = pc') (q : Go p l e R s m args below meth c n0 h ce sl (mkF m pc' Ls (.long (x / y) :: S)) Q) : Go p l e R s m args below meth c n0 h ce sl (mkF m pc Ls (.long y :: .long x :: S)) Q := by
  subst hp; exact one (fun T L X _ t => Jvm.Free.XT.ldiv X.here K.1 rfl (hb K.2.2.2.1 hd) rfl hy) q
theorem lrem (K : Cx Z own nm bytes ml ret p s m meth c) {x y : Int64} (hd : decode bytes pc = .ok (.lrem, 1)) (hy : y ≠ 0) (hp : pc + 1 = pc') (q : Go p l e R s m args below meth c n0 h ce sl (mkF m pc' Ls (.long (x % y) :: S)) Q) : Go p l e R s m args below meth c n0 h ce sl (mkF m pc Ls (.long y :: .long x :: S)) Q := by
  subst hp; rw [← lrem_mod] at q; exact one (fun T L X _ t => Jvm.Free.XT.lrem X.here K.1 rfl (hb K.2.2.2.1 hd) rfl hy) q
theorem lcmp (K : Cx Z own nm bytes ml ret p s m meth c) {x y : Int64} (hd : decode bytes pc = .ok (.lcmp, 1)) (hp : pc + 1 = pc') (q : Go p l e R s m args below meth c n0 h ce sl (mkF m pc' Ls (.int (XT.cmpL x y) :: S)) Q) : Go p l e R s m args below meth c n0 h ce sl (mkF m pc Ls (.long y :: .long x :: S)) Q := by
  subst hp; exact one (fun T L X _ t => Jvm.Free.XT.lcmp X.here K.1 rfl (hb K.2.2.2.1 hd) rfl) q
theorem i2l (K : Cx Z own nm bytes ml ret p s m meth c) {x : Int32} (hd : decode bytes pc = .ok (.i2l, 1)) (hp : pc + 1 = pc') (q : Go p l e R s m args below meth c n0 h ce sl (mkF m pc' Ls (.long x.toInt64 :: S)) Q) : Go p l e R s m args below meth c n0 h ce sl (mkF m pc Ls (.int x :: S)) Q := by
  subst hp; exact one (fun T L X _ t => Jvm.Free.XT.i2l X.here K.1 rfl (hb K.2.2.2.1 hd) rfl) q
theorem l2i (K : Cx Z own nm bytes ml ret p s m meth c) {x : Int64} (hd : decode bytes pc = .ok (.l2i, 1)) (hp : pc + 1 = pc') (q : Go p l e R s m args below meth c n0 h ce sl (mkF m pc' Ls (.int x.toInt32 :: S)) Q) : Go p l e R s m args below meth c n0 h ce sl (mkF m pc Ls (.long x :: S)) Q := by
  subst hp; exact one (fun T L X _ t => Jvm.Free.XT.l2i X.here K.1 rfl (hb K.2.2.2.1 hd) rfl) q
theorem i2c (K : Cx Z own nm bytes ml ret p s m meth c) {x : Int32} (hd : decode bytes pc = .ok (.i2c, 1)) (hp : pc + 1 = pc') (q : Go p l e R s m args below meth c n0 h ce sl (mkF m pc' Ls (.int x.toUInt32.toUInt16.toUInt32.toInt32 :: S)) Q) : Go p l e R s m args below meth c n0 h ce sl (mkF m pc Ls (.int x :: S)) Q := by
  subst hp; exact one (fun T L X _ t => Jvm.Free.XT.i2c X.here K.1 rfl (hb K.2.2.2.1 hd) rfl) q
theorem i2b (K : Cx Z own nm bytes ml ret p s m meth c) {x : Int32} (hd : decode bytes pc = .ok (.i2b, 1)) (hp : pc + 1 = pc') (q : Go p l e R s m args below meth c n0 h ce sl (mkF m pc' Ls (.int x.toInt8.toInt32 :: S)) Q) : Go p l e R s m args below meth c n0 h ce sl (mkF m pc Ls (.int x :: S)) Q := by
  subst hp; exact one (fun T L X _ t => Jvm.Free.XT.i2b X.here K.1 rfl (hb K.2.2.2.1 hd) rfl) q
theorem i2d (K : Cx Z own nm bytes ml ret p s m meth c) {x : Int32} (hd : decode bytes pc = .ok (.i2d, 1)) (hp : pc + 1 = pc') (q : Go p l e R s m args below meth c n0 h ce sl (mkF m pc' Ls (.double (FP.i2d x) :: S)) Q) : Go p l e R s m args below meth c n0 h ce sl (mkF m pc Ls (.int x :: S)) Q := by
  subst hp; exact one (fun T L X _ t => Jvm.Free.XS.i2dS X.here K.1 rfl (hb K.2.2.2.1 hd) rfl rfl) q
theorem l2d (K : Cx Z own nm bytes ml ret p s m meth c) {x : Int64} (hd : decode bytes pc = .ok (.l2d, 1)) (hp : pc + 1 = pc') (q : Go p l e R s m args below meth c n0 h ce sl (mkF m pc' Ls (.double (FP.l2d x) :: S)) Q) : Go p l e R s m args below meth c n0 h ce sl (mkF m pc Ls (.long x :: S)) Q := by
  subst hp; exact one (fun T L X _ t => Jvm.Free.XS.l2dS X.here K.1 rfl (hb K.2.2.2.1 hd) rfl rfl) q
theorem d2l (K : Cx Z own nm bytes ml ret p s m meth c) {x : UInt64} (hd : decode bytes pc = .ok (.d2l, 1)) (hp : pc + 1 = pc') (q : Go p l e R s m args below meth c n0 h ce sl (mkF m pc' Ls (.long (FP.d2l x) :: S)) Q) : Go p l e R s m args below meth c n0 h ce sl (mkF m pc Ls (.double x :: S)) Q := by
  subst hp; exact one (fun T L X _ t => Jvm.Free.XS.d2lS X.here K.1 rfl (hb K.2.2.2.1 hd) rfl rfl) q
theorem d2i (K : Cx Z own nm bytes ml ret p s m meth c) {x : UInt64} (hd : decode bytes pc = .ok (.d2i, 1)) (hp : pc + 1 = pc') (q : Go p l e R s m args below meth c n0 h ce sl (mkF m pc' Ls (.int (FP.d2i x) :: S)) Q) : Go p l e R s m args below meth c n0 h ce sl (mkF m pc Ls (.double x :: S)) Q := by
  subst hp; exact one (fun T L X _ t => Jvm.Free.XS.d2iS X.here K.1 rfl (hb K.2.2.2.1 hd) rfl rfl) q
theorem dadd (K : Cx Z own nm bytes ml ret p s m meth c) {x y : UInt64} (hd : decode bytes pc = .ok (.dadd, 1)) (hn : Jvm.Free.Fl.NoNaN64 (FP.dadd x y)) (hp : pc + 1 = pc') (q : Go p l e R s m args below meth c n0 h ce sl (mkF m pc' Ls (.double (FP.dadd x y) :: S)) Q) : Go p l e R s m args below meth c n0 h ce sl (mkF m pc Ls (.double y :: .double x :: S)) Q := by
  subst hp; exact one (fun T L X _ t => Jvm.Free.XS.daddS X.here K.1 rfl (hb K.2.2.2.1 hd) rfl hn rfl) q
theorem dsub (K : Cx Z own nm bytes ml ret p s m meth c) {x y : UInt64} (hd : decode bytes pc = .ok (.dsub, 1)) (hn : Jvm.Free.Fl.NoNaN64 (FP.dsub x y)) (hp : pc + 1 = pc') (q : Go p l e R s m args below meth c n0 h ce sl (mkF m pc' Ls (.double (FP.dsub x y) :: S)) Q) : Go p l e R s m args below meth c n0 h ce sl (mkF m pc Ls (.double y :: .double x :: S)) Q := by
  subst hp; exact one (fun T L X _ t => Jvm.Free.XS.dsubS X.here K.1 rfl (hb K.2.2.2.1 hd) rfl hn rfl) q
theorem dmul (K : Cx Z own nm bytes ml ret p s m meth c) {x y : UInt64} (hd : decode bytes pc = .ok (.dmul, 1)) (hn : Jvm.Free.Fl.NoNaN64 (FP.dmul x y)) (hp : pc + 1 = pc') (q : Go p l e R s m args below meth c n0 h ce sl (mkF m pc' Ls (.double (FP.dmul x y) :: S)) Q) : Go p l e R s m args below meth c n0 h ce sl (mkF m pc Ls (.double y :: .double x :: S)) Q := by
  subst hp; exact one (fun T L X _ t => Jvm.Free.XS.dmulS X.here K.1 rfl (hb K.2.2.2.1 hd) rfl hn rfl) q
theorem ddiv (K : Cx Z own nm bytes ml ret p s m meth c) {x y : UInt64} (hd : decode bytes pc = .ok (.ddiv, 1)) (hn : Jvm.Free.Fl.NoNaN64 (FP.ddiv x y)) (hp : pc + 1 = pc') (q : Go p l e R s m args below meth c n0 h ce sl (mkF m pc' Ls (.double (FP.ddiv x y) :: S)) Q) : Go p l e R s m args below meth c n0 h ce sl (mkF m pc Ls (.double y :: .double x :: S)) Q := by
  subst hp; exact one (fun T L X _ t => Jvm.Free.XS.ddivS X.here K.1 rfl (hb K.2.2.2.1 hd) rfl hn rfl) q
theorem dcmp (K : Cx Z own nm bytes ml ret p s m meth c) {o : CmpOp} {x y : UInt64} (hd : decode bytes pc = .ok (.dcmp o, 1)) (hp : pc + 1 = pc') (q : Go p l e R s m args below meth c n0 h ce sl (mkF m pc' Ls (.int (cmpValue (FP.dcmp x y) o) :: S)) Q) : Go p l e R s m args below meth c n0 h ce sl (mkF m pc Ls (.double y :: .double x :: S)) Q := by
  subst hp; exact one (fun T L X _ t => Jvm.Free.XS.dcmpS X.here K.1 rfl (hb K.2.2.2.1 hd) rfl rfl) q
theorem dup (K : Cx Z own nm bytes ml ret p s m meth c) {x : Value} (hd : decode bytes pc = .ok (.dup, 1)) (hc : x.category = 1) (hp : pc + 1 = pc') (q : Go p l e R s m args below meth c n0 h ce sl (mkF m pc' Ls (x :: x :: S)) Q) : Go p l e R s m args below meth c n0 h ce sl (mkF m pc Ls (x :: S)) Q := by
  subst hp; exact one (fun T L X _ t => Jvm.Free.XS.dup X.here K.1 rfl (hb K.2.2.2.1 hd) rfl hc) q
theorem pop (K : Cx Z own nm bytes ml ret p s m meth c) {x : Value} (hd : decode bytes pc = .ok (.pop, 1)) (hc : x.category = 1) (hp : pc + 1 = pc') (q : Go p l e R s m args below meth c n0 h ce sl (mkF m pc' Ls S) Q) : Go p l e R s m args below meth c n0 h ce sl (mkF m pc Ls (x :: S)) Q := by
  subst hp; exact one (fun T L X _ t => Jvm.Free.XT.pop X.here K.1 rfl (hb K.2.2.2.1 hd) rfl hc) q
theorem dupX1 (K : Cx Z own nm bytes ml ret p s m meth c) {x y : Value} (hd : decode bytes pc = .ok (.dup_x1, 1)) (hc : x.category = 1) (hc' : y.category = 1) (hp : pc + 1 = pc') (q : Go p l e R s m args below meth c n0 h ce sl (mkF m pc' Ls (x :: y :: x :: S)) Q) : Go p l e R s m args below meth c n0 h ce sl (mkF m pc Ls (x :: y :: S)) Q := by
  subst hp; exact one (fun T L X _ t => Jvm.Free.XT.dupX1 X.here K.1 rfl (hb K.2.2.2.1 hd) rfl hc hc') q
theorem dup2 (K : Cx Z own nm bytes ml ret p s m meth c) {x y : Value} (hd : decode bytes pc = .ok (.dup2, 1)) (hc : x.category = 1) (hc' : y.category = 1) (hp : pc + 1 = pc') (q : Go p l e R s m args below meth c n0 h ce sl (mkF m pc' Ls (x :: y :: x :: y :: S)) Q) : Go p l e R s m args below meth c n0 h ce sl (mkF m pc Ls (x :: y :: S)) Q := by
  subst hp; exact one (fun T L X _ t => Jvm.Free.XT.dup2 X.here K.1 rfl (hb K.2.2.2.1 hd) rfl hc hc') q
theorem dup2L (K : Cx Z own nm bytes ml ret p s m meth c) {x : Int64} (hd : decode bytes pc = .ok (.dup2, 1)) (hp : pc + 1 = pc') (q : Go p l e R s m args below meth c n0 h ce sl (mkF m pc' Ls (.long x :: .long x :: S)) Q) : Go p l e R s m args below meth c n0 h ce sl (mkF m pc Ls (.long x :: S)) Q := by
  subst hp; exact one (fun T L X _ t => Jvm.Free.XT.dup2L X.here K.1 rfl (hb K.2.2.2.1 hd) rfl) q
theorem goto' (K : Cx Z own nm bytes ml ret p s m meth c) {o : Int} (hd : decode bytes pc = .ok (.goto o, 3)) (ho : 0 ≤ (pc : Int) + o) (hp : ((pc : Int) + o).toNat = pc') (q : Go p l e R s m args below meth c n0 h ce sl (mkF m pc' Ls S) Q) : Go p l e R s m args below meth c n0 h ce sl (mkF m pc Ls S) Q :=
  one (fun T L X _ t => Jvm.Free.XS.goto X.here K.1 rfl rfl (hb K.2.2.2.1 hd) ho hp) q
theorem ifY (K : Cx Z own nm bytes ml ret p s m meth c) {cd : ClassFile.Cond} {o : Int} {x : Int32} (hd : decode bytes pc = .ok (.ifCond cd o, 3)) (hc : ifCond.holds cd x = true) (ho : 0 ≤ (pc : Int) + o) (hp : ((pc : Int) + o).toNat = pc') (q : Go p l e R s m args below meth c n0 h ce sl (mkF m pc' Ls S) Q) : Go p l e R s m args below meth c n0 h ce sl (mkF m pc Ls (.int x :: S)) Q :=
  one (fun T L X _ t => Jvm.Free.XS.ifYes X.here K.1 rfl rfl (hb K.2.2.2.1 hd) rfl hc ho hp) q
theorem ifN (K : Cx Z own nm bytes ml ret p s m meth c) {cd : ClassFile.Cond} {o : Int} {x : Int32} (hd : decode bytes pc = .ok (.ifCond cd o, 3)) (hc : ifCond.holds cd x = false) (hp : pc + 3 = pc') (q : Go p l e R s m args below meth c n0 h ce sl (mkF m pc' Ls S) Q) : Go p l e R s m args below meth c n0 h ce sl (mkF m pc Ls (.int x :: S)) Q := by
  subst hp; exact one (fun T L X _ t => Jvm.Free.XS.ifNo X.here K.1 rfl (hb K.2.2.2.1 hd) rfl hc) q
theorem icY (K : Cx Z own nm bytes ml ret p s m meth c) {cd : ClassFile.Cond} {o : Int} {x y : Int32} (hd : decode bytes pc = .ok (.if_icmp cd o, 3)) (hc : if_icmp.holds cd x y = true) (ho : 0 ≤ (pc : Int) + o) (hp : ((pc : Int) + o).toNat = pc') (q : Go p l e R s m args below meth c n0 h ce sl (mkF m pc' Ls S) Q) : Go p l e R s m args below meth c n0 h ce sl (mkF m pc Ls (.int y :: .int x :: S)) Q :=
  one (fun T L X _ t => Jvm.Free.XS.icmpYes X.here K.1 rfl rfl (hb K.2.2.2.1 hd) rfl hc ho hp) q
theorem icN (K : Cx Z own nm bytes ml ret p s m meth c) {cd : ClassFile.Cond} {o : Int} {x y : Int32} (hd : decode bytes pc = .ok (.if_icmp cd o, 3)) (hc : if_icmp.holds cd x y = false) (hp : pc + 3 = pc') (q : Go p l e R s m args below meth c n0 h ce sl (mkF m pc' Ls S) Q) : Go p l e R s m args below meth c n0 h ce sl (mkF m pc Ls (.int y :: .int x :: S)) Q := by
  subst hp; exact one (fun T L X _ t => Jvm.Free.XS.icmpNo X.here K.1 rfl (hb K.2.2.2.1 hd) rfl hc) q
theorem nullY (K : Cx Z own nm bytes ml ret p s m meth c) {o : Int} (hd : decode bytes pc = .ok (.ifnull o, 3)) (ho : 0 ≤ (pc : Int) + o) (hp : ((pc : Int) + o).toNat = pc') (q : Go p l e R s m args below meth c n0 h ce sl (mkF m pc' Ls S) Q) : Go p l e R s m args below meth c n0 h ce sl (mkF m pc Ls (.null :: S)) Q :=
  one (fun T L X _ t => Jvm.Free.XS.ifnullYes X.here K.1 rfl rfl (hb K.2.2.2.1 hd) rfl ho hp) q
theorem nullN (K : Cx Z own nm bytes ml ret p s m meth c) {o : Int} {b : Addr} (hd : decode bytes pc = .ok (.ifnull o, 3)) (hp : pc + 3 = pc') (q : Go p l e R s m args below meth c n0 h ce sl (mkF m pc' Ls S) Q) : Go p l e R s m args below meth c n0 h ce sl (mkF m pc Ls (.ref b :: S)) Q := by
  subst hp; exact one (fun T L X _ t => Jvm.Free.XS.ifnullNo X.here K.1 rfl (hb K.2.2.2.1 hd) rfl) q
theorem nonnullY (K : Cx Z own nm bytes ml ret p s m meth c) {o : Int} {b : Addr} (hd : decode bytes pc = .ok (.ifnonnull o, 3)) (ho : 0 ≤ (pc : Int) + o) (hp : ((pc : Int) + o).toNat = pc') (q : Go p l e R s m args below meth c n0 h ce sl (mkF m pc' Ls S) Q) : Go p l e R s m args below meth c n0 h ce sl (mkF m pc Ls (.ref b :: S)) Q :=
  one (fun T L X _ t => Jvm.Free.XT.ifnonnullYes X.here K.1 rfl rfl (hb K.2.2.2.1 hd) rfl ho hp) q
theorem nonnullN (K : Cx Z own nm bytes ml ret p s m meth c) {o : Int} (hd : decode bytes pc = .ok (.ifnonnull o, 3)) (hp : pc + 3 = pc') (q : Go p l e R s m args below meth c n0 h ce sl (mkF m pc' Ls S) Q) : Go p l e R s m args below meth c n0 h ce sl (mkF m pc Ls (.null :: S)) Q := by
  subst hp; exact one (fun T L X _ t => Jvm.Free.XT.ifnonnullNo X.here K.1 rfl (hb K.2.2.2.1 hd) rfl) q
theorem acY (K : Cx Z own nm bytes ml ret p s m meth c) {cd : ClassFile.ACond} {o : Int} {x y : Value} (hd : decode bytes pc = .ok (.if_acmp cd o, 3)) (hx : x.isRef = true) (hy : y.isRef = true) (hc : XT.acmp cd x y = true) (ho : 0 ≤ (pc : Int) + o) (hp : ((pc : Int) + o).toNat = pc') (q : Go p l e R s m args below meth c n0 h ce sl (mkF m pc' Ls S) Q) : Go p l e R s m args below meth c n0 h ce sl (mkF m pc Ls (y :: x :: S)) Q :=
  one (fun T L X _ t => Jvm.Free.XT.acmpYes X.here K.1 rfl rfl (hb K.2.2.2.1 hd) rfl hx hy hc ho hp) q
theorem acN (K : Cx Z own nm bytes ml ret p s m meth c) {cd : ClassFile.ACond} {o : Int} {x y : Value} (hd : decode bytes pc = .ok (.if_acmp cd o, 3)) (hx : x.isRef = true) (hy : y.isRef = true) (hc : XT.acmp cd x y = false) (hp : pc + 3 = pc') (q : Go p l e R s m args below meth c n0 h ce sl (mkF m pc' Ls S) Q) : Go p l e R s m args below meth c n0 h ce sl (mkF m pc Ls (y :: x :: S)) Q := by
  subst hp; exact one (fun T L X _ t => Jvm.Free.XT.acmpNo X.here K.1 rfl (hb K.2.2.2.1 hd) rfl hx hy hc) q
theorem ldcI (K : Cx Z own nm bytes ml ret p s m meth c) {i : Nat} {v : Int32} (w : (Cond.constant own i v).before a0 Z = true) (hd : decode bytes pc = .ok (.ldc i, 2)) (hp : pc + 2 = pc') (q : Go p l e R s m args below meth c n0 h ce sl (mkF m pc' Ls (.int v :: S)) Q) : Go p l e R s m args below meth c n0 h ce sl (mkF m pc Ls S) Q := by
  subst hp; exact one (fun T L X _ t => X.ldcI K.1 K.2.2.1 (mvT K.2.1 w) rfl (hb K.2.2.2.1 hd)) q
theorem ldcWI (K : Cx Z own nm bytes ml ret p s m meth c) {i : Nat} {v : Int32} (w : (Cond.constant own i v).before a0 Z = true) (hd : decode bytes pc = .ok (.ldc_w i, 3)) (hp : pc + 3 = pc') (q : Go p l e R s m args below meth c n0 h ce sl (mkF m pc' Ls (.int v :: S)) Q) : Go p l e R s m args below meth c n0 h ce sl (mkF m pc Ls S) Q := by
  subst hp; exact one (fun T L X _ t => X.ldcWI K.1 K.2.2.1 (mvT K.2.1 w) rfl (hb K.2.2.2.1 hd)) q
theorem ldc2J (K : Cx Z own nm bytes ml ret p s m meth c) {i : Nat} {v : Int64} (w : (Cond.constantLong own i v).before a0 Z = true) (hd : decode bytes pc = .ok (.ldc2_w i, 3)) (hp : pc + 3 = pc') (q : Go p l e R s m args below meth c n0 h ce sl (mkF m pc' Ls (.long v :: S)) Q) : Go p l e R s m args below meth c n0 h ce sl (mkF m pc Ls S) Q := by
  subst hp; exact one (fun T L X _ t => X.ldc2J K.1 K.2.2.1 (mvT K.2.1 w) rfl (hb K.2.2.2.1 hd)) q
theorem ldc2D (K : Cx Z own nm bytes ml ret p s m meth c) {i : Nat} {v : UInt64} (w : (Cond.constantDouble own i v).before a0 Z = true) (hd : decode bytes pc = .ok (.ldc2_w i, 3)) (hp : pc + 3 = pc') (q : Go p l e R s m args below meth c n0 h ce sl (mkF m pc' Ls (.double v :: S)) Q) : Go p l e R s m args below meth c n0 h ce sl (mkF m pc Ls S) Q := by
  subst hp; exact one (fun T L X _ t => X.ldc2DoubleC K.1 K.2.2.1 (mvT (args := args) K.2.1 w) (g := mkF m pc Ls S) rfl (hb K.2.2.2.1 hd) t) q
theorem getf (K : Cx Z own nm bytes ml ret p s m meth c) {i : Nat} {R0 O n d : String} {a : Addr} {v : Value} (w : (Cond.fieldLink own i R0 n d).before a0 Z = true) (via : Via Z R0 O n d) (F : Fld Z h a O n d v) (hd : decode bytes pc = .ok (.getfield i, 3)) (hp : pc + 3 = pc') (q : Go p l e R s m args below meth c n0 h ce sl (mkF m pc' Ls (v :: S)) Q) : Go p l e R s m args below meth c n0 h ce sl (mkF m pc Ls (.ref a :: S)) Q := by
  subst hp; exact oneT (fun T L X eT => getF X K.1 K.2.1 K.2.2.1 (host := "") (Or.inl w) via eT F rfl rfl (hb K.2.2.2.1 hd)) q
theorem getfN (K : Cx Z own nm bytes ml ret p s m meth c) {i : Nat} {R0 O n d host : String} {a : Addr} {v : Value} (w : (Cond.fieldLinkNest own i R0 n d host).before a0 Z = true) (via : Via Z R0 O n d) (F : Fld Z h a O n d v) (hd : decode bytes pc = .ok (.getfield i, 3)) (hp : pc + 3 = pc') (q : Go p l e R s m args below meth c n0 h ce sl (mkF m pc' Ls (v :: S)) Q) : Go p l e R s m args below meth c n0 h ce sl (mkF m pc Ls (.ref a :: S)) Q := by
  subst hp; exact oneT (fun T L X eT => getF X K.1 K.2.1 K.2.2.1 (Or.inr w) via eT F rfl rfl (hb K.2.2.2.1 hd)) q
theorem getfR (K : Cx Z own nm bytes ml ret p s m meth c) {i : Nat} {O n d : String} {a : Addr} {v : Value} (w : (Cond.fieldRef own i O n d).before a0 Z = true) (F : Fld Z h a O n d v) (hd : decode bytes pc = .ok (.getfield i, 3)) (hp : pc + 3 = pc') (q : Go p l e R s m args below meth c n0 h ce sl (mkF m pc' Ls (v :: S)) Q) : Go p l e R s m args below meth c n0 h ce sl (mkF m pc Ls (.ref a :: S)) Q := by
  subst hp
  refine one (fun T L X eT t k => ?_) q
  have hT : Z.Warmed39 T.vm := wtrans K.2.1 X.warmed
  obtain ⟨c1, k1, i1, f1, g1, g2⟩ := Cond.fieldRef_spec (s := Z.setVm T.vm) (cur := m.cls) (by show T.vm.findClass own = _; rw [X.warmed.alike.findClass]; exact K.2.2.1) (Cond.fieldRef_warmed39 hT w)
  obtain ⟨cell, cf, kf, i2, f2, h1, h2, h3, h4, -, -, h7⟩ := F
  obtain ⟨k', hi, -⟩ := State.fieldFound?_setVm (s := Z) hT.alike h2
  cases g1.symm.trans hi
  exact (X.getfieldR K.1 (g := mkF m pc Ls (.ref a :: S)) rfl g2 h3 rfl (by rw [eT]; exact h1) h4 h7 (hb K.2.2.2.1 hd) (Steps.refl _)).trans k
theorem gets (K : Cx Z own nm bytes ml ret p s m meth c) {i : Nat} {R0 O n d : String} {v : Value} (w : (Cond.fieldLink own i R0 n d).before a0 Z = true) (via : Via Z R0 O n d) (F : Sta Z h O n d v) (hd : decode bytes pc = .ok (.getstatic i, 3)) (hp : pc + 3 = pc') (q : Go p l e R s m args below meth c n0 h ce sl (mkF m pc' Ls (v :: S)) Q) : Go p l e R s m args below meth c n0 h ce sl (mkF m pc Ls S) Q := by
  subst hp; exact oneT (fun T L X eT => getS X K.1 K.2.1 K.2.2.1 (host := "") w via eT F rfl (hb K.2.2.2.1 hd)) q
theorem putf (K : Cx Z own nm bytes ml ret p s m meth c) {i kk : Nat} {R0 O n d C : String} {ty : FieldType} {a : Addr} {v old : Value} (w : (Cond.fieldLink own i R0 n d).before a0 Z = true) (via : Via Z R0 O n d) (F : Fld Z h a O n d old) (E : Exa Z h a C) (L : (Cond.lays C O n d).before a0 Z = true ∨ ((Cond.laysFinal C O n d).before a0 Z = true ∧ own = O ∧ nm = "<init>")) (wi : (Cond.instantiable C kk).before a0 Z = true) (hty : parseFieldDescriptor d = some ty) (hn : narrow ty v = v) (hf : fits ty v = true) (ga : n0 ≤ a) (hd : decode bytes pc = .ok (.putfield i, 3)) (hp : pc + 3 = pc') (q : ∀ h', Wr h h' a (Jvm.RoadKit.slotOf Z O n d) v → Go p l e R s m args below meth c n0 h' ce sl (mkF m pc' Ls S) Q) : Go p l e R s m args below meth c n0 h ce sl (mkF m pc Ls (v :: .ref a :: S)) Q := by
  subst hp
  intro T L0 X N eT
  obtain ⟨T', h', X', e', W, st⟩ := putF X K.1 K.2.1 K.2.2.1 (host := "") (Or.inl w) via eT F E (L.imp id fun ⟨a, b, c⟩ => ⟨a, b, K.2.2.2.2.2.2.2.trans c⟩) wi hty hn hf (g := mkF m pc Ls (v :: .ref a :: S)) rfl rfl (hb K.2.2.2.1 hd)
  obtain ⟨s₂, u, L', a1, r⟩ := q h' W T' _ X' (Fr.snoc X' N ga) e'
  exact ⟨s₂, u, L', st _ a1, r⟩
theorem newObj (K : Cx Z own nm bytes ml ret p s m meth c) {i n : Nat} {C : String} (w : (Cond.classLink own i C).before a0 Z = true) (wi : (Cond.instantiable C n).before a0 Z = true) (wz : (Cond.initialized C).before a0 Z = true) (hd : decode bytes pc = .ok (.new i, 3)) (hc : ce + 1 ≤ R.cells) (hl : sl + n ≤ R.slots) (hp : pc + 3 = pc') (q : ∀ h' x, x = h.size → Ext h h' → Exa Z h' x C → (∀ {O nm d : String} {ty : FieldType}, Laid Z a0 C O nm d → parseFieldDescriptor d = some ty → Fld Z h' x O nm d (defaultValue ty)) → Go p l e R s m args below meth c n0 h' (ce + 1) (sl + n) (mkF m pc' Ls (.ref x :: S)) Q) : Go p l e R s m args below meth c n0 h ce sl (mkF m pc Ls S) Q := by
  subst hp
  intro T L0 X N eT
  obtain ⟨T', h', X', e', E, A, D, -, st⟩ := newO X K.1 K.2.1 K.2.2.1 w wi wz eT (g := mkF m pc Ls S) rfl (hb K.2.2.2.1 hd) hc hl
  obtain ⟨s₂, u, L', a1, r⟩ := q h' h.size rfl E A D T' _ X' N e'
  exact ⟨s₂, u, L', st _ a1, r⟩
theorem initObj (K : Cx Z own nm bytes ml ret p s m meth c) {i : Nat} {a : Addr} (w1 : (Cond.methodLink own i Lib.objectInit).before a0 Z = true) (w2 : (Cond.instanceMethod Lib.objectInit).before a0 Z = true) (w3 : (Cond.code Lib.objectInit ⟨#[0xb1]⟩ 1 none).before a0 Z = true) (hd : decode bytes pc = .ok (.invokespecial i, 3)) (hz : Ls.size = ml) (hf : 1 ≤ R.frames) (hW : (S.map fun v => v.category).sum + 12 ≤ R.locals) (hp : pc + 3 = pc') (q : Go p l e R s m args below meth c n0 h ce sl (mkF m pc' Ls S) Q) : Go p l e R s m args below meth c n0 h ce sl (mkF m pc Ls (.ref a :: S)) Q := by
  subst hp; exact oneT (fun T L X eT => initO X K.1 K.2.1 K.2.2.1 w1 w2 w3 eT rfl (hz.trans K.2.2.2.2.1.symm) rfl (hb K.2.2.2.1 hd) hf (W := (S.map fun v => v.category).sum) (by show 2 * 0 + _ ≤ _; omega) hW) q
/-- a private method's own 'selects' -/
theorem priv_sel {s : State} {args : Array Value} {y : MethodName} {kk : Nat} (wi : (Cond.instantiable y.cls kk).before args s = true) (hpriv : s.PrivateAt y) (hinst : (Cond.instanceMethod y).before args s = true) (hy : y.cls ≠ "java/lang/invoke/MethodHandle" ∧ y.cls ≠ "java/lang/invoke/VarHandle") : (Cond.selects y.cls y y).before args s = true := by
  obtain ⟨c2, k2, i1, i2, i3, i4⟩ := Cond.instantiable_spec wi
  exact selects_self_of_private i1 i2 (Bool.or_eq_false_iff.mp i4.1).1 hpriv hinst hy
/-! calls -/
theorem back {W len : Nat} {y : MethodName} {by' : ByteArray} {ml' : Nat} {ret' : Option FieldType} {rm : Room} {as' : Array Value} {Q' : Option Value → Heap → Prop} (K : Cx Z own nm bytes ml ret p s m meth c) (C : Ctr l Z y by' ml' ret' [] rm n0 as' h Q') (wc : (Cond.code y by' ml' ret').before a0 Z = true) (wz : (Cond.initialized y.cls).before a0 Z = true) (hf : rm.frames + 1 ≤ R.frames) (hl : W + (ml' + 11) + rm.locals ≤ R.locals) :
    Back l R p e below s args y len W (fun A a => a = as' ∧ A.U.heap = h ∧ A.cells + rm.cells ≤ R.cells ∧ A.slots + rm.slots ≤ R.slots) (fun A _ v B => ∃ L, (Q' v B.U.heap ∧ Fr n0 L) ∧ B.locs = A.locs ++ L ∧ B.cells = A.cells + rm.cells ∧ B.slots = A.slots + rm.slots) :=
  backOf (Q := fun v h L => Q' v h ∧ Fr n0 L) C K.2.1 wc wz hf hl
theorem callStatic (K : Cx Z own nm bytes ml ret p s m meth c) {i : Nat} {y : MethodName} {by' : ByteArray} {ml' : Nat} {ret' : Option FieldType} {rm : Room} {Q' : Option Value → Heap → Prop}  {argsL : List Value} (w1 : (Cond.methodLink own i y).before a0 Z = true) (w2 : (Cond.static y).before a0 Z = true) (wz : (Cond.initialized y.cls).before a0 Z = true) (wc : (Cond.code y by' ml' ret').before a0 Z = true) (hy : y.cls ≠ "java/lang/invoke/MethodHandle" ∧ y.cls ≠ "java/lang/invoke/VarHandle") (Cc : Ctr l Z y by' ml' ret' [] rm n0 argsL.toArray h Q') (hlen : ∀ sig, parseMethodDescriptor y.desc = some sig → argsL.length = sig.parameters.length) (hd : decode bytes pc = .ok (.invokestatic i, 3)) (hz : Ls.size = ml) (hf : rm.frames + 1 ≤ R.frames) (hW : (S.map fun v => v.category).sum + (ml' + 11) + rm.locals ≤ R.locals) (hc : ce + rm.cells ≤ R.cells) (hsl : sl + rm.slots ≤ R.slots) {st : List Value} (hst : st = (argsL.reverse ++ S)) (hp : pc + 3 = pc') (q : ∀ v h', Q' v h' → Go p l e R s m args below meth c n0 h' (ce + rm.cells) (sl + rm.slots) (mkF m pc' Ls (v.toList ++ S)) Q) : Go p l e R s m args below meth c n0 h ce sl (mkF m pc Ls st) Q := by
  subst hp hst
  intro T L0 X N eT
  obtain ⟨v, _, ⟨T', L1, k1, n1⟩, -, X', ⟨Lc, hQ, l', y', z'⟩, st'⟩ := Jvm.LawKit.callS X K.1 K.2.2.1 (mvT K.2.1 w1) (mvT K.2.1 w2) (mvT K.2.1 wz) (mvT K.2.1 wc) hy (back (W := (S.map fun v => v.category).sum) K Cc wc wz hf hW) (g := mkF m pc Ls (argsL.reverse ++ S)) rfl (hz.trans K.2.2.2.2.1.symm) (argsL := argsL) (rest := S) hlen rfl (by show 2 * 0 + _ ≤ _; omega) (hb K.2.2.2.1 hd) (fun _ _ => ⟨rfl, eT, hc, hsl⟩)
  dsimp only [Pt.U, Pt.locs, Pt.cells, Pt.slots] at X' l' y' z' st'
  subst l' y' z'
  obtain ⟨s₂, u, L', a1, r⟩ := q v _ hQ.1 T' _ X' (Fr.app N hQ.2) rfl
  exact ⟨s₂, u, L', st' _ a1, r⟩
theorem callInit (K : Cx Z own nm bytes ml ret p s m meth c) {i : Nat} {y : MethodName} {by' : ByteArray} {ml' : Nat} {ret' : Option FieldType} {rm : Room} {Q' : Option Value → Heap → Prop} {b : Addr} {argsL : List Value} (hy1 : y.name = "<init>") (w1 : (Cond.methodLink own i y).before a0 Z = true) (w2 : (Cond.instanceMethod y).before a0 Z = true) (wz : (Cond.initialized y.cls).before a0 Z = true) (wc : (Cond.code y by' ml' none).before a0 Z = true) (hr : ret' = none) (hy : y.cls ≠ "java/lang/invoke/MethodHandle" ∧ y.cls ≠ "java/lang/invoke/VarHandle") (Cc : Ctr l Z y by' ml' ret' [] rm n0 (.ref b :: argsL).toArray h Q') (hlen : ∀ sig, parseMethodDescriptor y.desc = some sig → argsL.length = sig.parameters.length) (hd : decode bytes pc = .ok (.invokespecial i, 3)) (hz : Ls.size = ml) (hf : rm.frames + 1 ≤ R.frames) (hW : (S.map fun v => v.category).sum + (ml' + 11) + rm.locals ≤ R.locals) (hc : ce + rm.cells ≤ R.cells) (hsl : sl + rm.slots ≤ R.slots) {st : List Value} (hst : st = (argsL.reverse ++ .ref b :: S)) (hp : pc + 3 = pc') (q : ∀ v h', Q' v h' → Go p l e R s m args below meth c n0 h' (ce + rm.cells) (sl + rm.slots) (mkF m pc' Ls (v.toList ++ S)) Q) : Go p l e R s m args below meth c n0 h ce sl (mkF m pc Ls st) Q := by
  subst hp hst
  intro T L0 X N eT
  subst hr
  obtain ⟨v, _, ⟨T', L1, k1, n1⟩, -, X', ⟨Lc, hQ, l', y', z'⟩, st'⟩ := X.specialBack K.1 hy1 K.2.2.1 (mvT K.2.1 w1) (mvT K.2.1 w2) (mvT K.2.1 wc) hy (back (W := (S.map fun v => v.category).sum) K Cc wc wz hf hW) (g := mkF m pc Ls (argsL.reverse ++ .ref b :: S)) rfl (hz.trans K.2.2.2.2.1.symm) (Steps.refl _) (a := b) (argsL := argsL) (rest := S) hlen rfl (by show 2 * 0 + _ ≤ _; omega) (hb K.2.2.2.1 hd) (fun _ _ => ⟨rfl, eT, hc, hsl⟩)
  dsimp only [Pt.U, Pt.locs, Pt.cells, Pt.slots] at X' l' y' z' st'
  subst l' y' z'
  obtain ⟨s₂, u, L', a1, r⟩ := q v _ hQ.1 T' _ X' (Fr.app N hQ.2) rfl
  exact ⟨s₂, u, L', st'.trans a1, r⟩
theorem callInitNest (K : Cx Z own nm bytes ml ret p s m meth c) {i : Nat} {y : MethodName} {by' : ByteArray} {ml' : Nat} {ret' : Option FieldType} {rm : Room} {Q' : Option Value → Heap → Prop} {b : Addr} {argsL : List Value} {host : String} (hy1 : y.name = "<init>") (w1 : (Cond.methodLinkNest own i y host).before a0 Z = true) (w2 : (Cond.instanceMethod y).before a0 Z = true) (wz : (Cond.initialized y.cls).before a0 Z = true) (wc : (Cond.code y by' ml' none).before a0 Z = true) (hr : ret' = none) (hy : y.cls ≠ "java/lang/invoke/MethodHandle" ∧ y.cls ≠ "java/lang/invoke/VarHandle") (Cc : Ctr l Z y by' ml' ret' [] rm n0 (.ref b :: argsL).toArray h Q') (hlen : ∀ sig, parseMethodDescriptor y.desc = some sig → argsL.length = sig.parameters.length) (hd : decode bytes pc = .ok (.invokespecial i, 3)) (hz : Ls.size = ml) (hf : rm.frames + 1 ≤ R.frames) (hW : (S.map fun v => v.category).sum + (ml' + 11) + rm.locals ≤ R.locals) (hc : ce + rm.cells ≤ R.cells) (hsl : sl + rm.slots ≤ R.slots) {st : List Value} (hst : st = (argsL.reverse ++ .ref b :: S)) (hp : pc + 3 = pc') (q : ∀ v h', Q' v h' → Go p l e R s m args below meth c n0 h' (ce + rm.cells) (sl + rm.slots) (mkF m pc' Ls (v.toList ++ S)) Q) : Go p l e R s m args below meth c n0 h ce sl (mkF m pc Ls st) Q := by
  subst hp hst
  intro T L0 X N eT
  subst hr
  obtain ⟨v, _, ⟨T', L1, k1, n1⟩, -, X', ⟨Lc, hQ, l', y', z'⟩, st'⟩ := X.specialBackNest K.1 hy1 K.2.2.1 (Cond.methodLinkNest_wide K.2.1 w1 :) (mvT K.2.1 w2) (mvT K.2.1 wc) hy (back (W := (S.map fun v => v.category).sum) K Cc wc wz hf hW) (g := mkF m pc Ls (argsL.reverse ++ .ref b :: S)) rfl (hz.trans K.2.2.2.2.1.symm) (Steps.refl _) (a := b) (argsL := argsL) (rest := S) hlen rfl (by show 2 * 0 + _ ≤ _; omega) (hb K.2.2.2.1 hd) (fun _ _ => ⟨rfl, eT, hc, hsl⟩)
  dsimp only [Pt.U, Pt.locs, Pt.cells, Pt.slots] at X' l' y' z' st'
  subst l' y' z'
  obtain ⟨s₂, u, L', a1, r⟩ := q v _ hQ.1 T' _ X' (Fr.app N hQ.2) rfl
  exact ⟨s₂, u, L', st'.trans a1, r⟩
theorem callVirt (K : Cx Z own nm bytes ml ret p s m meth c) {i : Nat} {y : MethodName} {by' : ByteArray} {ml' : Nat} {ret' : Option FieldType} {rm : Room} {Q' : Option Value → Heap → Prop} {b : Addr} {argsL : List Value} {C : String} (w1 : (Cond.methodLink own i y).before a0 Z = true) (w2 : (Cond.declares y).before a0 Z = true) (w3 : (Cond.selects C y y).before a0 Z = true) (w4 : (Cond.instanceMethod y).before a0 Z = true) (wz : (Cond.initialized y.cls).before a0 Z = true) (wc : (Cond.code y by' ml' ret').before a0 Z = true) (hy : y.cls ≠ "java/lang/invoke/MethodHandle" ∧ y.cls ≠ "java/lang/invoke/VarHandle") (E : Exa Z h b C) (Cc : Ctr l Z y by' ml' ret' [] rm n0 (.ref b :: argsL).toArray h Q') (hlen : ∀ sig, parseMethodDescriptor y.desc = some sig → argsL.length = sig.parameters.length) (hd : decode bytes pc = .ok (.invokevirtual i, 3)) (hz : Ls.size = ml) (hf : rm.frames + 1 ≤ R.frames) (hW : (S.map fun v => v.category).sum + (ml' + 11) + rm.locals ≤ R.locals) (hc : ce + rm.cells ≤ R.cells) (hsl : sl + rm.slots ≤ R.slots) {st : List Value} (hst : st = (argsL.reverse ++ .ref b :: S)) (hp : pc + 3 = pc') (q : ∀ v h', Q' v h' → Go p l e R s m args below meth c n0 h' (ce + rm.cells) (sl + rm.slots) (mkF m pc' Ls (v.toList ++ S)) Q) : Go p l e R s m args below meth c n0 h ce sl (mkF m pc Ls st) Q := by
  subst hp hst
  intro T L0 X N eT
  obtain ⟨cq, kq, qa, qb, qc⟩ := isOf K.2.1 eT E
  obtain ⟨v, _, ⟨T', L1, k1, n1⟩, -, X', ⟨Lc, hQ, l', y', z'⟩, st'⟩ := X.virtualBack K.1 (y := y) (z := y) K.2.2.1 (mvT K.2.1 w1) (mvT K.2.1 w2) (notFace_of_selects (args := #[]) (mvT K.2.1 w3)) (mvT K.2.1 w3) (mvT K.2.1 w4) hy (back (W := (S.map fun v => v.category).sum) K Cc wc wz hf hW) qa qc (g := mkF m pc Ls (argsL.reverse ++ .ref b :: S)) rfl (hz.trans K.2.2.2.2.1.symm) (Steps.refl _) (argsL := argsL) (rest := S) hlen rfl (by show 2 * 0 + _ ≤ _; omega) (hb K.2.2.2.1 hd) (fun _ _ => ⟨rfl, eT, hc, hsl⟩)
  dsimp only [Pt.U, Pt.locs, Pt.cells, Pt.slots] at X' l' y' z' st'
  subst l' y' z'
  obtain ⟨s₂, u, L', a1, r⟩ := q v _ hQ.1 T' _ X' (Fr.app N hQ.2) rfl
  exact ⟨s₂, u, L', st'.trans a1, r⟩
theorem callFace (K : Cx Z own nm bytes ml ret p s m meth c) {i cnt : Nat} {y : MethodName} {by' : ByteArray} {ml' : Nat} {ret' : Option FieldType} {rm : Room} {Q' : Option Value → Heap → Prop} {b : Addr} {argsL : List Value} {z : MethodName} {C : String} (w1 : (Cond.methodLink own i y).before a0 Z = true) (w2 : (Cond.declares y).before a0 Z = true) (w5 : (Cond.interfaceMethod y.cls y.cls y.name y.desc).before a0 Z = true) (k5 : ((Cond.interfaceMethod y.cls y.cls y.name y.desc).onTables && (Cond.interfaceMethod y.cls y.cls y.name y.desc).keepsFace) = true) (w3 : (Cond.selects C y z).before a0 Z = true) (w4 : (Cond.instanceMethod z).before a0 Z = true) (w6 : (Cond.publicMethod z).before a0 Z = true) (w7 : (Cond.unhidden C y.name y.desc).before a0 Z = true) (w8 : (Cond.castable C y.cls).before a0 Z = true) (wz : (Cond.initialized z.cls).before a0 Z = true) (wc : (Cond.code z by' ml' ret').before a0 Z = true) (hy : y.cls ≠ "java/lang/invoke/MethodHandle" ∧ y.cls ≠ "java/lang/invoke/VarHandle") (E : Exa Z h b C) (Cc : Ctr l Z z by' ml' ret' [] rm n0 (.ref b :: argsL).toArray h Q') (hlen : ∀ sig, parseMethodDescriptor y.desc = some sig → argsL.length = sig.parameters.length) (hd : decode bytes pc = .ok (.invokeinterface i cnt, 5)) (hz : Ls.size = ml) (hf : rm.frames + 1 ≤ R.frames) (hW : (S.map fun v => v.category).sum + (ml' + 11) + rm.locals ≤ R.locals) (hc : ce + rm.cells ≤ R.cells) (hsl : sl + rm.slots ≤ R.slots) {st : List Value} (hst : st = (argsL.reverse ++ .ref b :: S)) (hp : pc + 5 = pc') (q : ∀ v h', Q' v h' → Go p l e R s m args below meth c n0 h' (ce + rm.cells) (sl + rm.slots) (mkF m pc' Ls (v.toList ++ S)) Q) : Go p l e R s m args below meth c n0 h ce sl (mkF m pc Ls st) Q := by
  subst hp hst
  intro T L0 X N eT
  obtain ⟨cq, kq, qa, qb, qc⟩ := isOf K.2.1 eT E
  obtain ⟨v, _, ⟨T', L1, k1, n1⟩, -, X', ⟨Lc, hQ, l', y', z'⟩, st'⟩ := X.interfaceBack K.1 (xi := y) (y := z) K.2.2.1 (mvT K.2.1 w1) (mvT K.2.1 w2) (mvT K.2.1 w5 k5) (mvT K.2.1 w3) (mvT K.2.1 w4) (mvT K.2.1 w6) (mvT K.2.1 w7) (mvT K.2.1 w8) hy (back (W := (S.map fun v => v.category).sum) K Cc wc wz hf hW) qa qb qc (g := mkF m pc Ls (argsL.reverse ++ .ref b :: S)) rfl (hz.trans K.2.2.2.2.1.symm) (Steps.refl _) (argsL := argsL) (rest := S) hlen rfl (by show 2 * 0 + _ ≤ _; omega) (hb K.2.2.2.1 hd) (fun _ _ => ⟨rfl, eT, hc, hsl⟩)
  dsimp only [Pt.U, Pt.locs, Pt.cells, Pt.slots] at X' l' y' z' st'
  subst l' y' z'
  obtain ⟨s₂, u, L', a1, r⟩ := q v _ hQ.1 T' _ X' (Fr.app N hQ.2) rfl
  exact ⟨s₂, u, L', st'.trans a1, r⟩
theorem callPriv (K : Cx Z own nm bytes ml ret p s m meth c) {i : Nat} {y : MethodName} {by' : ByteArray} {ml' : Nat} {ret' : Option FieldType} {rm : Room} {Q' : Option Value → Heap → Prop} {b : Addr} {argsL : List Value} {C : String} {kk : Nat} (w1 : (Cond.methodLink own i y).before a0 Z = true) (w2 : (Cond.instanceMethod y).before a0 Z = true) (w3 : (Cond.privateMethod y).before a0 Z = true) (w5 : (Cond.instantiable y.cls kk).before a0 Z = true) (wz : (Cond.initialized y.cls).before a0 Z = true) (wc : (Cond.code y by' ml' ret').before a0 Z = true) (hy : y.cls ≠ "java/lang/invoke/MethodHandle" ∧ y.cls ≠ "java/lang/invoke/VarHandle") (E : Exa Z h b C) (Cc : Ctr l Z y by' ml' ret' [] rm n0 (.ref b :: argsL).toArray h Q') (hlen : ∀ sig, parseMethodDescriptor y.desc = some sig → argsL.length = sig.parameters.length) (hd : decode bytes pc = .ok (.invokevirtual i, 3)) (hz : Ls.size = ml) (hf : rm.frames + 1 ≤ R.frames) (hW : (S.map fun v => v.category).sum + (ml' + 11) + rm.locals ≤ R.locals) (hc : ce + rm.cells ≤ R.cells) (hsl : sl + rm.slots ≤ R.slots) {st : List Value} (hst : st = (argsL.reverse ++ .ref b :: S)) (hp : pc + 3 = pc') (q : ∀ v h', Q' v h' → Go p l e R s m args below meth c n0 h' (ce + rm.cells) (sl + rm.slots) (mkF m pc' Ls (v.toList ++ S)) Q) : Go p l e R s m args below meth c n0 h ce sl (mkF m pc Ls st) Q := by
  subst hp hst
  intro T L0 X N eT
  obtain ⟨cell, kc, f1, f2, f3, f4, -⟩ := E
  have hpr : s.PrivateAt y := Cond.privateMethod_at (mvP K.2.1 w3 (args := #[]))
  obtain ⟨v, _, ⟨T', L1, k1, n1⟩, -, X', ⟨Lc, hQ, l', y', z'⟩, st'⟩ := X.privateBack K.1 (y := y) K.2.2.1 (mvT K.2.1 w1) (mvT K.2.1 w2) (priv_sel (mvT K.2.1 w5) hpr (mvT K.2.1 w2) hy) hpr (mvT K.2.1 wc) hy (back (W := (S.map fun v => v.category).sum) K Cc wc wz hf hW) (g := mkF m pc Ls (argsL.reverse ++ .ref b :: S)) rfl (hz.trans K.2.2.2.2.1.symm) (Steps.refl _) (a := b) (by rw [eT]; exact f1) (fun q hq => by rw [hq] at f4; cases f4) (argsL := argsL) (rest := S) hlen rfl (by show 2 * 0 + _ ≤ _; omega) (hb K.2.2.2.1 hd) (fun _ _ => ⟨rfl, eT, hc, hsl⟩)
  dsimp only [Pt.U, Pt.locs, Pt.cells, Pt.slots] at X' l' y' z' st'
  subst l' y' z'
  obtain ⟨s₂, u, L', a1, r⟩ := q v _ hQ.1 T' _ X' (Fr.app N hQ.2) rfl
  exact ⟨s₂, u, L', st'.trans a1, r⟩
theorem retW (K : Cx Z own nm bytes ml ret p s m meth c) {t : FieldType} {w : Value} {i : Instr} (hi : (i = .ireturn ∧ (t = .int ∨ t = .boolean ∨ t = .byte ∨ t = .char ∨ t = .short) ∧ ∃ z, w = .int z) ∨ (i = .lreturn ∧ t = .long ∧ ∃ z, w = .long z) ∨ (i = .dreturn ∧ t = .double ∧ ∃ z, w = .double z) ∨ (i = .freturn ∧ t = .float ∧ ∃ z, w = .float z) ∨ (i = .areturn ∧ t.isReference = true ∧ w.isRef = true)) (hr : ret = some t) (hn : narrow t w = w) (hd : decode bytes pc = .ok (i, 1)) (hc : ce ≤ R.cells) (hsl : sl ≤ R.slots) (q : Q (some w) h) : Go p l e R s m args below meth c n0 h ce sl (mkF m pc Ls (w :: S)) Q := by
  intro T L0 X N eT
  obtain ⟨fs, hl, hrun, hended, hW, hsame⟩ := X.leave (v := some w) (fun q => by rw [K.2.2.2.2.2.1, hr] at q; cases q) K.2.2.2.2.2.2.1
  exact ⟨_, some w, L0, retOut X K.1 (K.2.2.2.2.2.1.trans hr) hn hi (hb K.2.2.2.1 hd) hl, hrun, hended, N, eT ▸ q, ⟨_, rfl⟩, hW, hsame.mono hc hsl⟩
theorem retV (K : Cx Z own nm bytes ml ret p s m meth c) (hr : ret = none) (hd : decode bytes pc = .ok (.return_, 1)) (hc : ce ≤ R.cells) (hsl : sl ≤ R.slots) (q : Q none h) : Go p l e R s m args below meth c n0 h ce sl (mkF m pc Ls []) Q := by
  intro T L0 X N eT
  obtain ⟨fs, hl, hrun, hended, hW, hsame⟩ := X.leave (v := none) (fun _ => rfl) K.2.2.2.2.2.2.1
  exact ⟨_, none, L0, X.returnOut K.1 (K.2.2.2.2.2.1.trans hr) (hb K.2.2.2.1 hd) hl, hrun, hended, N, eT ▸ q, ⟨_, rfl⟩, hW, hsame.mono hc hsl⟩
theorem retI (K : Cx Z own nm bytes ml ret p s m meth c) {z : Int32} (hr : ret = some .int) (hd : decode bytes pc = .ok (.ireturn, 1)) (hc : ce ≤ R.cells) (hsl : sl ≤ R.slots) (q : Q (some (.int z)) h) : Go p l e R s m args below meth c n0 h ce sl (mkF m pc Ls (.int z :: S)) Q := retW K (by exact Or.inl ⟨rfl, Or.inl rfl, _, rfl⟩) hr rfl hd hc hsl q
theorem retL (K : Cx Z own nm bytes ml ret p s m meth c) {z : Int64} (hr : ret = some .long) (hd : decode bytes pc = .ok (.lreturn, 1)) (hc : ce ≤ R.cells) (hsl : sl ≤ R.slots) (q : Q (some (.long z)) h) : Go p l e R s m args below meth c n0 h ce sl (mkF m pc Ls (.long z :: S)) Q := retW K (by exact Or.inr (Or.inl ⟨rfl, rfl, _, rfl⟩)) hr rfl hd hc hsl q
theorem retD (K : Cx Z own nm bytes ml ret p s m meth c) {z : UInt64} (hr : ret = some .double) (hd : decode bytes pc = .ok (.dreturn, 1)) (hc : ce ≤ R.cells) (hsl : sl ≤ R.slots) (q : Q (some (.double z)) h) : Go p l e R s m args below meth c n0 h ce sl (mkF m pc Ls (.double z :: S)) Q := retW K (by exact Or.inr (Or.inr (Or.inl ⟨rfl, rfl, _, rfl⟩))) hr rfl hd hc hsl q
theorem retA (K : Cx Z own nm bytes ml ret p s m meth c) {t : FieldType} {w : Value} (hr : ret = some t) (ht : t.isReference = true) (hw : w.isRef = true) (hd : decode bytes pc = .ok (.areturn, 1)) (hc : ce ≤ R.cells) (hsl : sl ≤ R.slots) (q : Q (some w) h) : Go p l e R s m args below meth c n0 h ce sl (mkF m pc Ls (w :: S)) Q := retW K (Or.inr (Or.inr (Or.inr (Or.inr ⟨rfl, ht, hw⟩)))) hr (by cases t <;> first | rfl | exact absurd ht (by decide)) hd hc hsl q
theorem retB (K : Cx Z own nm bytes ml ret p s m meth c) {t : FieldType} {z : Int32} (hr : ret = some t) (ht : t = .boolean ∨ t = .byte ∨ t = .char ∨ t = .short) (hd : decode bytes pc = .ok (.ireturn, 1)) (hc : ce ≤ R.cells) (hsl : sl ≤ R.slots) (q : Q (some (.int (nar t z))) h) : Go p l e R s m args below meth c n0 h ce sl (mkF m pc Ls (.int z :: S)) Q := by
  intro T L0 X N eT
  obtain ⟨fs, hl, hrun, hended, hW, hsame⟩ := X.leave (v := some (.int (nar t z))) (fun q => by rw [K.2.2.2.2.2.1, hr] at q; cases q) K.2.2.2.2.2.2.1
  exact ⟨_, some (.int (nar t z)), L0, retN X K.1 (t := t) (K.2.2.2.2.2.1.trans hr) ht (hb K.2.2.2.1 hd) hl, hrun, hended, N, eT ▸ q, ⟨_, rfl⟩, hW, hsame.mono hc hsl⟩
end Walk
/-! arrays -/
def Vec (Z : State) (h : Heap) (a : Addr) (ty : FieldType) (xs : List Value) : Prop := ∃ cl : Cell, Arr Z h a cl ty ∧ cl.slots.toList = xs ∧ xs.length < 2147483648
/-- an array of references, with what may lie in it -/
def VecR (Z : State) (h : Heap) (a : Addr) (C : String) (xs : List Value) : Prop := ∃ cl : Cell, Arr Z h a cl (.object C) ∧ cl.slots.toList = xs ∧ xs.length < 2147483648 ∧ Ovr Z cl.cls C
section Vecs
variable {Z : State} {h h' : Heap} {a b : Addr} {ty : FieldType} {xs : List Value} {v : Value} {sl : Nat} {ws : List Addr} {C : String}
theorem Vec.lt (F : Vec Z h a ty xs) : a < h.size := by obtain ⟨c, A, -⟩ := F; exact A.lt
theorem Vec.ext (F : Vec Z h a ty xs) (E : Ext h h') : Vec Z h' a ty xs := by obtain ⟨c, A, r⟩ := F; exact ⟨c, A.ext E, r⟩
theorem Vec.other (F : Vec Z h b ty xs) (W : Wr h h' a sl v) (q : b ≠ a) : Vec Z h' b ty xs := by obtain ⟨c, A, r⟩ := F; exact ⟨c, A.other W q, r⟩
theorem Vec.keep (F : Vec Z h a ty xs) (K : Keep h h' ws) (q : a ∉ ws) : Vec Z h' a ty xs := by obtain ⟨c, A, r⟩ := F; exact ⟨c, ⟨K.2.1 a c A.1 q, A.2⟩, r⟩
theorem Vec.set (F : Vec Z h a ty xs) {i : Nat} (W : Wr h h' a i v) : Vec Z h' a ty (xs.set i v) := by
  obtain ⟨c, A, rfl, r⟩ := F
  exact ⟨_, A.same W, by simp [Cell.setSlot], by simpa using r⟩
theorem Vec.len (F : Vec Z h a ty xs) : xs.length < 2147483648 := by obtain ⟨c, A, rfl, r⟩ := F; exact r
theorem VecR.lt (F : VecR Z h a C xs) : a < h.size := by obtain ⟨c, A, -⟩ := F; exact A.lt
theorem VecR.ext (F : VecR Z h a C xs) (E : Ext h h') : VecR Z h' a C xs := by obtain ⟨c, A, r⟩ := F; exact ⟨c, A.ext E, r⟩
theorem VecR.other (F : VecR Z h b C xs) (W : Wr h h' a sl v) (q : b ≠ a) : VecR Z h' b C xs := by obtain ⟨c, A, r⟩ := F; exact ⟨c, A.other W q, r⟩
theorem VecR.keep (F : VecR Z h a C xs) (K : Keep h h' ws) (q : a ∉ ws) : VecR Z h' a C xs := by obtain ⟨c, A, r⟩ := F; exact ⟨c, ⟨K.2.1 a c A.1 q, A.2⟩, r⟩
theorem VecR.vec (F : VecR Z h a C xs) : Vec Z h a (.object C) xs := by obtain ⟨c, A, r1, r2, -⟩ := F; exact ⟨c, A, r1, r2⟩
theorem VecR.set (F : VecR Z h a C xs) {i : Nat} (W : Wr h h' a i v) : VecR Z h' a C (xs.set i v) := by
  obtain ⟨c, A, rfl, r, o⟩ := F
  exact ⟨_, A.same W, by simp [Cell.setSlot], by simpa using r, o⟩
theorem clamp {j : Int32} {i : Nat} (hj : j.toInt = i) : j.toNatClampNeg = i ∧ ¬ j < 0 := by
  refine ⟨by simp [Int32.toNatClampNeg, hj], ?_⟩
  rw [Int32.lt_iff_toInt_lt, hj]; simp only [Int32.reduceToInt]; omega
end Vecs
def DV (Z : State) (h : Heap) (a : Addr) (xs : List UInt64) : Prop := Vec Z h a .double (xs.map Value.double)
theorem DV.lt {Z : State} {h : Heap} {a : Addr} {xs : List UInt64} (F : DV Z h a xs) : a < h.size := Vec.lt F
theorem DV.ext {Z : State} {h h' : Heap} {a : Addr} {xs : List UInt64} (F : DV Z h a xs) (E : Ext h h') : DV Z h' a xs := Vec.ext F E
theorem DV.other {Z : State} {h h' : Heap} {a b : Addr} {xs : List UInt64} {sl : Nat} {v : Value} (F : DV Z h b xs) (W : Wr h h' a sl v) (q : b ≠ a) : DV Z h' b xs := Vec.other F W q
theorem DV.keep {Z : State} {h h' : Heap} {a : Addr} {xs : List UInt64} {ws : List Addr} (F : DV Z h a xs) (K : Keep h h' ws) (q : a ∉ ws) : DV Z h' a xs := Vec.keep F K q
theorem DV.set {Z : State} {h h' : Heap} {a : Addr} {xs : List UInt64} {i : Nat} {x : UInt64} (F : DV Z h a xs) (W : Wr h h' a i (Value.double x)) : DV Z h' a (xs.set i x) := by
  have q := Vec.set F W
  rwa [← List.map_set] at q
def IV (Z : State) (h : Heap) (a : Addr) (xs : List Int32) : Prop := Vec Z h a .int (xs.map Value.int)
theorem IV.lt {Z : State} {h : Heap} {a : Addr} {xs : List Int32} (F : IV Z h a xs) : a < h.size := Vec.lt F
theorem IV.ext {Z : State} {h h' : Heap} {a : Addr} {xs : List Int32} (F : IV Z h a xs) (E : Ext h h') : IV Z h' a xs := Vec.ext F E
theorem IV.other {Z : State} {h h' : Heap} {a b : Addr} {xs : List Int32} {sl : Nat} {v : Value} (F : IV Z h b xs) (W : Wr h h' a sl v) (q : b ≠ a) : IV Z h' b xs := Vec.other F W q
theorem IV.keep {Z : State} {h h' : Heap} {a : Addr} {xs : List Int32} {ws : List Addr} (F : IV Z h a xs) (K : Keep h h' ws) (q : a ∉ ws) : IV Z h' a xs := Vec.keep F K q
theorem IV.set {Z : State} {h h' : Heap} {a : Addr} {xs : List Int32} {i : Nat} {x : Int32} (F : IV Z h a xs) (W : Wr h h' a i (Value.int x)) : IV Z h' a (xs.set i x) := by
  have q := Vec.set F W
  rwa [← List.map_set] at q
def JV (Z : State) (h : Heap) (a : Addr) (xs : List Int64) : Prop := Vec Z h a .long (xs.map Value.long)
theorem JV.lt {Z : State} {h : Heap} {a : Addr} {xs : List Int64} (F : JV Z h a xs) : a < h.size := Vec.lt F
theorem JV.ext {Z : State} {h h' : Heap} {a : Addr} {xs : List Int64} (F : JV Z h a xs) (E : Ext h h') : JV Z h' a xs := Vec.ext F E
theorem JV.other {Z : State} {h h' : Heap} {a b : Addr} {xs : List Int64} {sl : Nat} {v : Value} (F : JV Z h b xs) (W : Wr h h' a sl v) (q : b ≠ a) : JV Z h' b xs := Vec.other F W q
theorem JV.keep {Z : State} {h h' : Heap} {a : Addr} {xs : List Int64} {ws : List Addr} (F : JV Z h a xs) (K : Keep h h' ws) (q : a ∉ ws) : JV Z h' a xs := Vec.keep F K q
theorem JV.set {Z : State} {h h' : Heap} {a : Addr} {xs : List Int64} {i : Nat} {x : Int64} (F : JV Z h a xs) (W : Wr h h' a i (Value.long x)) : JV Z h' a (xs.set i x) := by
  have q := Vec.set F W
  rwa [← List.map_set] at q
def ZV (Z : State) (h : Heap) (a : Addr) (xs : List Int32) : Prop := Vec Z h a .boolean (xs.map Value.int)
theorem ZV.lt {Z : State} {h : Heap} {a : Addr} {xs : List Int32} (F : ZV Z h a xs) : a < h.size := Vec.lt F
theorem ZV.ext {Z : State} {h h' : Heap} {a : Addr} {xs : List Int32} (F : ZV Z h a xs) (E : Ext h h') : ZV Z h' a xs := Vec.ext F E
theorem ZV.other {Z : State} {h h' : Heap} {a b : Addr} {xs : List Int32} {sl : Nat} {v : Value} (F : ZV Z h b xs) (W : Wr h h' a sl v) (q : b ≠ a) : ZV Z h' b xs := Vec.other F W q
theorem ZV.keep {Z : State} {h h' : Heap} {a : Addr} {xs : List Int32} {ws : List Addr} (F : ZV Z h a xs) (K : Keep h h' ws) (q : a ∉ ws) : ZV Z h' a xs := Vec.keep F K q
theorem ZV.set {Z : State} {h h' : Heap} {a : Addr} {xs : List Int32} {i : Nat} {x : Int32} (F : ZV Z h a xs) (W : Wr h h' a i (Value.int x)) : ZV Z h' a (xs.set i x) := by
  have q := Vec.set F W
  rwa [← List.map_set] at q
theorem mapAt {α : Type} {f : α → Value} {xs : List α} {i : Nat} {x : α} (h : xs[i]? = some x) : (xs.map f)[i]? = some (f x) := by rw [List.getElem?_map, h]; rfl
theorem mapLt {α : Type} {f : α → Value} {xs : List α} {i : Nat} (h : i < xs.length) : i < (xs.map f).length := by rwa [List.length_map]
theorem getDAt {α : Type} {xs : List α} {i : Nat} {d : α} (h : i < xs.length) : xs[i]? = some (xs.getD i d) := by rw [List.getD_eq_getElem?_getD, List.getElem?_eq_getElem h]; rfl
section Walk2
variable {p : Program} {l : Launch} {e : Env} {R : Room} {s : State} {m : MethodId} {args : Array Value} {below : List Frame} {meth : Method} {c : Code} {Z : State} {a0 : Array Value} {own nm : String} {bytes : ByteArray} {ml : Nat} {ret : Option FieldType} {n0 ce sl pc pc' : Nat} {h : Heap} {Ls Ls' : Array Slot} {S : List Value} {Q : Option Value → Heap → Prop} {a : Addr} {ty : FieldType} {xs : List Value} {v : Value} {j : Int32} {i : Nat}
theorem inb {cl : Cell} (e1 : cl.slots.toList = xs) (hj : j.toInt = i) (hi : i < xs.length) : ¬ (j < 0 ∨ cl.slots.size ≤ j.toNatClampNeg) := by
  obtain ⟨q1, q2⟩ := clamp hj
  subst e1
  rw [q1]; simp at hi; intro q; rcases q with q | q
  · exact q2 q
  · omega
theorem inv {cl : Cell} (e1 : cl.slots.toList = xs) (hj : j.toInt = i) (hv : xs[i]? = some v) : cl.slots[j.toNatClampNeg]? = some v := by
  obtain ⟨q1, q2⟩ := clamp hj
  subst e1
  rw [q1]; simpa using hv
theorem ltOf (hv : xs[i]? = some v) : i < xs.length := (List.getElem?_eq_some_iff.mp hv).1
theorem iaload (K : Cx Z own nm bytes ml ret p s m meth c) (F : Vec Z h a .int xs) (hj : j.toInt = i) (hv : xs[i]? = some v) (hd : decode bytes pc = .ok (.iaload, 1)) (hp : pc + 1 = pc') (q : Go p l e R s m args below meth c n0 h ce sl (mkF m pc' Ls (v :: S)) Q) : Go p l e R s m args below meth c n0 h ce sl (mkF m pc Ls (.int j :: .ref a :: S)) Q := by
  subst hp; obtain ⟨cl, A, e1, e2⟩ := F
  exact one (fun T L X eT t => X.iaload K.1 (by rw [eT]; exact A.1) (State.isArrayOf_alike K.2.1.alike A.2.1) A.2.2 (inb e1 hj (ltOf hv)) (inv e1 hj hv) (g := mkF m pc Ls (.int j :: .ref a :: S)) rfl rfl (hb K.2.2.2.1 hd) t) q
theorem laload (K : Cx Z own nm bytes ml ret p s m meth c) (F : Vec Z h a .long xs) (hj : j.toInt = i) (hv : xs[i]? = some v) (hd : decode bytes pc = .ok (.laload, 1)) (hp : pc + 1 = pc') (q : Go p l e R s m args below meth c n0 h ce sl (mkF m pc' Ls (v :: S)) Q) : Go p l e R s m args below meth c n0 h ce sl (mkF m pc Ls (.int j :: .ref a :: S)) Q := by
  subst hp; obtain ⟨cl, A, e1, e2⟩ := F
  exact one (fun T L X eT t => X.laload K.1 (by rw [eT]; exact A.1) (State.isArrayOf_alike K.2.1.alike A.2.1) A.2.2 (inb e1 hj (ltOf hv)) (inv e1 hj hv) (g := mkF m pc Ls (.int j :: .ref a :: S)) rfl rfl (hb K.2.2.2.1 hd) t) q
theorem daload (K : Cx Z own nm bytes ml ret p s m meth c) (F : Vec Z h a .double xs) (hj : j.toInt = i) (hv : xs[i]? = some v) (hd : decode bytes pc = .ok (.daload, 1)) (hp : pc + 1 = pc') (q : Go p l e R s m args below meth c n0 h ce sl (mkF m pc' Ls (v :: S)) Q) : Go p l e R s m args below meth c n0 h ce sl (mkF m pc Ls (.int j :: .ref a :: S)) Q := by
  subst hp; obtain ⟨cl, A, e1, e2⟩ := F
  exact one (fun T L X eT t => X.daload K.1 (by rw [eT]; exact A.1) (State.isArrayOf_alike K.2.1.alike A.2.1) A.2.2 (inb e1 hj (ltOf hv)) (inv e1 hj hv) (g := mkF m pc Ls (.int j :: .ref a :: S)) rfl rfl (hb K.2.2.2.1 hd) t) q
theorem zaload (K : Cx Z own nm bytes ml ret p s m meth c) (F : Vec Z h a .boolean xs) (hj : j.toInt = i) (hv : xs[i]? = some v) (hd : decode bytes pc = .ok (.baload, 1)) (hp : pc + 1 = pc') (q : Go p l e R s m args below meth c n0 h ce sl (mkF m pc' Ls (v :: S)) Q) : Go p l e R s m args below meth c n0 h ce sl (mkF m pc Ls (.int j :: .ref a :: S)) Q := by
  subst hp; obtain ⟨cl, A, e1, e2⟩ := F
  exact one (fun T L X eT t => X.baloadBooleans K.1 (by rw [eT]; exact A.1) (State.isArrayOf_alike K.2.1.alike A.2.1) A.2.2 (inb e1 hj (ltOf hv)) (inv e1 hj hv) (g := mkF m pc Ls (.int j :: .ref a :: S)) rfl rfl (hb K.2.2.2.1 hd) t) q
theorem baload (K : Cx Z own nm bytes ml ret p s m meth c) (F : Vec Z h a .byte xs) (hj : j.toInt = i) (hv : xs[i]? = some v) (hd : decode bytes pc = .ok (.baload, 1)) (hp : pc + 1 = pc') (q : Go p l e R s m args below meth c n0 h ce sl (mkF m pc' Ls (v :: S)) Q) : Go p l e R s m args below meth c n0 h ce sl (mkF m pc Ls (.int j :: .ref a :: S)) Q := by
  subst hp; obtain ⟨cl, A, e1, e2⟩ := F
  exact one (fun T L X eT t => X.baloadBytes K.1 (by rw [eT]; exact A.1) (State.isArrayOf_alike K.2.1.alike A.2.1) A.2.2 (inb e1 hj (ltOf hv)) (inv e1 hj hv) (g := mkF m pc Ls (.int j :: .ref a :: S)) rfl rfl (hb K.2.2.2.1 hd) t) q
theorem aaload (K : Cx Z own nm bytes ml ret p s m meth c) (F : Vec Z h a ty xs) (ht : ty.isReference = true) (hj : j.toInt = i) (hv : xs[i]? = some v) (hd : decode bytes pc = .ok (.aaload, 1)) (hp : pc + 1 = pc') (q : Go p l e R s m args below meth c n0 h ce sl (mkF m pc' Ls (v :: S)) Q) : Go p l e R s m args below meth c n0 h ce sl (mkF m pc Ls (.int j :: .ref a :: S)) Q := by
  subst hp; obtain ⟨cl, A, e1, e2⟩ := F
  exact one (fun T L X eT t => X.aaload K.1 (by rw [eT]; exact A.1) (State.isArrayOf_alike K.2.1.alike A.2.1) ht A.2.2 (inb e1 hj (ltOf hv)) (inv e1 hj hv) (g := mkF m pc Ls (.int j :: .ref a :: S)) rfl rfl (hb K.2.2.2.1 hd) t) q
theorem alen (K : Cx Z own nm bytes ml ret p s m meth c) (F : Vec Z h a ty xs) (hd : decode bytes pc = .ok (.arraylength, 1)) (hp : pc + 1 = pc') (q : Go p l e R s m args below meth c n0 h ce sl (mkF m pc' Ls (.int xs.length.toInt32 :: S)) Q) : Go p l e R s m args below meth c n0 h ce sl (mkF m pc Ls (.ref a :: S)) Q := by
  subst hp; obtain ⟨cl, A, e1, e2⟩ := F
  have hz : cl.slots.size = xs.length := by rw [← e1]; simp
  rw [← hz] at q
  exact one (fun T L X eT t => X.arraylength K.1 (by rw [eT]; exact A.1) (State.isArrayOf_alike K.2.1.alike A.2.1) (g := mkF m pc Ls (.ref a :: S)) rfl rfl (hb K.2.2.2.1 hd) t) q
theorem iastore (K : Cx Z own nm bytes ml ret p s m meth c) {x : Int32} (F : Vec Z h a .int xs) (hj : j.toInt = i) (hi : i < xs.length) (ga : n0 ≤ a) (hd : decode bytes pc = .ok (.iastore, 1)) (hp : pc + 1 = pc') (q : ∀ h', Wr h h' a i (.int x) → Go p l e R s m args below meth c n0 h' ce sl (mkF m pc' Ls S) Q) : Go p l e R s m args below meth c n0 h ce sl (mkF m pc Ls (.int x :: .int j :: .ref a :: S)) Q := by
  subst hp; obtain ⟨cl, A, e1, e2⟩ := F
  intro T L0 X N eT
  obtain ⟨T', h', X', e', W, st⟩ := stI X K.1 K.2.1 eT A (inb e1 hj hi) (g := mkF m pc Ls (.int x :: .int j :: .ref a :: S)) rfl rfl (hb K.2.2.2.1 hd)
  rw [(clamp hj).1] at W
  obtain ⟨s₂, u, L', a1, r⟩ := q h' W T' _ X' (Fr.snoc X' N ga) e'
  exact ⟨s₂, u, L', st _ a1, r⟩
theorem lastore (K : Cx Z own nm bytes ml ret p s m meth c) {x : Int64} (F : Vec Z h a .long xs) (hj : j.toInt = i) (hi : i < xs.length) (ga : n0 ≤ a) (hd : decode bytes pc = .ok (.lastore, 1)) (hp : pc + 1 = pc') (q : ∀ h', Wr h h' a i (.long x) → Go p l e R s m args below meth c n0 h' ce sl (mkF m pc' Ls S) Q) : Go p l e R s m args below meth c n0 h ce sl (mkF m pc Ls (.long x :: .int j :: .ref a :: S)) Q := by
  subst hp; obtain ⟨cl, A, e1, e2⟩ := F
  intro T L0 X N eT
  obtain ⟨T', h', X', e', W, st⟩ := stJ X K.1 K.2.1 eT A (inb e1 hj hi) (g := mkF m pc Ls (.long x :: .int j :: .ref a :: S)) rfl rfl (hb K.2.2.2.1 hd)
  rw [(clamp hj).1] at W
  obtain ⟨s₂, u, L', a1, r⟩ := q h' W T' _ X' (Fr.snoc X' N ga) e'
  exact ⟨s₂, u, L', st _ a1, r⟩
theorem dastore (K : Cx Z own nm bytes ml ret p s m meth c) {x : UInt64} (F : Vec Z h a .double xs) (hj : j.toInt = i) (hi : i < xs.length) (ga : n0 ≤ a) (hd : decode bytes pc = .ok (.dastore, 1)) (hp : pc + 1 = pc') (q : ∀ h', Wr h h' a i (.double x) → Go p l e R s m args below meth c n0 h' ce sl (mkF m pc' Ls S) Q) : Go p l e R s m args below meth c n0 h ce sl (mkF m pc Ls (.double x :: .int j :: .ref a :: S)) Q := by
  subst hp; obtain ⟨cl, A, e1, e2⟩ := F
  intro T L0 X N eT
  obtain ⟨T', h', X', e', W, st⟩ := stD X K.1 K.2.1 eT A (inb e1 hj hi) (g := mkF m pc Ls (.double x :: .int j :: .ref a :: S)) rfl rfl (hb K.2.2.2.1 hd)
  rw [(clamp hj).1] at W
  obtain ⟨s₂, u, L', a1, r⟩ := q h' W T' _ X' (Fr.snoc X' N ga) e'
  exact ⟨s₂, u, L', st _ a1, r⟩
theorem zastore (K : Cx Z own nm bytes ml ret p s m meth c) {x : Int32} (F : Vec Z h a .boolean xs) (hj : j.toInt = i) (hi : i < xs.length) (ga : n0 ≤ a) (hd : decode bytes pc = .ok (.bastore, 1)) (hp : pc + 1 = pc') (q : ∀ h', Wr h h' a i (.int (nar .boolean x)) → Go p l e R s m args below meth c n0 h' ce sl (mkF m pc' Ls S) Q) : Go p l e R s m args below meth c n0 h ce sl (mkF m pc Ls (.int x :: .int j :: .ref a :: S)) Q := by
  subst hp; obtain ⟨cl, A, e1, e2⟩ := F
  intro T L0 X N eT
  obtain ⟨T', h', X', e', W, st⟩ := stZ X K.1 K.2.1 eT A (inb e1 hj hi) (g := mkF m pc Ls (.int x :: .int j :: .ref a :: S)) rfl rfl (hb K.2.2.2.1 hd)
  rw [(clamp hj).1] at W
  obtain ⟨s₂, u, L', a1, r⟩ := q h' W T' _ X' (Fr.snoc X' N ga) e'
  exact ⟨s₂, u, L', st _ a1, r⟩
theorem bastore (K : Cx Z own nm bytes ml ret p s m meth c) {x : Int32} (F : Vec Z h a .byte xs) (hj : j.toInt = i) (hi : i < xs.length) (ga : n0 ≤ a) (hd : decode bytes pc = .ok (.bastore, 1)) (hp : pc + 1 = pc') (q : ∀ h', Wr h h' a i (.int (nar .byte x)) → Go p l e R s m args below meth c n0 h' ce sl (mkF m pc' Ls S) Q) : Go p l e R s m args below meth c n0 h ce sl (mkF m pc Ls (.int x :: .int j :: .ref a :: S)) Q := by
  subst hp; obtain ⟨cl, A, e1, e2⟩ := F
  intro T L0 X N eT
  obtain ⟨T', h', X', e', W, st⟩ := stB X K.1 K.2.1 eT A (inb e1 hj hi) (g := mkF m pc Ls (.int x :: .int j :: .ref a :: S)) rfl rfl (hb K.2.2.2.1 hd)
  rw [(clamp hj).1] at W
  obtain ⟨s₂, u, L', a1, r⟩ := q h' W T' _ X' (Fr.snoc X' N ga) e'
  exact ⟨s₂, u, L', st _ a1, r⟩
theorem aastore (K : Cx Z own nm bytes ml ret p s m meth c) {C : String} (F : VecR Z h a C xs) (hS : v = .null ∨ ∃ y, v = .ref y ∧ Ins Z h y C true) (hj : j.toInt = i) (hi : i < xs.length) (ga : n0 ≤ a) (hd : decode bytes pc = .ok (.aastore, 1)) (hp : pc + 1 = pc') (q : ∀ h', Wr h h' a i v → Go p l e R s m args below meth c n0 h' ce sl (mkF m pc' Ls S) Q) : Go p l e R s m args below meth c n0 h ce sl (mkF m pc Ls (v :: .int j :: .ref a :: S)) Q := by
  subst hp; obtain ⟨cl, A, e1, e2, O⟩ := F
  intro T L0 X N eT
  have hSt : Sto Z h a v := by
    rcases hS with rfl | ⟨y, rfl, I⟩
    · exact Or.inl rfl
    · exact Sto.of A O I
  obtain ⟨T', h', X', e', W, st⟩ := stR X K.1 K.2.1 eT A (inb e1 hj hi) rfl hSt (g := mkF m pc Ls (v :: .int j :: .ref a :: S)) rfl rfl (hb K.2.2.2.1 hd)
  rw [(clamp hj).1] at W
  obtain ⟨s₂, u, L', a1, r⟩ := q h' W T' _ X' (Fr.snoc X' N ga) e'
  exact ⟨s₂, u, L', st _ a1, r⟩
theorem newArr (K : Cx Z own nm bytes ml ret p s m meth c) {aty : ArrayType} {n : Int32} {N : Nat} (w : (Cond.arrayClass (newarray.typeOf aty)).before a0 Z = true) (hn : n.toInt = N) (hb : N * 8 ≤ 536870912) (hd : decode bytes pc = .ok (.newarray aty, 2)) (hc : ce + 1 ≤ R.cells) (hl : sl + N ≤ R.slots) (hp : pc + 2 = pc') (q : ∀ h' x, x = h.size → Ext h h' → Vec Z h' x (newarray.typeOf aty) (List.replicate N (defaultValue (newarray.typeOf aty))) → Go p l e R s m args below meth c n0 h' (ce + 1) (sl + N) (mkF m pc' Ls (.ref x :: S)) Q) : Go p l e R s m args below meth c n0 h ce sl (mkF m pc Ls (.int n :: S)) Q := by
  subst hp
  obtain ⟨c1, c2⟩ := clamp hn
  intro T L0 X N0 eT
  obtain ⟨T', h', cA, X', e', E, A, st⟩ := newP X K.1 K.2.1 w eT (g := mkF m pc Ls (.int n :: S)) rfl (Jvm.hb K.2.2.2.1 hd) rfl c2 (cap := N) (Nat.le_of_eq c1) hb hc hl
  obtain ⟨s₂, u, L', a1, r⟩ := q h' h.size rfl E ⟨_, A, by simp [newA, c1], by simp; omega⟩ T' _ X' N0 e'
  exact ⟨s₂, u, L', st _ a1, r⟩
theorem newArrR (K : Cx Z own nm bytes ml ret p s m meth c) {k : Nat} {C : String} {n : Int32} {N : Nat} (w1 : (Cond.classLink own k C).before a0 Z = true) (w2 : (Cond.arrayOver (.object C)).before a0 Z = true) (hn : n.toInt = N) (hb : N * 8 ≤ 536870912) (hd : decode bytes pc = .ok (.anewarray k, 3)) (hc : ce + 1 ≤ R.cells) (hl : sl + N ≤ R.slots) (hp : pc + 3 = pc') (q : ∀ h' x, x = h.size → Ext h h' → VecR Z h' x C (List.replicate N .null) → Go p l e R s m args below meth c n0 h' (ce + 1) (sl + N) (mkF m pc' Ls (.ref x :: S)) Q) : Go p l e R s m args below meth c n0 h ce sl (mkF m pc Ls (.int n :: S)) Q := by
  subst hp
  obtain ⟨c1, c2⟩ := clamp hn
  intro T L0 X N0 eT
  obtain ⟨T', h', cA, X', e', E, A, O, st⟩ := newR X K.1 K.2.1 K.2.2.1 w1 w2 eT (g := mkF m pc Ls (.int n :: S)) rfl (Jvm.hb K.2.2.2.1 hd) rfl c2 (cap := N) (Nat.le_of_eq c1) hb hc hl
  obtain ⟨s₂, u, L', a1, r⟩ := q h' h.size rfl E ⟨_, A, by simp [newA, c1, defaultValue], by simp; omega, O⟩ T' _ X' N0 e'
  exact ⟨s₂, u, L', st _ a1, r⟩
theorem cast' (K : Cx Z own nm bytes ml ret p s m meth c) {k : Nat} {K' : String} (w : (Cond.classLink own k K').before a0 Z = true) (F : Ins Z h a K' true) (hd : decode bytes pc = .ok (.checkcast k, 3)) (hp : pc + 3 = pc') (q : Go p l e R s m args below meth c n0 h ce sl (mkF m pc' Ls (.ref a :: S)) Q) : Go p l e R s m args below meth c n0 h ce sl (mkF m pc Ls (.ref a :: S)) Q := by
  subst hp; exact oneT (fun T L X eT => castY X K.1 K.2.1 K.2.2.1 w eT F (g := mkF m pc Ls (.ref a :: S)) rfl rfl (hb K.2.2.2.1 hd)) q
end Walk2
/-- a body's walk is its contract -/
theorem ctr {l : Launch} {Z : State} {y : MethodName} {bytes : ByteArray} {ml : Nat} {ret : Option FieldType} {ws : List Cond} {rm : Room} {n0 : Nat} {as' : Array Value} {h : Heap} {Q : Option Value → Heap → Prop} {own nm : String} (ho : y.cls = own) (hn : y.name = nm) {Ls : Array Slot} (hpl : plainFor y = true) (hef : ∀ m : MethodId, entryFrame m as' ml = mkF m 0 Ls [])
    (body : ∀ (p : Program) (e : Env) (s : State) (m : MethodId) (below : List Frame) (meth : Method) (c : Code), Cx Z own nm bytes ml ret p s m meth c → s.heap = h → Go p l e rm s m as' below meth c n0 h 0 0 (mkF m 0 Ls []) Q) : Ctr l Z y bytes ml ret ws rm n0 as' h Q := by
  subst ho hn
  refine MetFree.of_bodySF hpl hisR ?_
  intro p e s m args below meth c s₁ Bd hml hP hK
  obtain ⟨rfl, hZ, hh⟩ := hP
  have X0 : Stand p l e rm s m _ below meth c s₁ [] 0 0 := Stand.of_body Bd
  have e0 : s₁.heap = h := by rw [← hh, Bd.state]; rfl
  obtain ⟨s₂, v, L', a1, a2, a3, a4, a5, a6⟩ := body p e s m below meth c ⟨Bd.exec, hZ, findClass_of_methodNamed Bd.named, Bd.bytes, hml, Bd.returns, BodyLoose.notSynchronized Bd, (name_of_methodNamed Bd.named Bd.method).1⟩ hh s₁ [] X0 (Fr.nil n0) e0
  exact ⟨s₂, _, castTop (hef m) a1, a2, a3, v, L', rfl, ⟨a5, a4⟩, a6⟩
/-- a term that the case sets equal to a double -/
theorem eqD {args : Array Value} {first s : State} {o : Option Outcome} {idx : List Nat} {a b : Term} {n : UInt64} (h : (Cond.eq a b).value args first o s idx = some true) (hb : b.eval args first o idx s = some (.double n)) : a.eval args first o idx s = some (.double n) := by
  simp only [Cond.value, hb] at h
  cases ha : a.eval args first o idx s with
  | none => simp [ha] at h
  | some x => cases x <;> simp [ha] at h ⊢; exact h
/-- a term that the case sets equal to a reference -/
theorem eqR {args : Array Value} {first s : State} {o : Option Outcome} {idx : List Nat} {a b : Term} {n : Addr} (h : (Cond.eq a b).value args first o s idx = some true) (hb : b.eval args first o idx s = some (.ref n)) : a.eval args first o idx s = some (.ref n) := by
  simp only [Cond.value, hb] at h
  cases ha : a.eval args first o idx s with
  | none => simp [ha] at h
  | some x => cases x <;> simp [ha] at h ⊢; exact h
theorem eqI {args : Array Value} {first s : State} {o : Option Outcome} {idx : List Nat} {a b : Term} {n : Int32} (h : (Cond.eq a b).value args first o s idx = some true) (hb : b.eval args first o idx s = some (.int n)) : a.eval args first o idx s = some (.int n) := by
  simp only [Cond.value, hb] at h
  cases ha : a.eval args first o idx s with
  | none => simp [ha] at h
  | some x => cases x <;> simp [ha] at h ⊢; exact h
/-! the branch behind a comparison of doubles -/
def dge (r : Option Ordering) : Prop := r = some .eq ∨ r = some .gt
def dle (r : Option Ordering) : Prop := r = some .lt ∨ r = some .eq
section Dd
variable {r : Option Ordering}
theorem dd_l_eq_t (h : r = some .eq) : ifCond.holds .eq (cmpValue r .l) = true := by
  revert h; try unfold dge
  try unfold dle
  rcases r with _ | (_ | _ | _) <;> decide
theorem dd_l_eq_f (h : ¬ r = some .eq) : ifCond.holds .eq (cmpValue r .l) = false := by
  revert h; try unfold dge
  try unfold dle
  rcases r with _ | (_ | _ | _) <;> decide
theorem dd_l_ne_t (h : ¬ r = some .eq) : ifCond.holds .ne (cmpValue r .l) = true := by
  revert h; try unfold dge
  try unfold dle
  rcases r with _ | (_ | _ | _) <;> decide
theorem dd_l_ne_f (h : r = some .eq) : ifCond.holds .ne (cmpValue r .l) = false := by
  revert h; try unfold dge
  try unfold dle
  rcases r with _ | (_ | _ | _) <;> decide
theorem dd_l_lt_t (h : ¬ dge r) : ifCond.holds .lt (cmpValue r .l) = true := by
  revert h; try unfold dge
  try unfold dle
  rcases r with _ | (_ | _ | _) <;> decide
theorem dd_l_lt_f (h : dge r) : ifCond.holds .lt (cmpValue r .l) = false := by
  revert h; try unfold dge
  try unfold dle
  rcases r with _ | (_ | _ | _) <;> decide
theorem dd_l_ge_t (h : dge r) : ifCond.holds .ge (cmpValue r .l) = true := by
  revert h; try unfold dge
  try unfold dle
  rcases r with _ | (_ | _ | _) <;> decide
theorem dd_l_ge_f (h : ¬ dge r) : ifCond.holds .ge (cmpValue r .l) = false := by
  revert h; try unfold dge
  try unfold dle
  rcases r with _ | (_ | _ | _) <;> decide
theorem dd_l_gt_t (h : r = some .gt) : ifCond.holds .gt (cmpValue r .l) = true := by
  revert h; try unfold dge
  try unfold dle
  rcases r with _ | (_ | _ | _) <;> decide
theorem dd_l_gt_f (h : ¬ r = some .gt) : ifCond.holds .gt (cmpValue r .l) = false := by
  revert h; try unfold dge
  try unfold dle
  rcases r with _ | (_ | _ | _) <;> decide
theorem dd_l_le_t (h : ¬ r = some .gt) : ifCond.holds .le (cmpValue r .l) = true := by
  revert h; try unfold dge
  try unfold dle
  rcases r with _ | (_ | _ | _) <;> decide
theorem dd_l_le_f (h : r = some .gt) : ifCond.holds .le (cmpValue r .l) = false := by
  revert h; try unfold dge
  try unfold dle
  rcases r with _ | (_ | _ | _) <;> decide
theorem dd_g_eq_t (h : r = some .eq) : ifCond.holds .eq (cmpValue r .g) = true := by
  revert h; try unfold dge
  try unfold dle
  rcases r with _ | (_ | _ | _) <;> decide
theorem dd_g_eq_f (h : ¬ r = some .eq) : ifCond.holds .eq (cmpValue r .g) = false := by
  revert h; try unfold dge
  try unfold dle
  rcases r with _ | (_ | _ | _) <;> decide
theorem dd_g_ne_t (h : ¬ r = some .eq) : ifCond.holds .ne (cmpValue r .g) = true := by
  revert h; try unfold dge
  try unfold dle
  rcases r with _ | (_ | _ | _) <;> decide
theorem dd_g_ne_f (h : r = some .eq) : ifCond.holds .ne (cmpValue r .g) = false := by
  revert h; try unfold dge
  try unfold dle
  rcases r with _ | (_ | _ | _) <;> decide
theorem dd_g_lt_t (h : r = some .lt) : ifCond.holds .lt (cmpValue r .g) = true := by
  revert h; try unfold dge
  try unfold dle
  rcases r with _ | (_ | _ | _) <;> decide
theorem dd_g_lt_f (h : ¬ r = some .lt) : ifCond.holds .lt (cmpValue r .g) = false := by
  revert h; try unfold dge
  try unfold dle
  rcases r with _ | (_ | _ | _) <;> decide
theorem dd_g_ge_t (h : ¬ r = some .lt) : ifCond.holds .ge (cmpValue r .g) = true := by
  revert h; try unfold dge
  try unfold dle
  rcases r with _ | (_ | _ | _) <;> decide
theorem dd_g_ge_f (h : r = some .lt) : ifCond.holds .ge (cmpValue r .g) = false := by
  revert h; try unfold dge
  try unfold dle
  rcases r with _ | (_ | _ | _) <;> decide
theorem dd_g_gt_t (h : ¬ dle r) : ifCond.holds .gt (cmpValue r .g) = true := by
  revert h; try unfold dge
  try unfold dle
  rcases r with _ | (_ | _ | _) <;> decide
theorem dd_g_gt_f (h : dle r) : ifCond.holds .gt (cmpValue r .g) = false := by
  revert h; try unfold dge
  try unfold dle
  rcases r with _ | (_ | _ | _) <;> decide
theorem dd_g_le_t (h : dle r) : ifCond.holds .le (cmpValue r .g) = true := by
  revert h; try unfold dge
  try unfold dle
  rcases r with _ | (_ | _ | _) <;> decide
theorem dd_g_le_f (h : ¬ dle r) : ifCond.holds .le (cmpValue r .g) = false := by
  revert h; try unfold dge
  try unfold dle
  rcases r with _ | (_ | _ | _) <;> decide
end Dd
end Jvm.OwnWp
namespace Jvm.OwnFl
open Jvm.FP Jvm.FP.Core
theorem pow_swap {X Y A B u v : Nat} (h : X * 2 ^ A = Y * 2 ^ B) (e : A + v = B + u) : X * 2 ^ u = Y * 2 ^ v := by
  have p := Nat.two_pow_pos B
  refine Nat.eq_of_mul_eq_mul_right p ?_
  calc X * 2 ^ u * 2 ^ B = X * 2 ^ (B + u) := by rw [Nat.pow_add]; ac_rfl
    _ = X * 2 ^ A * 2 ^ v := by rw [← e, Nat.pow_add]; ac_rfl
    _ = Y * 2 ^ v * 2 ^ B := by rw [h]; ac_rfl
theorem dint_fin {i : Int} {a : UInt64} (h : DInt i a) : ∃ s c q, val64 a = .fin s c q ∧ Whole i (.fin s c q) := by
  unfold DInt at h
  cases hv : val64 a with
  | nan => rw [hv] at h; exact h.elim
  | inf s => rw [hv] at h; exact h.elim
  | fin s c q => rw [hv] at h; exact ⟨s, c, q, rfl, h⟩
/-- the quotient of two whole numbers, the divisor above nought, the dividend not nought -/
theorem ddiv_ratio {i j : Int} {a b : UInt64} (ha : DInt i a) (hb : DInt j b) (hi : i ≠ 0) (hj : 0 < j) : val64 (Core.ddiv a b) = roundRatio b64 (decide (i < 0)) i.natAbs j.natAbs 0 := by
  obtain ⟨s, c, q, ea, wa⟩ := dint_fin ha
  obtain ⟨t, d, r, eb, wb⟩ := dint_fin hb
  rw [val64_ddiv, ea, eb]
  have hd : d ≠ 0 := fun h => by have := (whole_zero wb).mp h; omega
  have hs := whole_sign wa hi
  have ht := whole_sign wb (by omega : j ≠ 0)
  have hj' : decide (j < 0) = false := by simp; omega
  rw [hj'] at ht
  subst hs ht
  show (if d = 0 then (if c = 0 then Datum.nan else .inf (decide (i < 0) != false)) else roundRatio b64 (decide (i < 0) != false) c d (q - r)) = _
  rw [if_neg hd, Bool.bne_false]
  have h1 := whole_natAbs wa
  have h2 := whole_natAbs wb
  refine roundRatio_congr (Nat.pos_of_ne_zero hd) (by omega) ?_
  refine pow_swap (A := q.toNat + (-r).toNat) (B := (-q).toNat + r.toNat) ?_ (by omega)
  rw [Nat.pow_add, Nat.pow_add]
  calc c * j.natAbs * (2 ^ q.toNat * 2 ^ (-r).toNat) = (c * 2 ^ q.toNat) * (j.natAbs * 2 ^ (-r).toNat) := by ac_rfl
    _ = (i.natAbs * 2 ^ (-q).toNat) * (d * 2 ^ r.toNat) := by rw [h1, h2]
    _ = i.natAbs * d * (2 ^ (-q).toNat * 2 ^ r.toNat) := by ac_rfl
/-- a quotient that comes out whole -/
theorem ddiv_int {i j k : Int} {a b : UInt64} (ha : DInt i a) (hb : DInt j b) (hj : 0 < j) (h : i = k * j) (hk : k.natAbs ≤ 2 ^ 53) : DInt k (Core.ddiv a b) := by
  by_cases hi : i = 0
  · have hk0 : k = 0 := by rcases Int.mul_eq_zero.mp (h.symm.trans hi) with q | q <;> omega
    subst hk0 hi
    obtain ⟨s, c, q, ea, wa⟩ := dint_fin ha
    obtain ⟨t, d, r, eb, wb⟩ := dint_fin hb
    have hd : d ≠ 0 := fun h => by have := (whole_zero wb).mp h; omega
    have hc : c = 0 := (whole_zero wa).mpr rfl
    unfold DInt
    rw [val64_ddiv, ea, eb]
    show Whole 0 (if d = 0 then (if c = 0 then Datum.nan else .inf (s != t)) else roundRatio b64 (s != t) c d (q - r))
    rw [if_neg hd, hc]
    show Whole 0 (if (0 : Nat) = 0 then Datum.fin (s != t) 0 b64.qmin else _)
    rw [if_pos rfl]
    show signed (s != t) (0 * _) = 0 * _
    rw [Nat.zero_mul, Int.zero_mul]; exact signed_zero _
  · have hk0 : k ≠ 0 := fun q => hi (by rw [h, q, Int.zero_mul])
    have hs : decide (i < 0) = decide (k < 0) := by
      rw [decide_eq_decide, h]
      constructor
      · intro q; refine Int.lt_of_not_ge fun g => ?_
        have := Int.mul_nonneg g (Int.le_of_lt hj); omega
      · intro q; exact Int.mul_neg_of_neg_of_pos q hj
    have e : val64 (Core.ddiv a b) = Core.round b64 (ofInt k) := by
      rw [ddiv_ratio ha hb hi hj, hs]
      show _ = roundRatio b64 (decide (k < 0)) k.natAbs 1 0
      refine roundRatio_congr (by omega) (by decide) ?_
      rw [h, Int.natAbs_mul]; simp
    unfold DInt
    rw [e]
    exact whole_round good_b64 wide_b64 hk (whole_ofInt k)
/-- a quotient of whole numbers above nought lies beneath what its exact value lies beneath -/
theorem ddiv_le {i j : Int} {a b V : UInt64} (ha : DInt i a) (hb : DInt j b) (hi : 0 < i) (hj : 0 < j) (hV : val64 V ≠ .nan) (h : i * (one64 : Int) ≤ zval b64 (val64 V) * j) : val64 (Core.ddiv a b) ≠ .nan ∧ zval b64 (val64 (Core.ddiv a b)) ≤ zval b64 (val64 V) := by
  have e := ddiv_ratio ha hb (by omega) hj
  have hd : decide (i < 0) = false := by simp; omega
  rw [hd] at e
  refine ⟨by rw [e]; exact roundRatio_ne_nan _ _ _ _ _, ?_⟩
  have h0 : 0 < zval b64 (val64 V) := by
    refine Int.lt_of_not_ge fun g => ?_
    have h1 : zval b64 (val64 V) * j ≤ 0 := Int.mul_nonpos_of_nonpos_of_nonneg g (Int.le_of_lt hj)
    have h2 : 0 < i * (one64 : Int) := Int.mul_pos hi (by have := one64_pos; omega)
    omega
  have hz : zval b64 (val64 V) = (zmag b64 (val64 V) : Int) := by
    unfold zval at h0 ⊢; exact (signed_pos h0).1
  have key := zmag_roundRatio_le good_b64 (s := false) (A := i.natAbs) (B := j.natAbs) (e := 0) (e0 := b64.qmin) (V := val64 V) (by omega) (val64_fits V) hV (Int.le_refl _) (by decide) (by
    rw [Int.sub_self, Int.toNat_zero, Nat.pow_zero, Nat.mul_one]
    show i.natAbs * 2 ^ (0 - b64.qmin).toNat ≤ _
    rw [Int.zero_sub, pow_qmin64]
    rw [hz] at h
    have : ((i.natAbs * one64 : Nat) : Int) ≤ ((zmag b64 (val64 V) * j.natAbs : Nat) : Int) := by
      rw [Int.natCast_mul, Int.natCast_mul, Int.natAbs_of_nonneg (Int.le_of_lt hi), Int.natAbs_of_nonneg (Int.le_of_lt hj)]; exact h
    omega)
  rw [e, hz]
  unfold zval
  rw [sgn_roundRatio]
  show ((zmag b64 (roundRatio b64 false i.natAbs j.natAbs 0) : Nat) : Int) ≤ _
  omega
theorem ddiv_ge {i j : Int} {a b V : UInt64} (ha : DInt i a) (hb : DInt j b) (hi : 0 < i) (hj : 0 < j) (hV : val64 V ≠ .nan) (h : zval b64 (val64 V) * j ≤ i * (one64 : Int)) : zval b64 (val64 V) ≤ zval b64 (val64 (Core.ddiv a b)) := by
  have e := ddiv_ratio ha hb (by omega) hj
  have hd : decide (i < 0) = false := by simp; omega
  rw [hd] at e
  rw [e]
  have hp : 0 ≤ zval b64 (roundRatio b64 false i.natAbs j.natAbs 0) := by
    unfold zval; rw [sgn_roundRatio]; show (0 : Int) ≤ ((zmag b64 (roundRatio b64 false i.natAbs j.natAbs 0) : Nat) : Int); omega
  by_cases h0 : 0 < zval b64 (val64 V)
  · have hz : zval b64 (val64 V) = (zmag b64 (val64 V) : Int) := by
      unfold zval at h0 ⊢; exact (signed_pos h0).1
    have key := zmag_roundRatio_ge good_b64 (s := false) (A := i.natAbs) (B := j.natAbs) (e := 0) (e0 := b64.qmin) (V := val64 V) (by omega) (val64_fits V) (Int.le_refl _) (by decide) (by
      rw [Int.sub_self, Int.toNat_zero, Nat.pow_zero, Nat.mul_one]
      show _ ≤ i.natAbs * 2 ^ (0 - b64.qmin).toNat
      rw [Int.zero_sub, pow_qmin64]
      rw [hz] at h
      have : ((zmag b64 (val64 V) * j.natAbs : Nat) : Int) ≤ ((i.natAbs * one64 : Nat) : Int) := by
        rw [Int.natCast_mul, Int.natCast_mul, Int.natAbs_of_nonneg (Int.le_of_lt hi), Int.natAbs_of_nonneg (Int.le_of_lt hj)]; exact h
      omega)
    rw [hz]
    unfold zval
    rw [sgn_roundRatio]
    show _ ≤ ((zmag b64 (roundRatio b64 false i.natAbs j.natAbs 0) : Nat) : Int)
    omega
  · omega
theorem dint_nn {i : Int} {a : UInt64} (h : DInt i a) : Jvm.Free.Fl.NoNaN64 a := Jvm.Free.Fl.val64_no.mpr (DInt_ne_nan h)
end Jvm.OwnFl
namespace Jvm.Pilot.@@N@@
open Jvm Jvm.ClassFile Sem Op Lib Jvm.Free Jvm.Stand Jvm.LawKit Jvm.RoadKit Bundle Jvm.Pilot.@@N@@.Jvm.D Jvm.OwnWp

theorem d_prog_12_method_7_0 : decode prog_12_method_7_code 0 = .ok (.aload_n 0, 1) := by decide +kernel
theorem d_prog_12_method_7_1 : decode prog_12_method_7_code 1 = .ok (.getfield 35, 3) := by decide +kernel
theorem d_prog_12_method_7_4 : decode prog_12_method_7_code 4 = .ok (.dreturn, 1) := by decide +kernel
theorem d_prog_17_method_6_0 : decode prog_17_method_6_code 0 = .ok (.dload_n 1, 1) := by decide +kernel
theorem d_prog_17_method_6_1 : decode prog_17_method_6_code 1 = .ok (.aload_n 0, 1) := by decide +kernel
theorem d_prog_17_method_6_2 : decode prog_17_method_6_code 2 = .ok (.getfield 32, 3) := by decide +kernel
theorem d_prog_17_method_6_5 : decode prog_17_method_6_code 5 = .ok (.invokevirtual 69, 3) := by decide +kernel
theorem d_prog_17_method_6_8 : decode prog_17_method_6_code 8 = .ok (.dmul, 1) := by decide +kernel
theorem d_prog_17_method_6_9 : decode prog_17_method_6_code 9 = .ok (.aload_n 0, 1) := by decide +kernel
theorem d_prog_17_method_6_10 : decode prog_17_method_6_code 10 = .ok (.getfield 36, 3) := by decide +kernel
theorem d_prog_17_method_6_13 : decode prog_17_method_6_code 13 = .ok (.invokevirtual 75, 3) := by decide +kernel
theorem d_prog_17_method_6_16 : decode prog_17_method_6_code 16 = .ok (.ddiv, 1) := by decide +kernel
theorem d_prog_17_method_6_17 : decode prog_17_method_6_code 17 = .ok (.dreturn, 1) := by decide +kernel
theorem d_prog_19_method_7_0 : decode prog_19_method_7_code 0 = .ok (.aload_n 0, 1) := by decide +kernel
theorem d_prog_19_method_7_1 : decode prog_19_method_7_code 1 = .ok (.getfield 32, 3) := by decide +kernel
theorem d_prog_19_method_7_4 : decode prog_19_method_7_code 4 = .ok (.dreturn, 1) := by decide +kernel
theorem wd0 {a0 : Array Value} {Z : State} (hw : ∀ d ∈ tables_1, d.before a0 Z = true) : Jvm.Cond.before (Jvm.Cond.constant "com/example/errand_queue/errandqueue/network/SpeedUnitToMetresPerSecondPinLaw" (7 : Nat) (2147483647 : Int32)) a0 Z = true := hw _ (List.mem_of_getElem? (i := 0) rfl)
theorem wd1 {a0 : Array Value} {Z : State} (hw : ∀ d ∈ tables_1, d.before a0 Z = true) : Jvm.Cond.before (Jvm.Cond.fieldLink "com/example/errand_queue/errandqueue/network/SpeedUnitToMetresPerSecondPinLaw" (10 : Nat) "com/example/errand_queue/errandqueue/network/SpeedUnit" "KILOMETRES_PER_HOUR" "Lcom/example/errand_queue/errandqueue/network/SpeedUnit;") a0 Z = true := hw _ (List.mem_of_getElem? (i := 1) rfl)
theorem wd2 {a0 : Array Value} {Z : State} (hw : ∀ d ∈ tables_1, d.before a0 Z = true) : Jvm.Cond.before (Jvm.Cond.initialized "com/example/errand_queue/errandqueue/network/SpeedUnit") a0 Z = true := hw _ (List.mem_of_getElem? (i := 2) rfl)
theorem wd3 {a0 : Array Value} {Z : State} (hw : ∀ d ∈ tables_1, d.before a0 Z = true) : Jvm.Cond.before (Jvm.Cond.laysStatic "com/example/errand_queue/errandqueue/network/SpeedUnit" "KILOMETRES_PER_HOUR" "Lcom/example/errand_queue/errandqueue/network/SpeedUnit;") a0 Z = true := hw _ (List.mem_of_getElem? (i := 3) rfl)
theorem wd4 {a0 : Array Value} {Z : State} (hw : ∀ d ∈ tables_1, d.before a0 Z = true) : Jvm.Cond.before (Jvm.Cond.methodLink "com/example/errand_queue/errandqueue/network/SpeedUnitToMetresPerSecondPinLaw" (22 : Nat) ({ cls := "com/example/errand_queue/errandqueue/network/SpeedUnit", name := "toMetresPerSecond", desc := "(D)D" } : Jvm.MethodName)) a0 Z = true := hw _ (List.mem_of_getElem? (i := 4) rfl)
theorem wd5 {a0 : Array Value} {Z : State} (hw : ∀ d ∈ tables_1, d.before a0 Z = true) : Jvm.Cond.before (Jvm.Cond.declares ({ cls := "com/example/errand_queue/errandqueue/network/SpeedUnit", name := "toMetresPerSecond", desc := "(D)D" } : Jvm.MethodName)) a0 Z = true := hw _ (List.mem_of_getElem? (i := 5) rfl)
theorem wd6 {a0 : Array Value} {Z : State} (hw : ∀ d ∈ tables_1, d.before a0 Z = true) : Jvm.Cond.before (Jvm.Cond.instanceMethod ({ cls := "com/example/errand_queue/errandqueue/network/SpeedUnit", name := "toMetresPerSecond", desc := "(D)D" } : Jvm.MethodName)) a0 Z = true := hw _ (List.mem_of_getElem? (i := 6) rfl)
theorem wd7 {a0 : Array Value} {Z : State} (hw : ∀ d ∈ tables_1, d.before a0 Z = true) : Jvm.Cond.before (Jvm.Cond.selects "com/example/errand_queue/errandqueue/network/SpeedUnit" ({ cls := "com/example/errand_queue/errandqueue/network/SpeedUnit", name := "toMetresPerSecond", desc := "(D)D" } : Jvm.MethodName) ({ cls := "com/example/errand_queue/errandqueue/network/SpeedUnit", name := "toMetresPerSecond", desc := "(D)D" } : Jvm.MethodName)) a0 Z = true := hw _ (List.mem_of_getElem? (i := 7) rfl)
theorem wd8 {a0 : Array Value} {Z : State} (hw : ∀ d ∈ tables_1, d.before a0 Z = true) : Jvm.Cond.before (Jvm.Cond.code ({ cls := "com/example/errand_queue/errandqueue/network/SpeedUnit", name := "toMetresPerSecond", desc := "(D)D" } : Jvm.MethodName) prog_17_method_6_code (3 : Nat) (Option.some Jvm.ClassFile.FieldType.double)) a0 Z = true := hw _ (List.mem_of_getElem? (i := 8) rfl)
theorem wd9 {a0 : Array Value} {Z : State} (hw : ∀ d ∈ tables_1, d.before a0 Z = true) : Jvm.Cond.before (Jvm.Cond.fieldLink "com/example/errand_queue/errandqueue/network/SpeedUnit" (32 : Nat) "com/example/errand_queue/errandqueue/network/SpeedUnit" "length" "Lcom/example/errand_queue/errandqueue/network/LengthUnit;") a0 Z = true := hw _ (List.mem_of_getElem? (i := 9) rfl)
theorem wd11 {a0 : Array Value} {Z : State} (hw : ∀ d ∈ tables_1, d.before a0 Z = true) : Jvm.Cond.before (Jvm.Cond.initialized "com/example/errand_queue/errandqueue/network/LengthUnit") a0 Z = true := hw _ (List.mem_of_getElem? (i := 11) rfl)
theorem wd12 {a0 : Array Value} {Z : State} (hw : ∀ d ∈ tables_1, d.before a0 Z = true) : Jvm.Cond.before (Jvm.Cond.laysStatic "com/example/errand_queue/errandqueue/network/LengthUnit" "KILOMETRE" "Lcom/example/errand_queue/errandqueue/network/LengthUnit;") a0 Z = true := hw _ (List.mem_of_getElem? (i := 12) rfl)
theorem wd13 {a0 : Array Value} {Z : State} (hw : ∀ d ∈ tables_1, d.before a0 Z = true) : Jvm.Cond.before (Jvm.Cond.methodLink "com/example/errand_queue/errandqueue/network/SpeedUnit" (69 : Nat) ({ cls := "com/example/errand_queue/errandqueue/network/LengthUnit", name := "metres", desc := "()D" } : Jvm.MethodName)) a0 Z = true := hw _ (List.mem_of_getElem? (i := 13) rfl)
theorem wd14 {a0 : Array Value} {Z : State} (hw : ∀ d ∈ tables_1, d.before a0 Z = true) : Jvm.Cond.before (Jvm.Cond.declares ({ cls := "com/example/errand_queue/errandqueue/network/LengthUnit", name := "metres", desc := "()D" } : Jvm.MethodName)) a0 Z = true := hw _ (List.mem_of_getElem? (i := 14) rfl)
theorem wd15 {a0 : Array Value} {Z : State} (hw : ∀ d ∈ tables_1, d.before a0 Z = true) : Jvm.Cond.before (Jvm.Cond.instanceMethod ({ cls := "com/example/errand_queue/errandqueue/network/LengthUnit", name := "metres", desc := "()D" } : Jvm.MethodName)) a0 Z = true := hw _ (List.mem_of_getElem? (i := 15) rfl)
theorem wd16 {a0 : Array Value} {Z : State} (hw : ∀ d ∈ tables_1, d.before a0 Z = true) : Jvm.Cond.before (Jvm.Cond.selects "com/example/errand_queue/errandqueue/network/LengthUnit" ({ cls := "com/example/errand_queue/errandqueue/network/LengthUnit", name := "metres", desc := "()D" } : Jvm.MethodName) ({ cls := "com/example/errand_queue/errandqueue/network/LengthUnit", name := "metres", desc := "()D" } : Jvm.MethodName)) a0 Z = true := hw _ (List.mem_of_getElem? (i := 16) rfl)
theorem wd17 {a0 : Array Value} {Z : State} (hw : ∀ d ∈ tables_1, d.before a0 Z = true) : Jvm.Cond.before (Jvm.Cond.code ({ cls := "com/example/errand_queue/errandqueue/network/LengthUnit", name := "metres", desc := "()D" } : Jvm.MethodName) prog_12_method_7_code (1 : Nat) (Option.some Jvm.ClassFile.FieldType.double)) a0 Z = true := hw _ (List.mem_of_getElem? (i := 17) rfl)
theorem wd18 {a0 : Array Value} {Z : State} (hw : ∀ d ∈ tables_1, d.before a0 Z = true) : Jvm.Cond.before (Jvm.Cond.fieldLink "com/example/errand_queue/errandqueue/network/LengthUnit" (35 : Nat) "com/example/errand_queue/errandqueue/network/LengthUnit" "metres" "D") a0 Z = true := hw _ (List.mem_of_getElem? (i := 18) rfl)
theorem wd20 {a0 : Array Value} {Z : State} (hw : ∀ d ∈ tables_1, d.before a0 Z = true) : Jvm.Cond.before (Jvm.Cond.fieldLink "com/example/errand_queue/errandqueue/network/SpeedUnit" (36 : Nat) "com/example/errand_queue/errandqueue/network/SpeedUnit" "time" "Lcom/example/errand_queue/errandqueue/network/TimeUnit;") a0 Z = true := hw _ (List.mem_of_getElem? (i := 20) rfl)
theorem wd22 {a0 : Array Value} {Z : State} (hw : ∀ d ∈ tables_1, d.before a0 Z = true) : Jvm.Cond.before (Jvm.Cond.initialized "com/example/errand_queue/errandqueue/network/TimeUnit") a0 Z = true := hw _ (List.mem_of_getElem? (i := 22) rfl)
theorem wd23 {a0 : Array Value} {Z : State} (hw : ∀ d ∈ tables_1, d.before a0 Z = true) : Jvm.Cond.before (Jvm.Cond.laysStatic "com/example/errand_queue/errandqueue/network/TimeUnit" "HOUR" "Lcom/example/errand_queue/errandqueue/network/TimeUnit;") a0 Z = true := hw _ (List.mem_of_getElem? (i := 23) rfl)
theorem wd24 {a0 : Array Value} {Z : State} (hw : ∀ d ∈ tables_1, d.before a0 Z = true) : Jvm.Cond.before (Jvm.Cond.methodLink "com/example/errand_queue/errandqueue/network/SpeedUnit" (75 : Nat) ({ cls := "com/example/errand_queue/errandqueue/network/TimeUnit", name := "seconds", desc := "()D" } : Jvm.MethodName)) a0 Z = true := hw _ (List.mem_of_getElem? (i := 24) rfl)
theorem wd25 {a0 : Array Value} {Z : State} (hw : ∀ d ∈ tables_1, d.before a0 Z = true) : Jvm.Cond.before (Jvm.Cond.declares ({ cls := "com/example/errand_queue/errandqueue/network/TimeUnit", name := "seconds", desc := "()D" } : Jvm.MethodName)) a0 Z = true := hw _ (List.mem_of_getElem? (i := 25) rfl)
theorem wd26 {a0 : Array Value} {Z : State} (hw : ∀ d ∈ tables_1, d.before a0 Z = true) : Jvm.Cond.before (Jvm.Cond.instanceMethod ({ cls := "com/example/errand_queue/errandqueue/network/TimeUnit", name := "seconds", desc := "()D" } : Jvm.MethodName)) a0 Z = true := hw _ (List.mem_of_getElem? (i := 26) rfl)
theorem wd27 {a0 : Array Value} {Z : State} (hw : ∀ d ∈ tables_1, d.before a0 Z = true) : Jvm.Cond.before (Jvm.Cond.selects "com/example/errand_queue/errandqueue/network/TimeUnit" ({ cls := "com/example/errand_queue/errandqueue/network/TimeUnit", name := "seconds", desc := "()D" } : Jvm.MethodName) ({ cls := "com/example/errand_queue/errandqueue/network/TimeUnit", name := "seconds", desc := "()D" } : Jvm.MethodName)) a0 Z = true := hw _ (List.mem_of_getElem? (i := 27) rfl)
theorem wd28 {a0 : Array Value} {Z : State} (hw : ∀ d ∈ tables_1, d.before a0 Z = true) : Jvm.Cond.before (Jvm.Cond.code ({ cls := "com/example/errand_queue/errandqueue/network/TimeUnit", name := "seconds", desc := "()D" } : Jvm.MethodName) prog_19_method_7_code (1 : Nat) (Option.some Jvm.ClassFile.FieldType.double)) a0 Z = true := hw _ (List.mem_of_getElem? (i := 28) rfl)
theorem wd29 {a0 : Array Value} {Z : State} (hw : ∀ d ∈ tables_1, d.before a0 Z = true) : Jvm.Cond.before (Jvm.Cond.fieldLink "com/example/errand_queue/errandqueue/network/TimeUnit" (32 : Nat) "com/example/errand_queue/errandqueue/network/TimeUnit" "seconds" "D") a0 Z = true := hw _ (List.mem_of_getElem? (i := 29) rfl)
theorem wd31 {a0 : Array Value} {Z : State} (hw : ∀ d ∈ tables_1, d.before a0 Z = true) : Jvm.Cond.before (Jvm.Cond.constantDouble "com/example/errand_queue/errandqueue/network/SpeedUnitToMetresPerSecondPinLaw" (28 : Nat) (4652007308841189376 : UInt64)) a0 Z = true := hw _ (List.mem_of_getElem? (i := 31) rfl)
theorem wd32 {a0 : Array Value} {Z : State} (hw : ∀ d ∈ tables_1, d.before a0 Z = true) : Jvm.Cond.before (Jvm.Cond.constantDouble "com/example/errand_queue/errandqueue/network/SpeedUnitToMetresPerSecondPinLaw" (30 : Nat) (4660134898793709568 : UInt64)) a0 Z = true := hw _ (List.mem_of_getElem? (i := 32) rfl)
theorem wd33 {a0 : Array Value} {Z : State} (hw : ∀ d ∈ tables_1, d.before a0 Z = true) : Jvm.Cond.before (Jvm.Cond.constantLong "com/example/errand_queue/errandqueue/network/SpeedUnitToMetresPerSecondPinLaw" (8 : Nat) (18 : Int64)) a0 Z = true := hw _ (List.mem_of_getElem? (i := 33) rfl)
theorem wd34 {a0 : Array Value} {Z : State} (hw : ∀ d ∈ tables_1, d.before a0 Z = true) : Jvm.Cond.before (Jvm.Cond.fieldLink "com/example/errand_queue/errandqueue/network/SpeedUnitToMetresPerSecondPinLaw" (16 : Nat) "com/example/errand_queue/errandqueue/network/SpeedUnit" "MILES_PER_HOUR" "Lcom/example/errand_queue/errandqueue/network/SpeedUnit;") a0 Z = true := hw _ (List.mem_of_getElem? (i := 34) rfl)
theorem wd35 {a0 : Array Value} {Z : State} (hw : ∀ d ∈ tables_1, d.before a0 Z = true) : Jvm.Cond.before (Jvm.Cond.laysStatic "com/example/errand_queue/errandqueue/network/SpeedUnit" "MILES_PER_HOUR" "Lcom/example/errand_queue/errandqueue/network/SpeedUnit;") a0 Z = true := hw _ (List.mem_of_getElem? (i := 35) rfl)
theorem wd36 {a0 : Array Value} {Z : State} (hw : ∀ d ∈ tables_1, d.before a0 Z = true) : Jvm.Cond.before (Jvm.Cond.laysStatic "com/example/errand_queue/errandqueue/network/LengthUnit" "MILE" "Lcom/example/errand_queue/errandqueue/network/LengthUnit;") a0 Z = true := hw _ (List.mem_of_getElem? (i := 36) rfl)
theorem wd37 {a0 : Array Value} {Z : State} (hw : ∀ d ∈ tables_1, d.before a0 Z = true) : Jvm.Cond.before (Jvm.Cond.constantDouble "com/example/errand_queue/errandqueue/network/SpeedUnitToMetresPerSecondPinLaw" (32 : Nat) (4654792785210718028 : UInt64)) a0 Z = true := hw _ (List.mem_of_getElem? (i := 37) rfl)
theorem wd38 {a0 : Array Value} {Z : State} (hw : ∀ d ∈ tables_1, d.before a0 Z = true) : Jvm.Cond.before (Jvm.Cond.fieldLink "com/example/errand_queue/errandqueue/network/SpeedUnitToMetresPerSecondPinLaw" (19 : Nat) "com/example/errand_queue/errandqueue/network/SpeedUnit" "METRES_PER_SECOND" "Lcom/example/errand_queue/errandqueue/network/SpeedUnit;") a0 Z = true := hw _ (List.mem_of_getElem? (i := 38) rfl)
theorem wd39 {a0 : Array Value} {Z : State} (hw : ∀ d ∈ tables_1, d.before a0 Z = true) : Jvm.Cond.before (Jvm.Cond.laysStatic "com/example/errand_queue/errandqueue/network/SpeedUnit" "METRES_PER_SECOND" "Lcom/example/errand_queue/errandqueue/network/SpeedUnit;") a0 Z = true := hw _ (List.mem_of_getElem? (i := 39) rfl)
theorem wd40 {a0 : Array Value} {Z : State} (hw : ∀ d ∈ tables_1, d.before a0 Z = true) : Jvm.Cond.before (Jvm.Cond.laysStatic "com/example/errand_queue/errandqueue/network/LengthUnit" "METRE" "Lcom/example/errand_queue/errandqueue/network/LengthUnit;") a0 Z = true := hw _ (List.mem_of_getElem? (i := 40) rfl)
theorem wd41 {a0 : Array Value} {Z : State} (hw : ∀ d ∈ tables_1, d.before a0 Z = true) : Jvm.Cond.before (Jvm.Cond.laysStatic "com/example/errand_queue/errandqueue/network/TimeUnit" "SECOND" "Lcom/example/errand_queue/errandqueue/network/TimeUnit;") a0 Z = true := hw _ (List.mem_of_getElem? (i := 41) rfl)
theorem wd42 {a0 : Array Value} {Z : State} (hw : ∀ d ∈ tables_1, d.before a0 Z = true) : Jvm.Cond.before (Jvm.Cond.constantLong "com/example/errand_queue/errandqueue/network/SpeedUnitToMetresPerSecondPinLaw" (26 : Nat) (5 : Int64)) a0 Z = true := hw _ (List.mem_of_getElem? (i := 42) rfl)
theorem pd0 : parseMethodDescriptor "()D" = some ⟨[], some .double⟩ := by decide +kernel
theorem pd1 : parseMethodDescriptor "(D)D" = some ⟨[.double], some .double⟩ := by decide +kernel
theorem pn0 : plainName "com/example/errand_queue/errandqueue/network/LengthUnit" = true := by first | (simp [plainName, overriddenIn]; done) | decide +kernel
theorem pn1 : plainName "com/example/errand_queue/errandqueue/network/TimeUnit" = true := by first | (simp [plainName, overriddenIn]; done) | decide +kernel
theorem pn2 : plainName "com/example/errand_queue/errandqueue/network/SpeedUnit" = true := by first | (simp [plainName, overriddenIn]; done) | decide +kernel
theorem pn3 : plainName "com/example/errand_queue/errandqueue/network/SpeedUnitToMetresPerSecondPinLaw" = true := by first | (simp [plainName, overriddenIn]; done) | decide +kernel
set_option maxRecDepth 65536 in
set_option maxHeartbeats 40000000 in
theorem c_metres (l : Launch) (Z : State) (a0 : Array Value) (hw : ∀ d ∈ tables_1, d.before a0 Z = true) (ws : List Jvm.Cond) (a1 : Addr) (z : UInt64) (h0 : Heap) (n0 : Nat) (Z0 : n0 ≤ h0.size) (F : Fld Z h0 a1 "com/example/errand_queue/errandqueue/network/LengthUnit" "metres" "D" (.double z)) :
    Ctr l Z (⟨"com/example/errand_queue/errandqueue/network/LengthUnit", "metres", "()D"⟩ : MethodName) prog_12_method_7_code 1 (some .double) ws ({ frames := 0, cells := 0, slots := 0, locals := 0 } : Room) n0 #[(.ref a1)] h0 (fun v h => v = some (.double z) ∧ h0 = h) := by
  refine ctr (own := "com/example/errand_queue/errandqueue/network/LengthUnit") (nm := "metres") rfl rfl (Ls := #[.val (.ref a1)]) (plainFor_of_name pn0) (fun m => by first | (simp [entryFrame, mkF, argsToLocals, Value.category]; done) | rfl) ?_
  intro p e s m below meth c K eh
  refine aloadN K d_prog_12_method_7_0 rfl rfl (pc' := 1) rfl ?_
  refine getf K (wd18 hw) Via.refl F d_prog_12_method_7_1 (pc' := 4) rfl ?_
  refine retD K rfl d_prog_12_method_7_4 (Nat.le_of_ble_eq_true rfl) (Nat.le_of_ble_eq_true rfl) ?_
  exact ⟨rfl, rfl⟩
set_option maxRecDepth 65536 in
set_option maxHeartbeats 40000000 in
theorem c_seconds (l : Launch) (Z : State) (a0 : Array Value) (hw : ∀ d ∈ tables_1, d.before a0 Z = true) (ws : List Jvm.Cond) (a1 : Addr) (z : UInt64) (h0 : Heap) (n0 : Nat) (Z0 : n0 ≤ h0.size) (F : Fld Z h0 a1 "com/example/errand_queue/errandqueue/network/TimeUnit" "seconds" "D" (.double z)) :
    Ctr l Z (⟨"com/example/errand_queue/errandqueue/network/TimeUnit", "seconds", "()D"⟩ : MethodName) prog_19_method_7_code 1 (some .double) ws ({ frames := 0, cells := 0, slots := 0, locals := 0 } : Room) n0 #[(.ref a1)] h0 (fun v h => v = some (.double z) ∧ h0 = h) := by
  refine ctr (own := "com/example/errand_queue/errandqueue/network/TimeUnit") (nm := "seconds") rfl rfl (Ls := #[.val (.ref a1)]) (plainFor_of_name pn1) (fun m => by first | (simp [entryFrame, mkF, argsToLocals, Value.category]; done) | rfl) ?_
  intro p e s m below meth c K eh
  refine aloadN K d_prog_19_method_7_0 rfl rfl (pc' := 1) rfl ?_
  refine getf K (wd29 hw) Via.refl F d_prog_19_method_7_1 (pc' := 4) rfl ?_
  refine retD K rfl d_prog_19_method_7_4 (Nat.le_of_ble_eq_true rfl) (Nat.le_of_ble_eq_true rfl) ?_
  exact ⟨rfl, rfl⟩
set_option maxRecDepth 65536 in
set_option maxHeartbeats 40000000 in
theorem c_tomps (l : Launch) (Z : State) (a0 : Array Value) (hw : ∀ d ∈ tables_1, d.before a0 Z = true) (ws : List Jvm.Cond) (a1 aL aT : Addr) (x m0 s0 : UInt64) (h0 : Heap) (n0 : Nat) (Z0 : n0 ≤ h0.size) (F1 : Fld Z h0 a1 "com/example/errand_queue/errandqueue/network/SpeedUnit" "length" "Lcom/example/errand_queue/errandqueue/network/LengthUnit;" (.ref aL)) (F2 : Fld Z h0 a1 "com/example/errand_queue/errandqueue/network/SpeedUnit" "time" "Lcom/example/errand_queue/errandqueue/network/TimeUnit;" (.ref aT)) (F3 : Fld Z h0 aL "com/example/errand_queue/errandqueue/network/LengthUnit" "metres" "D" (.double m0)) (F4 : Fld Z h0 aT "com/example/errand_queue/errandqueue/network/TimeUnit" "seconds" "D" (.double s0)) (E1 : Exa Z h0 aL "com/example/errand_queue/errandqueue/network/LengthUnit") (E2 : Exa Z h0 aT "com/example/errand_queue/errandqueue/network/TimeUnit") (n1 : Jvm.Free.Fl.NoNaN64 (FP.dmul x m0)) (n2 : Jvm.Free.Fl.NoNaN64 (FP.ddiv (FP.dmul x m0) s0)) :
    Ctr l Z (⟨"com/example/errand_queue/errandqueue/network/SpeedUnit", "toMetresPerSecond", "(D)D"⟩ : MethodName) prog_17_method_6_code 3 (some .double) ws ({ frames := 1, cells := 0, slots := 0, locals := 14 } : Room) n0 #[(.ref a1), (.double x)] h0 (fun v h => v = some (.double (FP.ddiv (FP.dmul x m0) s0)) ∧ h0 = h) := by
  refine ctr (own := "com/example/errand_queue/errandqueue/network/SpeedUnit") (nm := "toMetresPerSecond") rfl rfl (Ls := #[.val (.ref a1), .val (.double x), .second]) (plainFor_of_name pn2) (fun m => by first | (simp [entryFrame, mkF, argsToLocals, Value.category]; done) | rfl) ?_
  intro p e s m below meth c K eh
  refine dloadN K d_prog_17_method_6_0 rfl (pc' := 1) rfl ?_
  refine aloadN K d_prog_17_method_6_1 rfl rfl (pc' := 2) rfl ?_
  refine getf K (wd9 hw) Via.refl F1 d_prog_17_method_6_2 (pc' := 5) rfl ?_
  refine callVirt K (y := (⟨"com/example/errand_queue/errandqueue/network/LengthUnit", "metres", "()D"⟩ : MethodName)) (b := aL) (argsL := []) (S := [(.double x)]) (wd13 hw) (wd14 hw) (wd16 hw) (wd15 hw) (wd11 hw) (wd17 hw) (by decide) E1 (c_metres l Z a0 hw [] aL m0 h0 n0 Z0 F3) (lenOf pd0 rfl) d_prog_17_method_6_5 rfl (Nat.le_of_ble_eq_true rfl) (Nat.le_of_ble_eq_true rfl) (Nat.le_of_ble_eq_true rfl) (Nat.le_of_ble_eq_true rfl) rfl (pc' := 8) rfl ?_
  rintro v1 h1 ⟨rfl, rfl⟩
  show Go _ _ _ _ _ _ _ _ _ _ _ h0 0 0 (mkF m 8 #[.val (.ref a1), .val (.double x), .second] [(.double m0), (.double x)]) _
  refine dmul K d_prog_17_method_6_8 n1 (pc' := 9) rfl ?_
  refine aloadN K d_prog_17_method_6_9 rfl rfl (pc' := 10) rfl ?_
  refine getf K (wd20 hw) Via.refl F2 d_prog_17_method_6_10 (pc' := 13) rfl ?_
  refine callVirt K (y := (⟨"com/example/errand_queue/errandqueue/network/TimeUnit", "seconds", "()D"⟩ : MethodName)) (b := aT) (argsL := []) (S := [(.double (FP.dmul x m0))]) (wd24 hw) (wd25 hw) (wd27 hw) (wd26 hw) (wd22 hw) (wd28 hw) (by decide) E2 (c_seconds l Z a0 hw [] aT s0 h0 n0 Z0 F4) (lenOf pd0 rfl) d_prog_17_method_6_13 rfl (Nat.le_of_ble_eq_true rfl) (Nat.le_of_ble_eq_true rfl) (Nat.le_of_ble_eq_true rfl) (Nat.le_of_ble_eq_true rfl) rfl (pc' := 16) rfl ?_
  rintro v2 h2 ⟨rfl, rfl⟩
  show Go _ _ _ _ _ _ _ _ _ _ _ h0 0 0 (mkF m 16 #[.val (.ref a1), .val (.double x), .second] [(.double s0), (.double (FP.dmul x m0))]) _
  refine ddiv K d_prog_17_method_6_16 n2 (pc' := 17) rfl ?_
  refine retD K rfl d_prog_17_method_6_17 (Nat.le_of_ble_eq_true rfl) (Nat.le_of_ble_eq_true rfl) ?_
  exact ⟨rfl, rfl⟩
theorem own_fin {q : UInt64} (h : decide (Jvm.Free.Fl.Fin64 q) = true) : Jvm.Free.Fl.Fin64 q := of_decide_eq_true h
theorem own_18 (v : Int32) : (18 * v.toInt64).toInt = 18 * v.toInt ∧ (5 * v.toInt64).toInt = 5 * v.toInt := by
  have h1 := v.le_toInt; have h2 := v.toInt_lt
  constructor
  · rw [Int64.toInt_mul, c_i2l]; exact Int.bmod_eq_of_le (by simp; omega) (by simp; omega)
  · rw [Int64.toInt_mul, c_i2l]; exact Int.bmod_eq_of_le (by simp; omega) (by simp; omega)
theorem own_k1000 : Jvm.FP.Core.DInt 1000 4652007308841189376 := by
  show Jvm.FP.Core.DInt (1000 : Int32).toInt _
  rw [show (4652007308841189376 : UInt64) = Jvm.FP.Core.i2d 1000 by decide +kernel]; exact Jvm.FP.Core.i2d_int 1000
theorem own_k3600 : Jvm.FP.Core.DInt 3600 4660134898793709568 := by
  show Jvm.FP.Core.DInt (3600 : Int32).toInt _
  rw [show (4660134898793709568 : UInt64) = Jvm.FP.Core.i2d 3600 by decide +kernel]; exact Jvm.FP.Core.i2d_int 3600
/-- 18 v km/h are 5 v m/s, exactly -/
theorem own_exact (v : Int32) : FP.dcmp (FP.ddiv (FP.dmul (FP.l2d (18 * v.toInt64)) 4652007308841189376) 4660134898793709568) (FP.l2d (5 * v.toInt64)) = some .eq := by
  obtain ⟨e1, e2⟩ := own_18 v
  have h1 := v.le_toInt; have h2 := v.toInt_lt
  have a1 := Jvm.FP.Core.l2d_int (a := 18 * v.toInt64) (by rw [e1]; omega)
  have a2 := Jvm.FP.Core.l2d_int (a := 5 * v.toInt64) (by rw [e2]; omega)
  rw [e1] at a1; rw [e2] at a2
  have a3 := Jvm.FP.Core.dmul_int a1 own_k1000 (by omega)
  have a4 := Jvm.OwnFl.ddiv_int a3 own_k3600 (by decide) (k := 5 * v.toInt) (by omega) (by omega)
  have a5 := Jvm.FP.Core.dcmp_int a4 a2
  rw [Jvm.FP.Core.compare_self_int] at a5
  exact a5
theorem own_nn {x m s : UInt64} (hx : Jvm.Free.Fl.Fin64 x) (hm : Jvm.Free.Fl.Fin64 m) (hs : Jvm.Free.Fl.Fin64 s) (hz : Jvm.Free.Fl.Nz64 s) : Jvm.Free.Fl.NoNaN64 (FP.dmul x m) ∧ Jvm.Free.Fl.NoNaN64 (FP.ddiv (FP.dmul x m) s) :=
  have h := Jvm.Free.Fl.dmul_out hx hm
  ⟨h, Jvm.Free.Fl.ddiv_out h hs hz⟩
theorem own_ones {x : UInt64} (h : Jvm.Free.Fl.NoNaN64 x) : FP.ddiv (FP.dmul x 4607182418800017408) 4607182418800017408 = x := by
  have hx := Jvm.Free.Fl.val64_no.mp h
  have e1 : FP.dmul x 4607182418800017408 = x := Jvm.FP.Core.dmul_one hx
  rw [e1]; exact Jvm.FP.Core.ddiv_one hx
set_option maxRecDepth 65536 in
set_option maxHeartbeats 40000000 in
theorem c_law (l : Launch) (Z : State) (a0 : Array Value) (hw : ∀ d ∈ tables_1, d.before a0 Z = true) (ws : List Jvm.Cond) (p0 p1 p2 : Int32) (uk umi ums ulk ulm ule uth uts : Addr) (h0 : Heap) (n0 : Nat) (Z0 : n0 ≤ h0.size) (O0 : Old Z n0 h0) (S_k : Sta Z Z.heap "com/example/errand_queue/errandqueue/network/SpeedUnit" "KILOMETRES_PER_HOUR" "Lcom/example/errand_queue/errandqueue/network/SpeedUnit;" (.ref uk)) (E_k : Exa Z h0 uk "com/example/errand_queue/errandqueue/network/SpeedUnit") (k_0 : Fld Z h0 uk "com/example/errand_queue/errandqueue/network/SpeedUnit" "length" "Lcom/example/errand_queue/errandqueue/network/LengthUnit;" (.ref ulk)) (k_1 : Fld Z h0 uk "com/example/errand_queue/errandqueue/network/SpeedUnit" "time" "Lcom/example/errand_queue/errandqueue/network/TimeUnit;" (.ref uth)) (k_2 : Fld Z h0 ulk "com/example/errand_queue/errandqueue/network/LengthUnit" "metres" "D" (.double 4652007308841189376)) (k_3 : Fld Z h0 uth "com/example/errand_queue/errandqueue/network/TimeUnit" "seconds" "D" (.double 4660134898793709568)) (k_4 : Exa Z h0 ulk "com/example/errand_queue/errandqueue/network/LengthUnit") (k_5 : Exa Z h0 uth "com/example/errand_queue/errandqueue/network/TimeUnit") (S_mi : Sta Z Z.heap "com/example/errand_queue/errandqueue/network/SpeedUnit" "MILES_PER_HOUR" "Lcom/example/errand_queue/errandqueue/network/SpeedUnit;" (.ref umi)) (E_mi : Exa Z h0 umi "com/example/errand_queue/errandqueue/network/SpeedUnit") (mi_0 : Fld Z h0 umi "com/example/errand_queue/errandqueue/network/SpeedUnit" "length" "Lcom/example/errand_queue/errandqueue/network/LengthUnit;" (.ref ulm)) (mi_1 : Fld Z h0 umi "com/example/errand_queue/errandqueue/network/SpeedUnit" "time" "Lcom/example/errand_queue/errandqueue/network/TimeUnit;" (.ref uth)) (mi_2 : Fld Z h0 ulm "com/example/errand_queue/errandqueue/network/LengthUnit" "metres" "D" (.double 4654792785210718028)) (mi_3 : Fld Z h0 uth "com/example/errand_queue/errandqueue/network/TimeUnit" "seconds" "D" (.double 4660134898793709568)) (mi_4 : Exa Z h0 ulm "com/example/errand_queue/errandqueue/network/LengthUnit") (mi_5 : Exa Z h0 uth "com/example/errand_queue/errandqueue/network/TimeUnit") (S_ms : Sta Z Z.heap "com/example/errand_queue/errandqueue/network/SpeedUnit" "METRES_PER_SECOND" "Lcom/example/errand_queue/errandqueue/network/SpeedUnit;" (.ref ums)) (E_ms : Exa Z h0 ums "com/example/errand_queue/errandqueue/network/SpeedUnit") (ms_0 : Fld Z h0 ums "com/example/errand_queue/errandqueue/network/SpeedUnit" "length" "Lcom/example/errand_queue/errandqueue/network/LengthUnit;" (.ref ule)) (ms_1 : Fld Z h0 ums "com/example/errand_queue/errandqueue/network/SpeedUnit" "time" "Lcom/example/errand_queue/errandqueue/network/TimeUnit;" (.ref uts)) (ms_2 : Fld Z h0 ule "com/example/errand_queue/errandqueue/network/LengthUnit" "metres" "D" (.double 4607182418800017408)) (ms_3 : Fld Z h0 uts "com/example/errand_queue/errandqueue/network/TimeUnit" "seconds" "D" (.double 4607182418800017408)) (ms_4 : Exa Z h0 ule "com/example/errand_queue/errandqueue/network/LengthUnit") (ms_5 : Exa Z h0 uts "com/example/errand_queue/errandqueue/network/TimeUnit") :
    Ctr l Z x code maxLocals ret ws room_1 n0 #[(.int p0), (.int p1), (.int p2)] h0 (fun v h => v = some (.int 1)) := by
  refine ctr (own := "com/example/errand_queue/errandqueue/network/SpeedUnitToMetresPerSecondPinLaw") (nm := "law") rfl rfl (Ls := #[.val (.int p0), .val (.int p1), .val (.int p2), .unset, .unset, .unset, .unset, .unset, .unset, .unset]) (plainFor_of_name pn3) (fun m => by first | (simp [entryFrame, mkF, argsToLocals, Value.category, maxLocals]; done) | rfl) ?_
  intro p e s m below meth c K eh
  refine iloadN K at_0 rfl (pc' := 1) rfl ?_
  refine ldcI K (wd0 hw) at_1 (pc' := 3) rfl ?_
  refine iand K at_3 (pc' := 4) rfl ?_
  refine iconst K (3 : Int32) at_4 (by decide) (pc' := 5) rfl ?_
  refine irem K at_5 (by decide) (pc' := 6) rfl ?_
  generalize ((p0 &&& (2147483647 : Int32)) % (3 : Int32)) = U
  refine istoreN K at_6 (Ls' := #[.val (.int p0), .val (.int p1), .val (.int p2), .val (.int U), .unset, .unset, .unset, .unset, .unset, .unset]) rfl (pc' := 7) rfl ?_
  refine iloadN K at_7 rfl (pc' := 8) rfl ?_
  refine iconst K (1 : Int32) at_8 (by decide) (pc' := 9) rfl ?_
  refine iand K at_9 (pc' := 10) rfl ?_
  by_cases c1 : (p2 &&& (1 : Int32)) = 0
  · refine ifY K at_10 (XT.i0_eq_t c1) (pc' := 17) (by decide) (by decide) ?_
    refine iconst K (0 : Int32) at_17 (by decide) (pc' := 18) rfl ?_
    refine istore K at_18 (Ls' := #[.val (.int p0), .val (.int p1), .val (.int p2), .val (.int U), .val (.int (0 : Int32)), .unset, .unset, .unset, .unset, .unset]) rfl (pc' := 20) rfl ?_
    refine iload K at_20 rfl (pc' := 22) rfl ?_
    refine ifY K at_22 (by decide) (pc' := 35) (by decide) (by decide) ?_
    refine iloadN K at_35 rfl (pc' := 36) rfl ?_
    refine i2d K at_36 (pc' := 37) rfl ?_
    refine dstore K at_37 (Ls' := #[.val (.int p0), .val (.int p1), .val (.int p2), .val (.int U), .val (.int (0 : Int32)), .val (.double (FP.i2d p1)), .second, .unset, .unset, .unset]) rfl (pc' := 39) rfl ?_
    refine iloadN K at_39 rfl (pc' := 40) rfl ?_
    by_cases c2 : U = 0
    · refine ifN K at_40 (XT.i0_ne_f c2) (pc' := 43) rfl ?_
      refine gets K (wd1 hw) Via.refl (Sta.ext O0.2 S_k) at_43 (pc' := 46) rfl ?_
      refine astore K at_46 rfl (Ls' := #[.val (.int p0), .val (.int p1), .val (.int p2), .val (.int U), .val (.int (0 : Int32)), .val (.double (FP.i2d p1)), .second, .val (.ref uk), .unset, .unset]) rfl (pc' := 48) rfl ?_
      refine goto' K at_48 (pc' := 69) (by decide) (by decide) ?_
      refine aload K at_69 rfl rfl (pc' := 71) rfl ?_
      refine dload K at_71 rfl (pc' := 73) rfl ?_
      obtain ⟨nn1, nn2⟩ := own_nn (x := (FP.i2d p1)) (m := 4652007308841189376) (s := 4660134898793709568) (Jvm.Free.Fl.i2d_fin _) (by unfold Jvm.Free.Fl.Fin64; decide) (by unfold Jvm.Free.Fl.Fin64; decide) (by unfold Jvm.Free.Fl.Nz64; decide)
      refine callVirt K (y := (⟨"com/example/errand_queue/errandqueue/network/SpeedUnit", "toMetresPerSecond", "(D)D"⟩ : MethodName)) (b := uk) (argsL := [(.double (FP.i2d p1))]) (S := []) (wd4 hw) (wd5 hw) (wd7 hw) (wd6 hw) (wd2 hw) (wd8 hw) (by decide) E_k (c_tomps l Z a0 hw [] uk ulk uth (FP.i2d p1) 4652007308841189376 4660134898793709568 h0 n0 Z0 k_0 k_1 k_2 k_3 k_4 k_5 nn1 nn2) (lenOf pd1 rfl) at_73 rfl (Nat.le_of_ble_eq_true rfl) (Nat.le_of_ble_eq_true rfl) (Nat.le_of_ble_eq_true rfl) (Nat.le_of_ble_eq_true rfl) rfl (pc' := 76) rfl ?_
      rintro v3 h3 ⟨rfl, rfl⟩
      show Go _ _ _ _ _ _ _ _ _ _ _ h0 0 0 (mkF m 76 #[.val (.int p0), .val (.int p1), .val (.int p2), .val (.int U), .val (.int (0 : Int32)), .val (.double (FP.i2d p1)), .second, .val (.ref uk), .unset, .unset] [(.double (FP.ddiv (FP.dmul (FP.i2d p1) 4652007308841189376) 4660134898793709568))]) _
      refine dstore K at_76 (Ls' := #[.val (.int p0), .val (.int p1), .val (.int p2), .val (.int U), .val (.int (0 : Int32)), .val (.double (FP.i2d p1)), .second, .val (.ref uk), .val (.double (FP.ddiv (FP.dmul (FP.i2d p1) 4652007308841189376) 4660134898793709568)), .second]) rfl (pc' := 78) rfl ?_
      refine iloadN K at_78 rfl (pc' := 79) rfl ?_
      refine ifN K at_79 (XT.i0_ne_f c2) (pc' := 82) rfl ?_
      refine iload K at_82 rfl (pc' := 84) rfl ?_
      refine ifY K at_84 (by decide) (pc' := 106) (by decide) (by decide) ?_
      refine dload K at_106 rfl (pc' := 108) rfl ?_
      refine dload K at_108 rfl (pc' := 110) rfl ?_
      refine ldc2D K (wd31 hw) at_110 (pc' := 113) rfl ?_
      refine dmul K at_113 nn1 (pc' := 114) rfl ?_
      refine ldc2D K (wd32 hw) at_114 (pc' := 117) rfl ?_
      refine ddiv K at_117 nn2 (pc' := 118) rfl ?_
      refine dcmp K at_118 (pc' := 119) rfl ?_
      refine ifN K at_119 (by rw [dcmpV_self nn2]; rfl) (pc' := 122) rfl ?_
      refine iconst K (1 : Int32) at_122 (by decide) (pc' := 123) rfl ?_
      refine goto' K at_123 (pc' := 127) (by decide) (by decide) ?_
      refine retB K (t := .boolean) rfl (by simp) at_127 (Nat.le_of_ble_eq_true rfl) (Nat.le_of_ble_eq_true rfl) ?_
      rfl
    · refine ifY K at_40 (XT.i0_ne_t c2) (pc' := 51) (by decide) (by decide) ?_
      refine iloadN K at_51 rfl (pc' := 52) rfl ?_
      refine iconst K (1 : Int32) at_52 (by decide) (pc' := 53) rfl ?_
      by_cases c3 : U = (1 : Int32)
      · refine icN K at_53 (XT.ii_ne_f c3) (pc' := 56) rfl ?_
        refine gets K (wd34 hw) Via.refl (Sta.ext O0.2 S_mi) at_56 (pc' := 59) rfl ?_
        refine astore K at_59 rfl (Ls' := #[.val (.int p0), .val (.int p1), .val (.int p2), .val (.int U), .val (.int (0 : Int32)), .val (.double (FP.i2d p1)), .second, .val (.ref umi), .unset, .unset]) rfl (pc' := 61) rfl ?_
        refine goto' K at_61 (pc' := 69) (by decide) (by decide) ?_
        refine aload K at_69 rfl rfl (pc' := 71) rfl ?_
        refine dload K at_71 rfl (pc' := 73) rfl ?_
        obtain ⟨nn1, nn2⟩ := own_nn (x := (FP.i2d p1)) (m := 4654792785210718028) (s := 4660134898793709568) (Jvm.Free.Fl.i2d_fin _) (by unfold Jvm.Free.Fl.Fin64; decide) (by unfold Jvm.Free.Fl.Fin64; decide) (by unfold Jvm.Free.Fl.Nz64; decide)
        refine callVirt K (y := (⟨"com/example/errand_queue/errandqueue/network/SpeedUnit", "toMetresPerSecond", "(D)D"⟩ : MethodName)) (b := umi) (argsL := [(.double (FP.i2d p1))]) (S := []) (wd4 hw) (wd5 hw) (wd7 hw) (wd6 hw) (wd2 hw) (wd8 hw) (by decide) E_mi (c_tomps l Z a0 hw [] umi ulm uth (FP.i2d p1) 4654792785210718028 4660134898793709568 h0 n0 Z0 mi_0 mi_1 mi_2 mi_3 mi_4 mi_5 nn1 nn2) (lenOf pd1 rfl) at_73 rfl (Nat.le_of_ble_eq_true rfl) (Nat.le_of_ble_eq_true rfl) (Nat.le_of_ble_eq_true rfl) (Nat.le_of_ble_eq_true rfl) rfl (pc' := 76) rfl ?_
        rintro v4 h4 ⟨rfl, rfl⟩
        show Go _ _ _ _ _ _ _ _ _ _ _ h0 0 0 (mkF m 76 #[.val (.int p0), .val (.int p1), .val (.int p2), .val (.int U), .val (.int (0 : Int32)), .val (.double (FP.i2d p1)), .second, .val (.ref umi), .unset, .unset] [(.double (FP.ddiv (FP.dmul (FP.i2d p1) 4654792785210718028) 4660134898793709568))]) _
        refine dstore K at_76 (Ls' := #[.val (.int p0), .val (.int p1), .val (.int p2), .val (.int U), .val (.int (0 : Int32)), .val (.double (FP.i2d p1)), .second, .val (.ref umi), .val (.double (FP.ddiv (FP.dmul (FP.i2d p1) 4654792785210718028) 4660134898793709568)), .second]) rfl (pc' := 78) rfl ?_
        refine iloadN K at_78 rfl (pc' := 79) rfl ?_
        refine ifY K at_79 (XT.i0_ne_t c2) (pc' := 128) (by decide) (by decide) ?_
        refine iloadN K at_128 rfl (pc' := 129) rfl ?_
        refine iconst K (1 : Int32) at_129 (by decide) (pc' := 130) rfl ?_
        refine icN K at_130 (XT.ii_ne_f c3) (pc' := 133) rfl ?_
        refine dload K at_133 rfl (pc' := 135) rfl ?_
        refine dload K at_135 rfl (pc' := 137) rfl ?_
        refine ldc2D K (wd37 hw) at_137 (pc' := 140) rfl ?_
        refine dmul K at_140 nn1 (pc' := 141) rfl ?_
        refine ldc2D K (wd32 hw) at_141 (pc' := 144) rfl ?_
        refine ddiv K at_144 nn2 (pc' := 145) rfl ?_
        refine dcmp K at_145 (pc' := 146) rfl ?_
        refine ifN K at_146 (by rw [dcmpV_self nn2]; rfl) (pc' := 149) rfl ?_
        refine iconst K (1 : Int32) at_149 (by decide) (pc' := 150) rfl ?_
        refine goto' K at_150 (pc' := 154) (by decide) (by decide) ?_
        refine retB K (t := .boolean) rfl (by simp) at_154 (Nat.le_of_ble_eq_true rfl) (Nat.le_of_ble_eq_true rfl) ?_
        rfl
      · refine icY K at_53 (XT.ii_ne_t c3) (pc' := 64) (by decide) (by decide) ?_
        refine gets K (wd38 hw) Via.refl (Sta.ext O0.2 S_ms) at_64 (pc' := 67) rfl ?_
        refine astore K at_67 rfl (Ls' := #[.val (.int p0), .val (.int p1), .val (.int p2), .val (.int U), .val (.int (0 : Int32)), .val (.double (FP.i2d p1)), .second, .val (.ref ums), .unset, .unset]) rfl (pc' := 69) rfl ?_
        refine aload K at_69 rfl rfl (pc' := 71) rfl ?_
        refine dload K at_71 rfl (pc' := 73) rfl ?_
        obtain ⟨nn1, nn2⟩ := own_nn (x := (FP.i2d p1)) (m := 4607182418800017408) (s := 4607182418800017408) (Jvm.Free.Fl.i2d_fin _) (by unfold Jvm.Free.Fl.Fin64; decide) (by unfold Jvm.Free.Fl.Fin64; decide) (by unfold Jvm.Free.Fl.Nz64; decide)
        refine callVirt K (y := (⟨"com/example/errand_queue/errandqueue/network/SpeedUnit", "toMetresPerSecond", "(D)D"⟩ : MethodName)) (b := ums) (argsL := [(.double (FP.i2d p1))]) (S := []) (wd4 hw) (wd5 hw) (wd7 hw) (wd6 hw) (wd2 hw) (wd8 hw) (by decide) E_ms (c_tomps l Z a0 hw [] ums ule uts (FP.i2d p1) 4607182418800017408 4607182418800017408 h0 n0 Z0 ms_0 ms_1 ms_2 ms_3 ms_4 ms_5 nn1 nn2) (lenOf pd1 rfl) at_73 rfl (Nat.le_of_ble_eq_true rfl) (Nat.le_of_ble_eq_true rfl) (Nat.le_of_ble_eq_true rfl) (Nat.le_of_ble_eq_true rfl) rfl (pc' := 76) rfl ?_
        rintro v5 h5 ⟨rfl, rfl⟩
        show Go _ _ _ _ _ _ _ _ _ _ _ h0 0 0 (mkF m 76 #[.val (.int p0), .val (.int p1), .val (.int p2), .val (.int U), .val (.int (0 : Int32)), .val (.double (FP.i2d p1)), .second, .val (.ref ums), .unset, .unset] [(.double (FP.ddiv (FP.dmul (FP.i2d p1) 4607182418800017408) 4607182418800017408))]) _
        refine dstore K at_76 (Ls' := #[.val (.int p0), .val (.int p1), .val (.int p2), .val (.int U), .val (.int (0 : Int32)), .val (.double (FP.i2d p1)), .second, .val (.ref ums), .val (.double (FP.ddiv (FP.dmul (FP.i2d p1) 4607182418800017408) 4607182418800017408)), .second]) rfl (pc' := 78) rfl ?_
        refine iloadN K at_78 rfl (pc' := 79) rfl ?_
        refine ifY K at_79 (XT.i0_ne_t c2) (pc' := 128) (by decide) (by decide) ?_
        refine iloadN K at_128 rfl (pc' := 129) rfl ?_
        refine iconst K (1 : Int32) at_129 (by decide) (pc' := 130) rfl ?_
        refine icY K at_130 (XT.ii_ne_t c3) (pc' := 155) (by decide) (by decide) ?_
        refine dload K at_155 rfl (pc' := 157) rfl ?_
        refine dload K at_157 rfl (pc' := 159) rfl ?_
        refine dcmp K at_159 (pc' := 160) rfl ?_
        refine ifN K at_160 (by rw [own_ones (x := (FP.i2d p1)) (Jvm.Free.Fl.i2d_fin _).noNaN, dcmpV_self (Jvm.Free.Fl.i2d_fin _).noNaN]; rfl) (pc' := 163) rfl ?_
        refine iconst K (1 : Int32) at_163 (by decide) (pc' := 164) rfl ?_
        refine goto' K at_164 (pc' := 168) (by decide) (by decide) ?_
        refine retB K (t := .boolean) rfl (by simp) at_168 (Nat.le_of_ble_eq_true rfl) (Nat.le_of_ble_eq_true rfl) ?_
        rfl
  · refine ifN K at_10 (XT.i0_eq_f c1) (pc' := 13) rfl ?_
    refine iconst K (1 : Int32) at_13 (by decide) (pc' := 14) rfl ?_
    refine goto' K at_14 (pc' := 18) (by decide) (by decide) ?_
    refine istore K at_18 (Ls' := #[.val (.int p0), .val (.int p1), .val (.int p2), .val (.int U), .val (.int (1 : Int32)), .unset, .unset, .unset, .unset, .unset]) rfl (pc' := 20) rfl ?_
    refine iload K at_20 rfl (pc' := 22) rfl ?_
    refine ifN K at_22 (by decide) (pc' := 25) rfl ?_
    refine ldc2J K (wd33 hw) at_25 (pc' := 28) rfl ?_
    refine iloadN K at_28 rfl (pc' := 29) rfl ?_
    refine i2l K at_29 (pc' := 30) rfl ?_
    refine lmul K at_30 (pc' := 31) rfl ?_
    refine l2d K at_31 (pc' := 32) rfl ?_
    refine goto' K at_32 (pc' := 37) (by decide) (by decide) ?_
    refine dstore K at_37 (Ls' := #[.val (.int p0), .val (.int p1), .val (.int p2), .val (.int U), .val (.int (1 : Int32)), .val (.double (FP.l2d ((18 : Int64) * (p1).toInt64))), .second, .unset, .unset, .unset]) rfl (pc' := 39) rfl ?_
    refine iloadN K at_39 rfl (pc' := 40) rfl ?_
    by_cases c2 : U = 0
    · refine ifN K at_40 (XT.i0_ne_f c2) (pc' := 43) rfl ?_
      refine gets K (wd1 hw) Via.refl (Sta.ext O0.2 S_k) at_43 (pc' := 46) rfl ?_
      refine astore K at_46 rfl (Ls' := #[.val (.int p0), .val (.int p1), .val (.int p2), .val (.int U), .val (.int (1 : Int32)), .val (.double (FP.l2d ((18 : Int64) * (p1).toInt64))), .second, .val (.ref uk), .unset, .unset]) rfl (pc' := 48) rfl ?_
      refine goto' K at_48 (pc' := 69) (by decide) (by decide) ?_
      refine aload K at_69 rfl rfl (pc' := 71) rfl ?_
      refine dload K at_71 rfl (pc' := 73) rfl ?_
      obtain ⟨nn1, nn2⟩ := own_nn (x := (FP.l2d ((18 : Int64) * (p1).toInt64))) (m := 4652007308841189376) (s := 4660134898793709568) (Jvm.Free.Fl.l2d_fin _) (by unfold Jvm.Free.Fl.Fin64; decide) (by unfold Jvm.Free.Fl.Fin64; decide) (by unfold Jvm.Free.Fl.Nz64; decide)
      refine callVirt K (y := (⟨"com/example/errand_queue/errandqueue/network/SpeedUnit", "toMetresPerSecond", "(D)D"⟩ : MethodName)) (b := uk) (argsL := [(.double (FP.l2d ((18 : Int64) * (p1).toInt64)))]) (S := []) (wd4 hw) (wd5 hw) (wd7 hw) (wd6 hw) (wd2 hw) (wd8 hw) (by decide) E_k (c_tomps l Z a0 hw [] uk ulk uth (FP.l2d ((18 : Int64) * (p1).toInt64)) 4652007308841189376 4660134898793709568 h0 n0 Z0 k_0 k_1 k_2 k_3 k_4 k_5 nn1 nn2) (lenOf pd1 rfl) at_73 rfl (Nat.le_of_ble_eq_true rfl) (Nat.le_of_ble_eq_true rfl) (Nat.le_of_ble_eq_true rfl) (Nat.le_of_ble_eq_true rfl) rfl (pc' := 76) rfl ?_
      rintro v6 h6 ⟨rfl, rfl⟩
      show Go _ _ _ _ _ _ _ _ _ _ _ h0 0 0 (mkF m 76 #[.val (.int p0), .val (.int p1), .val (.int p2), .val (.int U), .val (.int (1 : Int32)), .val (.double (FP.l2d ((18 : Int64) * (p1).toInt64))), .second, .val (.ref uk), .unset, .unset] [(.double (FP.ddiv (FP.dmul (FP.l2d ((18 : Int64) * (p1).toInt64)) 4652007308841189376) 4660134898793709568))]) _
      refine dstore K at_76 (Ls' := #[.val (.int p0), .val (.int p1), .val (.int p2), .val (.int U), .val (.int (1 : Int32)), .val (.double (FP.l2d ((18 : Int64) * (p1).toInt64))), .second, .val (.ref uk), .val (.double (FP.ddiv (FP.dmul (FP.l2d ((18 : Int64) * (p1).toInt64)) 4652007308841189376) 4660134898793709568)), .second]) rfl (pc' := 78) rfl ?_
      refine iloadN K at_78 rfl (pc' := 79) rfl ?_
      refine ifN K at_79 (XT.i0_ne_f c2) (pc' := 82) rfl ?_
      refine iload K at_82 rfl (pc' := 84) rfl ?_
      refine ifN K at_84 (by decide) (pc' := 87) rfl ?_
      refine dload K at_87 rfl (pc' := 89) rfl ?_
      refine ldc2J K (wd42 hw) at_89 (pc' := 92) rfl ?_
      refine iloadN K at_92 rfl (pc' := 93) rfl ?_
      refine i2l K at_93 (pc' := 94) rfl ?_
      refine lmul K at_94 (pc' := 95) rfl ?_
      refine l2d K at_95 (pc' := 96) rfl ?_
      refine dcmp K at_96 (pc' := 97) rfl ?_
      refine ifN K at_97 (dd_l_ne_f (own_exact p1)) (pc' := 100) rfl ?_
      refine iconst K (1 : Int32) at_100 (by decide) (pc' := 101) rfl ?_
      refine goto' K at_101 (pc' := 105) (by decide) (by decide) ?_
      refine retB K (t := .boolean) rfl (by simp) at_105 (Nat.le_of_ble_eq_true rfl) (Nat.le_of_ble_eq_true rfl) ?_
      rfl
    · refine ifY K at_40 (XT.i0_ne_t c2) (pc' := 51) (by decide) (by decide) ?_
      refine iloadN K at_51 rfl (pc' := 52) rfl ?_
      refine iconst K (1 : Int32) at_52 (by decide) (pc' := 53) rfl ?_
      by_cases c3 : U = (1 : Int32)
      · refine icN K at_53 (XT.ii_ne_f c3) (pc' := 56) rfl ?_
        refine gets K (wd34 hw) Via.refl (Sta.ext O0.2 S_mi) at_56 (pc' := 59) rfl ?_
        refine astore K at_59 rfl (Ls' := #[.val (.int p0), .val (.int p1), .val (.int p2), .val (.int U), .val (.int (1 : Int32)), .val (.double (FP.l2d ((18 : Int64) * (p1).toInt64))), .second, .val (.ref umi), .unset, .unset]) rfl (pc' := 61) rfl ?_
        refine goto' K at_61 (pc' := 69) (by decide) (by decide) ?_
        refine aload K at_69 rfl rfl (pc' := 71) rfl ?_
        refine dload K at_71 rfl (pc' := 73) rfl ?_
        obtain ⟨nn1, nn2⟩ := own_nn (x := (FP.l2d ((18 : Int64) * (p1).toInt64))) (m := 4654792785210718028) (s := 4660134898793709568) (Jvm.Free.Fl.l2d_fin _) (by unfold Jvm.Free.Fl.Fin64; decide) (by unfold Jvm.Free.Fl.Fin64; decide) (by unfold Jvm.Free.Fl.Nz64; decide)
        refine callVirt K (y := (⟨"com/example/errand_queue/errandqueue/network/SpeedUnit", "toMetresPerSecond", "(D)D"⟩ : MethodName)) (b := umi) (argsL := [(.double (FP.l2d ((18 : Int64) * (p1).toInt64)))]) (S := []) (wd4 hw) (wd5 hw) (wd7 hw) (wd6 hw) (wd2 hw) (wd8 hw) (by decide) E_mi (c_tomps l Z a0 hw [] umi ulm uth (FP.l2d ((18 : Int64) * (p1).toInt64)) 4654792785210718028 4660134898793709568 h0 n0 Z0 mi_0 mi_1 mi_2 mi_3 mi_4 mi_5 nn1 nn2) (lenOf pd1 rfl) at_73 rfl (Nat.le_of_ble_eq_true rfl) (Nat.le_of_ble_eq_true rfl) (Nat.le_of_ble_eq_true rfl) (Nat.le_of_ble_eq_true rfl) rfl (pc' := 76) rfl ?_
        rintro v7 h7 ⟨rfl, rfl⟩
        show Go _ _ _ _ _ _ _ _ _ _ _ h0 0 0 (mkF m 76 #[.val (.int p0), .val (.int p1), .val (.int p2), .val (.int U), .val (.int (1 : Int32)), .val (.double (FP.l2d ((18 : Int64) * (p1).toInt64))), .second, .val (.ref umi), .unset, .unset] [(.double (FP.ddiv (FP.dmul (FP.l2d ((18 : Int64) * (p1).toInt64)) 4654792785210718028) 4660134898793709568))]) _
        refine dstore K at_76 (Ls' := #[.val (.int p0), .val (.int p1), .val (.int p2), .val (.int U), .val (.int (1 : Int32)), .val (.double (FP.l2d ((18 : Int64) * (p1).toInt64))), .second, .val (.ref umi), .val (.double (FP.ddiv (FP.dmul (FP.l2d ((18 : Int64) * (p1).toInt64)) 4654792785210718028) 4660134898793709568)), .second]) rfl (pc' := 78) rfl ?_
        refine iloadN K at_78 rfl (pc' := 79) rfl ?_
        refine ifY K at_79 (XT.i0_ne_t c2) (pc' := 128) (by decide) (by decide) ?_
        refine iloadN K at_128 rfl (pc' := 129) rfl ?_
        refine iconst K (1 : Int32) at_129 (by decide) (pc' := 130) rfl ?_
        refine icN K at_130 (XT.ii_ne_f c3) (pc' := 133) rfl ?_
        refine dload K at_133 rfl (pc' := 135) rfl ?_
        refine dload K at_135 rfl (pc' := 137) rfl ?_
        refine ldc2D K (wd37 hw) at_137 (pc' := 140) rfl ?_
        refine dmul K at_140 nn1 (pc' := 141) rfl ?_
        refine ldc2D K (wd32 hw) at_141 (pc' := 144) rfl ?_
        refine ddiv K at_144 nn2 (pc' := 145) rfl ?_
        refine dcmp K at_145 (pc' := 146) rfl ?_
        refine ifN K at_146 (by rw [dcmpV_self nn2]; rfl) (pc' := 149) rfl ?_
        refine iconst K (1 : Int32) at_149 (by decide) (pc' := 150) rfl ?_
        refine goto' K at_150 (pc' := 154) (by decide) (by decide) ?_
        refine retB K (t := .boolean) rfl (by simp) at_154 (Nat.le_of_ble_eq_true rfl) (Nat.le_of_ble_eq_true rfl) ?_
        rfl
      · refine icY K at_53 (XT.ii_ne_t c3) (pc' := 64) (by decide) (by decide) ?_
        refine gets K (wd38 hw) Via.refl (Sta.ext O0.2 S_ms) at_64 (pc' := 67) rfl ?_
        refine astore K at_67 rfl (Ls' := #[.val (.int p0), .val (.int p1), .val (.int p2), .val (.int U), .val (.int (1 : Int32)), .val (.double (FP.l2d ((18 : Int64) * (p1).toInt64))), .second, .val (.ref ums), .unset, .unset]) rfl (pc' := 69) rfl ?_
        refine aload K at_69 rfl rfl (pc' := 71) rfl ?_
        refine dload K at_71 rfl (pc' := 73) rfl ?_
        obtain ⟨nn1, nn2⟩ := own_nn (x := (FP.l2d ((18 : Int64) * (p1).toInt64))) (m := 4607182418800017408) (s := 4607182418800017408) (Jvm.Free.Fl.l2d_fin _) (by unfold Jvm.Free.Fl.Fin64; decide) (by unfold Jvm.Free.Fl.Fin64; decide) (by unfold Jvm.Free.Fl.Nz64; decide)
        refine callVirt K (y := (⟨"com/example/errand_queue/errandqueue/network/SpeedUnit", "toMetresPerSecond", "(D)D"⟩ : MethodName)) (b := ums) (argsL := [(.double (FP.l2d ((18 : Int64) * (p1).toInt64)))]) (S := []) (wd4 hw) (wd5 hw) (wd7 hw) (wd6 hw) (wd2 hw) (wd8 hw) (by decide) E_ms (c_tomps l Z a0 hw [] ums ule uts (FP.l2d ((18 : Int64) * (p1).toInt64)) 4607182418800017408 4607182418800017408 h0 n0 Z0 ms_0 ms_1 ms_2 ms_3 ms_4 ms_5 nn1 nn2) (lenOf pd1 rfl) at_73 rfl (Nat.le_of_ble_eq_true rfl) (Nat.le_of_ble_eq_true rfl) (Nat.le_of_ble_eq_true rfl) (Nat.le_of_ble_eq_true rfl) rfl (pc' := 76) rfl ?_
        rintro v8 h8 ⟨rfl, rfl⟩
        show Go _ _ _ _ _ _ _ _ _ _ _ h0 0 0 (mkF m 76 #[.val (.int p0), .val (.int p1), .val (.int p2), .val (.int U), .val (.int (1 : Int32)), .val (.double (FP.l2d ((18 : Int64) * (p1).toInt64))), .second, .val (.ref ums), .unset, .unset] [(.double (FP.ddiv (FP.dmul (FP.l2d ((18 : Int64) * (p1).toInt64)) 4607182418800017408) 4607182418800017408))]) _
        refine dstore K at_76 (Ls' := #[.val (.int p0), .val (.int p1), .val (.int p2), .val (.int U), .val (.int (1 : Int32)), .val (.double (FP.l2d ((18 : Int64) * (p1).toInt64))), .second, .val (.ref ums), .val (.double (FP.ddiv (FP.dmul (FP.l2d ((18 : Int64) * (p1).toInt64)) 4607182418800017408) 4607182418800017408)), .second]) rfl (pc' := 78) rfl ?_
        refine iloadN K at_78 rfl (pc' := 79) rfl ?_
        refine ifY K at_79 (XT.i0_ne_t c2) (pc' := 128) (by decide) (by decide) ?_
        refine iloadN K at_128 rfl (pc' := 129) rfl ?_
        refine iconst K (1 : Int32) at_129 (by decide) (pc' := 130) rfl ?_
        refine icY K at_130 (XT.ii_ne_t c3) (pc' := 155) (by decide) (by decide) ?_
        refine dload K at_155 rfl (pc' := 157) rfl ?_
        refine dload K at_157 rfl (pc' := 159) rfl ?_
        refine dcmp K at_159 (pc' := 160) rfl ?_
        refine ifN K at_160 (by rw [own_ones (x := (FP.l2d ((18 : Int64) * (p1).toInt64))) (Jvm.Free.Fl.l2d_fin _).noNaN, dcmpV_self (Jvm.Free.Fl.l2d_fin _).noNaN]; rfl) (pc' := 163) rfl ?_
        refine iconst K (1 : Int32) at_163 (by decide) (pc' := 164) rfl ?_
        refine goto' K at_164 (pc' := 168) (by decide) (by decide) ?_
        refine retB K (t := .boolean) rfl (by simp) at_168 (Nat.le_of_ble_eq_true rfl) (Nat.le_of_ble_eq_true rfl) ?_
        rfl
set_option maxRecDepth 65536 in
set_option maxHeartbeats 40000000 in
theorem comes_1 {Post : Tables → Env → Array Value → State → Outcome → State → Prop} (hpost : ∀ tb e args s v u, (limb_1_1.after args s (.returned v) u = true ∧ limb_1_2.after args s (.returned v) u = true ∧ True) → FrameEnd s (.returned v) u (Jvm.fieldLocs frame_1_writes args s ++ Jvm.arrayLocs frame_1_arrays args s ++ Jvm.staticLocs frame_1_statics s) 0 0 → Post tb e args s (.returned v) u) :
    ArmFor flags0 classFile x code maxLocals ret World_1 tables_1 room_1 Calls_1 rest_1 Pre_1 Post := by
  intro l hfl _ _ p e ha hc hk s m args below hf hA hF happ hP
  obtain ⟨hcalls, hrest, hpre⟩ := hP
  obtain ⟨-, -, -, hnamed, -, -, -, hat⟩ := (Spec.applies_iff hf).mp happ
  obtain ⟨hg, hn⟩ := and_e (Cond.before_iff.mp (show (Jvm.Cond.and given_1 narrow_1).before args s = true from hpre))
  obtain ⟨q0, r0⟩ := and_e hg
  obtain ⟨q1, r1⟩ := and_e r0
  obtain ⟨q2, r2⟩ := and_e r1
  have q3 := r2
  obtain ⟨w0, w1, w2, rfl⟩ : ∃ w0 w1 w2 : Value, args = #[w0, w1, w2] := by
    have hs : args.size = 3 := by simpa [Cond.value, given_1] using q0
    obtain ⟨L⟩ := args
    match L, hs with
    | [w0, w1, w2], _ => exact ⟨w0, w1, w2, rfl⟩
  have hw := fun d (hd : d ∈ tables_1) => atoms_spec (ws := Jvm.Cond.code x code maxLocals ret :: tables_1) hat d (List.mem_cons_of_mem _ hd)
  have hfit : Fit s := fun {y c} hc i hi => by
    obtain ⟨ha, rfl⟩ := Array.getElem?_eq_some_iff.mp hc
    have q := List.all_eq_true.mp ((Array.all_eq_true_iff_forall_mem.mp hF) _ (Array.getElem_mem ha)) i (List.mem_range.mpr hi)
    simpa [Array.getElem?_eq_getElem hi] using q
  obtain ⟨i0, e0⟩ := is_v q1
  obtain rfl : w0 = (.int i0) := Option.some.inj e0
  obtain ⟨i1, e1⟩ := is_v q2
  obtain rfl : w1 = (.int i1) := Option.some.inj e1
  obtain ⟨i2, e2⟩ := is_v q3
  obtain rfl : w2 = (.int i2) := Option.some.inj e2
  obtain ⟨nq0, hn⟩ := and_e hn
  obtain ⟨nq1, hn⟩ := and_e hn
  obtain ⟨nq2, hn⟩ := and_e hn
  obtain ⟨nq3, hn⟩ := and_e hn
  obtain ⟨nq4, hn⟩ := and_e hn
  obtain ⟨nq5, hn⟩ := and_e hn
  obtain ⟨nq6, hn⟩ := and_e hn
  obtain ⟨nq7, hn⟩ := and_e hn
  obtain ⟨nq8, hn⟩ := and_e hn
  obtain ⟨nq9, hn⟩ := and_e hn
  obtain ⟨nq10, hn⟩ := and_e hn
  obtain ⟨nq11, hn⟩ := and_e hn
  obtain ⟨nq12, hn⟩ := and_e hn
  obtain ⟨nq13, hn⟩ := and_e hn
  obtain ⟨nq14, hn⟩ := and_e hn
  obtain ⟨nq15, hn⟩ := and_e hn
  obtain ⟨nq16, hn⟩ := and_e hn
  obtain ⟨nq17, hn⟩ := and_e hn
  have nq18 := hn
  obtain ⟨uk, ev_uk⟩ := exa_v nq0
  have T_k := Sta.start ev_uk (Or.inr ⟨(wd2 hw), (wd3 hw)⟩)
  have X_k := Exa.start ev_uk nq0
  obtain ⟨ulk, ev_ulk⟩ := exa_v nq1
  have T_lk := Sta.start ev_ulk (Or.inr ⟨(wd11 hw), (wd12 hw)⟩)
  have X_lk := Exa.start ev_ulk nq1
  obtain ⟨uth, ev_uth⟩ := exa_v nq4
  have T_th := Sta.start ev_uth (Or.inr ⟨(wd22 hw), (wd23 hw)⟩)
  have X_th := Exa.start ev_uth nq4
  have Y_k_0 := Fld.start ((fld_at ev_uk).symm.trans (eqR nq2 ev_ulk))
  have Y_k_1 := Fld.start ((fld_at ev_uk).symm.trans (eqR nq5 ev_uth))
  have Y_k_2 := Fld.start ((fld_at ev_ulk).symm.trans (eqD nq3 rfl))
  have Y_k_3 := Fld.start ((fld_at ev_uth).symm.trans (eqD nq6 rfl))
  obtain ⟨umi, ev_umi⟩ := exa_v nq7
  have T_mi := Sta.start ev_umi (Or.inr ⟨(wd2 hw), (wd35 hw)⟩)
  have X_mi := Exa.start ev_umi nq7
  obtain ⟨ulm, ev_ulm⟩ := exa_v nq8
  have T_lm := Sta.start ev_ulm (Or.inr ⟨(wd11 hw), (wd36 hw)⟩)
  have X_lm := Exa.start ev_ulm nq8
  have Y_mi_0 := Fld.start ((fld_at ev_umi).symm.trans (eqR nq9 ev_ulm))
  have Y_mi_1 := Fld.start ((fld_at ev_umi).symm.trans (eqR nq11 ev_uth))
  have Y_mi_2 := Fld.start ((fld_at ev_ulm).symm.trans (eqD nq10 rfl))
  have Y_mi_3 := Fld.start ((fld_at ev_uth).symm.trans (eqD nq6 rfl))
  obtain ⟨ums, ev_ums⟩ := exa_v nq12
  have T_ms := Sta.start ev_ums (Or.inr ⟨(wd2 hw), (wd39 hw)⟩)
  have X_ms := Exa.start ev_ums nq12
  obtain ⟨ule, ev_ule⟩ := exa_v nq13
  have T_le := Sta.start ev_ule (Or.inr ⟨(wd11 hw), (wd40 hw)⟩)
  have X_le := Exa.start ev_ule nq13
  obtain ⟨uts, ev_uts⟩ := exa_v nq16
  have T_ts := Sta.start ev_uts (Or.inr ⟨(wd22 hw), (wd41 hw)⟩)
  have X_ts := Exa.start ev_uts nq16
  have Y_ms_0 := Fld.start ((fld_at ev_ums).symm.trans (eqR nq14 ev_ule))
  have Y_ms_1 := Fld.start ((fld_at ev_ums).symm.trans (eqR nq17 ev_uts))
  have Y_ms_2 := Fld.start ((fld_at ev_ule).symm.trans (eqD nq15 rfl))
  have Y_ms_3 := Fld.start ((fld_at ev_uts).symm.trans (eqD nq18 rfl))
  obtain ⟨n, o, h1, h2, h3, _, L, rfl, ⟨rfl, N⟩, hq⟩ := c_law l s _ hw tables_1 i0 i1 i2 uk umi ums ulk ulm ule uth uts s.heap s.heap.size (Nat.le_refl _) (Old.start s) T_k X_k Y_k_0 Y_k_1 Y_k_2 Y_k_3 X_lk X_th T_mi X_mi Y_mi_0 Y_mi_1 Y_mi_2 Y_mi_3 X_lm X_th T_ms X_ms Y_ms_0 Y_ms_1 Y_ms_2 Y_ms_3 X_le X_ts p e ha hc hk s m _ below hf ((Spec.applies_iff_loose hf).mp happ).1 ⟨rfl, State.Warmed39.refl s, rfl⟩ trivial
  refine ⟨n, _, h1, h2, h3, hpost _ _ _ _ _ _ ⟨Cond.after_iff.mpr rfl, Cond.after_iff.mpr (eq_i res_at (Term.int_eval (1)) rfl), trivial⟩ ⟨hq.1, hq.2.1, (hq.2.2.sift fun y hy => Or.inr (N y hy)).mono (by decide) (by decide)⟩⟩
theorem main_1_1 : Claimed_1_1 := comes_1 fun _ _ _ _ _ _ h hF => ⟨h.1, hF⟩
theorem main_1_2 : Claimed_1_2 := comes_1 fun _ _ _ _ _ _ h hF => ⟨h.2.1, hF⟩
end Jvm.Pilot.@@N@@
namespace Jvm.Pilot.@@N@@
open Jvm Jvm.ClassFile Sem Op Lib Jvm.Free Jvm.Stand Jvm.Pilot.@@N@@.Jvm.D
/-! MADE BY PROGRAM (witnessworld.py) out of the Statement's table words and the real class files: 14 classes; the members and pool entries that the words name. The judged class is class 1, her method 1. -/
namespace start1
open Jvm.ClassFile
def u (s : String) : CpInfo := .utf8 (stringToUtf16 s)
/-- a pool by its gaps: so many unusable entries, then the entry; so many at the end -/
def gap : Nat → List CpInfo → List CpInfo
  | 0, r => r
  | n + 1, r => .unusable :: gap n r
def poolList (es : List (Nat × CpInfo)) (last : Nat) : List CpInfo := es.foldr (fun e r => gap e.1 (e.2 :: r)) (gap last [])
def pool (es : List (Nat × CpInfo)) (last : Nat) : Array CpInfo := ⟨poolList es last⟩
def fileOf (pool : Array CpInfo) (this : Nat) (attrs : Array Attribute := #[]) (ms : Array MethodInfo := #[]) (fl : Nat := 33) (sup : Nat := 0) (ifs : Array Nat := #[]) (fds : Array FieldInfo := #[]) : ClassFile where
  minorVersion := 0
  majorVersion := 65
  constantPool := pool
  accessFlags := fl
  thisClass := this
  superClass := sup
  interfaces := ifs
  fields := fds
  methods := ms
  attributes := attrs
def plain (name : String) (sup : Option ClassId) : Class where
  name := name
  kind := .ordinary
  loader := none
  accessFlags := 33
  super := sup
  interfaces := #[]
  cf := none
  fields := #[]
  methods := #[]
  instanceTypes := #[]
  staticTypes := #[]
  resolved := #[]
  callSites := []
  init := .initialized
  statics := none
  mirror := none

def pool0 : Array CpInfo := pool [(5, u "<init>"), (0, u "()V"), (1, .class_ 10), (1, u "java/lang/Object")] 113

def k0m0 : Method := { name := "<init>", desc := "()V", sig := { parameters := [], returnType := none }, accessFlags := 1, code := none }
/-- java/lang/Object -/
def k0 : Class := { plain "java/lang/Object" none with
  accessFlags := 33
  interfaces := #[]
  cf := some (fileOf pool0 8 #[] #[{ accessFlags := 1, nameIndex := 5, descriptorIndex := 6, attributes := #[] }] 33 0 #[] #[])
  fields := #[]
  methods := #[k0m0]
  instanceTypes := #[]
  staticTypes := #[]
  resolved := Array.replicate 124 none
  statics := none }

def pool1 : Array CpInfo := pool [(2, .class_ 4), (1, u "java/lang/Object"), (0, u "<init>"), (0, u "()V"), (0, .integer 2147483647), (0, .long 18), (1, .fieldref 11 12), (0, .class_ 13), (0, .nameAndType 14 15), (0, u "com/example/errand_queue/errandqueue/network/SpeedUnit"), (0, u "KILOMETRES_PER_HOUR"), (0, u "Lcom/example/errand_queue/errandqueue/network/SpeedUnit;"), (0, .fieldref 11 17), (0, .nameAndType 18 15), (0, u "MILES_PER_HOUR"), (0, .fieldref 11 20), (0, .nameAndType 21 15), (0, u "METRES_PER_SECOND"), (0, .methodref 11 23), (0, .nameAndType 24 25), (0, u "toMetresPerSecond"), (0, u "(D)D"), (0, .long 5), (1, .double 4652007308841189376), (1, .double 4660134898793709568), (1, .double 4654792785210718028), (1, .class_ 35), (0, u "com/example/errand_queue/errandqueue/network/SpeedUnitToMetresPerSecondPinLaw"), (2, u "law"), (0, u "(III)Z")] 3

def k1m0 : Method := { name := "<init>", desc := "()V", sig := { parameters := [], returnType := none }, accessFlags := 2, code := none }
def k1c1 : Code := { maxStack := 6, maxLocals := 10, code := code, exceptionTable := #[], attributes := #[] }
def k1m1 : Method := { name := "law", desc := "(III)Z", sig := { parameters := [.int, .int, .int], returnType := some .boolean }, accessFlags := 9, code := some k1c1 }
/-- com/example/errand_queue/errandqueue/network/SpeedUnitToMetresPerSecondPinLaw -/
def k1 : Class := { plain "com/example/errand_queue/errandqueue/network/SpeedUnitToMetresPerSecondPinLaw" (some 0) with
  accessFlags := 49
  interfaces := #[]
  cf := some (fileOf pool1 34 #[] #[{ accessFlags := 2, nameIndex := 5, descriptorIndex := 6, attributes := #[] }, { accessFlags := 9, nameIndex := 38, descriptorIndex := 39, attributes := #[] }] 49 2 #[] #[])
  fields := #[]
  methods := #[k1m0, k1m1]
  instanceTypes := #[]
  staticTypes := #[]
  resolved := Array.replicate 43 none
  statics := none }

def pool2 : Array CpInfo := pool [(1, .class_ 2), (0, u "java/lang/constant/Constable"), (0, .class_ 4), (0, u "java/lang/Object")] 6

/-- java/lang/constant/Constable -/
def k2 : Class := { plain "java/lang/constant/Constable" (some 0) with
  accessFlags := 1537
  interfaces := #[]
  cf := some (fileOf pool2 1 #[] #[] 1537 3 #[] #[])
  fields := #[]
  methods := #[]
  instanceTypes := #[]
  staticTypes := #[]
  resolved := Array.replicate 11 none
  statics := none }

def pool3 : Array CpInfo := pool [(1, .class_ 2), (0, u "java/lang/Comparable"), (0, .class_ 4), (0, u "java/lang/Object")] 7

/-- java/lang/Comparable -/
def k3 : Class := { plain "java/lang/Comparable" (some 0) with
  accessFlags := 1537
  interfaces := #[]
  cf := some (fileOf pool3 1 #[] #[] 1537 3 #[] #[])
  fields := #[]
  methods := #[]
  instanceTypes := #[]
  staticTypes := #[]
  resolved := Array.replicate 12 none
  statics := none }

def pool4 : Array CpInfo := pool [(1, .class_ 2), (0, u "java/io/Serializable"), (0, .class_ 4), (0, u "java/lang/Object")] 2

/-- java/io/Serializable -/
def k4 : Class := { plain "java/io/Serializable" (some 0) with
  accessFlags := 1537
  interfaces := #[]
  cf := some (fileOf pool4 1 #[] #[] 1537 3 #[] #[])
  fields := #[]
  methods := #[]
  instanceTypes := #[]
  staticTypes := #[]
  resolved := Array.replicate 7 none
  statics := none }

def pool5 : Array CpInfo := pool [(2, .class_ 4), (1, u "java/lang/Enum"), (0, u "name"), (0, u "Ljava/lang/String;"), (2, u "ordinal"), (0, u "I"), (1, .class_ 14), (1, u "java/lang/Object"), (4, u "hash"), (86, .class_ 108), (1, u "java/lang/Enum$EnumDesc"), (2, .class_ 112), (0, u "java/lang/constant/Constable"), (0, .class_ 114), (0, u "java/lang/Comparable"), (0, .class_ 116), (0, u "java/io/Serializable")] 87

/-- java/lang/Enum -/
def k5 : Class := { plain "java/lang/Enum" (some 0) with
  accessFlags := 1057
  interfaces := #[2, 3, 4]
  cf := some (fileOf pool5 2 #[.nestMembers #[106]] #[] 1057 12 #[111, 113, 115] #[{ accessFlags := 18, nameIndex := 5, descriptorIndex := 6, attributes := #[] }, { accessFlags := 18, nameIndex := 9, descriptorIndex := 10, attributes := #[] }, { accessFlags := 2, nameIndex := 19, descriptorIndex := 10, attributes := #[] }])
  fields := #[{ name := "name", type := (.object "java/lang/String"), accessFlags := 18, slot := 0, constantValue := 0 }, { name := "ordinal", type := .int, accessFlags := 18, slot := 1, constantValue := 0 }, { name := "hash", type := .int, accessFlags := 2, slot := 2, constantValue := 0 }]
  methods := #[]
  instanceTypes := #[(.object "java/lang/String"), .int, .int]
  staticTypes := #[]
  resolved := Array.replicate 204 none
  statics := none }

def pool6 : Array CpInfo := pool [(1, .class_ 2), (0, u "com/example/errand_queue/errandqueue/network/SpeedUnit"), (2, u "KILOMETRES_PER_HOUR"), (0, u "Lcom/example/errand_queue/errandqueue/network/SpeedUnit;"), (2, u "MILES_PER_HOUR"), (2, u "METRES_PER_SECOND"), (2, u "$VALUES"), (0, u "[Lcom/example/errand_queue/errandqueue/network/SpeedUnit;"), (6, .class_ 25), (1, u "java/lang/Enum"), (6, .fieldref 1 33), (0, .nameAndType 34 35), (0, u "length"), (0, u "Lcom/example/errand_queue/errandqueue/network/LengthUnit;"), (0, .fieldref 1 37), (0, .nameAndType 38 39), (0, u "time"), (0, u "Lcom/example/errand_queue/errandqueue/network/TimeUnit;"), (8, u "names"), (0, u "Ljava/util/List;"), (19, .methodref 70 71), (0, .class_ 72), (0, .nameAndType 73 74), (0, u "com/example/errand_queue/errandqueue/network/LengthUnit"), (0, u "metres"), (0, u "()D"), (0, .methodref 76 77), (0, .class_ 78), (0, .nameAndType 79 74), (0, u "com/example/errand_queue/errandqueue/network/TimeUnit"), (0, u "seconds"), (53, u "toMetresPerSecond"), (0, u "(D)D")] 31

def k6c0 : Code := { maxStack := 4, maxLocals := 3, code := prog_17_method_6_code, exceptionTable := #[], attributes := #[] }
def k6m0 : Method := { name := "toMetresPerSecond", desc := "(D)D", sig := { parameters := [.double], returnType := some .double }, accessFlags := 1, code := some k6c0 }
/-- com/example/errand_queue/errandqueue/network/SpeedUnit -/
def k6 : Class := { plain "com/example/errand_queue/errandqueue/network/SpeedUnit" (some 5) with
  accessFlags := 16433
  interfaces := #[]
  cf := some (fileOf pool6 1 #[] #[{ accessFlags := 1, nameIndex := 133, descriptorIndex := 134, attributes := #[] }] 16433 23 #[] #[{ accessFlags := 16409, nameIndex := 5, descriptorIndex := 6, attributes := #[] }, { accessFlags := 16409, nameIndex := 9, descriptorIndex := 6, attributes := #[] }, { accessFlags := 16409, nameIndex := 12, descriptorIndex := 6, attributes := #[] }, { accessFlags := 18, nameIndex := 34, descriptorIndex := 35, attributes := #[] }, { accessFlags := 18, nameIndex := 38, descriptorIndex := 39, attributes := #[] }, { accessFlags := 18, nameIndex := 48, descriptorIndex := 49, attributes := #[] }, { accessFlags := 4122, nameIndex := 15, descriptorIndex := 16, attributes := #[] }])
  fields := #[{ name := "KILOMETRES_PER_HOUR", type := (.object "com/example/errand_queue/errandqueue/network/SpeedUnit"), accessFlags := 16409, slot := 0, constantValue := 0 }, { name := "MILES_PER_HOUR", type := (.object "com/example/errand_queue/errandqueue/network/SpeedUnit"), accessFlags := 16409, slot := 1, constantValue := 0 }, { name := "METRES_PER_SECOND", type := (.object "com/example/errand_queue/errandqueue/network/SpeedUnit"), accessFlags := 16409, slot := 2, constantValue := 0 }, { name := "length", type := (.object "com/example/errand_queue/errandqueue/network/LengthUnit"), accessFlags := 18, slot := 3, constantValue := 0 }, { name := "time", type := (.object "com/example/errand_queue/errandqueue/network/TimeUnit"), accessFlags := 18, slot := 4, constantValue := 0 }, { name := "names", type := (.object "java/util/List"), accessFlags := 18, slot := 5, constantValue := 0 }, { name := "$VALUES", type := (.array (.object "com/example/errand_queue/errandqueue/network/SpeedUnit")), accessFlags := 4122, slot := 3, constantValue := 0 }]
  methods := #[k6m0]
  instanceTypes := #[(.object "java/lang/String"), .int, .int, (.object "com/example/errand_queue/errandqueue/network/LengthUnit"), (.object "com/example/errand_queue/errandqueue/network/TimeUnit"), (.object "java/util/List")]
  staticTypes := #[(.object "com/example/errand_queue/errandqueue/network/SpeedUnit"), (.object "com/example/errand_queue/errandqueue/network/SpeedUnit"), (.object "com/example/errand_queue/errandqueue/network/SpeedUnit"), (.array (.object "com/example/errand_queue/errandqueue/network/SpeedUnit"))]
  resolved := Array.replicate 166 none
  statics := some 0 }

def pool7 : Array CpInfo := pool [(1, .class_ 2), (0, u "com/example/errand_queue/errandqueue/network/LengthUnit"), (2, u "METRE"), (0, u "Lcom/example/errand_queue/errandqueue/network/LengthUnit;"), (2, u "KILOMETRE"), (2, u "FOOT"), (2, u "MILE"), (2, u "$VALUES"), (0, u "[Lcom/example/errand_queue/errandqueue/network/LengthUnit;"), (6, .class_ 28), (1, u "java/lang/Enum"), (6, .fieldref 1 36), (0, .nameAndType 37 38), (0, u "metres"), (0, u "D"), (8, u "names"), (0, u "Ljava/util/List;"), (81, u "()D")] 31

def k7c0 : Code := { maxStack := 2, maxLocals := 1, code := prog_12_method_7_code, exceptionTable := #[], attributes := #[] }
def k7m0 : Method := { name := "metres", desc := "()D", sig := { parameters := [], returnType := some .double }, accessFlags := 0, code := some k7c0 }
/-- com/example/errand_queue/errandqueue/network/LengthUnit -/
def k7 : Class := { plain "com/example/errand_queue/errandqueue/network/LengthUnit" (some 5) with
  accessFlags := 16433
  interfaces := #[]
  cf := some (fileOf pool7 1 #[] #[{ accessFlags := 0, nameIndex := 37, descriptorIndex := 130, attributes := #[] }] 16433 26 #[] #[{ accessFlags := 16409, nameIndex := 5, descriptorIndex := 6, attributes := #[] }, { accessFlags := 16409, nameIndex := 9, descriptorIndex := 6, attributes := #[] }, { accessFlags := 16409, nameIndex := 12, descriptorIndex := 6, attributes := #[] }, { accessFlags := 16409, nameIndex := 15, descriptorIndex := 6, attributes := #[] }, { accessFlags := 18, nameIndex := 37, descriptorIndex := 38, attributes := #[] }, { accessFlags := 18, nameIndex := 47, descriptorIndex := 48, attributes := #[] }, { accessFlags := 4122, nameIndex := 18, descriptorIndex := 19, attributes := #[] }])
  fields := #[{ name := "METRE", type := (.object "com/example/errand_queue/errandqueue/network/LengthUnit"), accessFlags := 16409, slot := 0, constantValue := 0 }, { name := "KILOMETRE", type := (.object "com/example/errand_queue/errandqueue/network/LengthUnit"), accessFlags := 16409, slot := 1, constantValue := 0 }, { name := "FOOT", type := (.object "com/example/errand_queue/errandqueue/network/LengthUnit"), accessFlags := 16409, slot := 2, constantValue := 0 }, { name := "MILE", type := (.object "com/example/errand_queue/errandqueue/network/LengthUnit"), accessFlags := 16409, slot := 3, constantValue := 0 }, { name := "metres", type := .double, accessFlags := 18, slot := 3, constantValue := 0 }, { name := "names", type := (.object "java/util/List"), accessFlags := 18, slot := 4, constantValue := 0 }, { name := "$VALUES", type := (.array (.object "com/example/errand_queue/errandqueue/network/LengthUnit")), accessFlags := 4122, slot := 4, constantValue := 0 }]
  methods := #[k7m0]
  instanceTypes := #[(.object "java/lang/String"), .int, .int, .double, (.object "java/util/List")]
  staticTypes := #[(.object "com/example/errand_queue/errandqueue/network/LengthUnit"), (.object "com/example/errand_queue/errandqueue/network/LengthUnit"), (.object "com/example/errand_queue/errandqueue/network/LengthUnit"), (.object "com/example/errand_queue/errandqueue/network/LengthUnit"), (.array (.object "com/example/errand_queue/errandqueue/network/LengthUnit"))]
  resolved := Array.replicate 162 none
  statics := some 1 }

def pool8 : Array CpInfo := pool [(1, .class_ 2), (0, u "com/example/errand_queue/errandqueue/network/TimeUnit"), (2, u "SECOND"), (0, u "Lcom/example/errand_queue/errandqueue/network/TimeUnit;"), (2, u "MINUTE"), (2, u "HOUR"), (2, u "$VALUES"), (0, u "[Lcom/example/errand_queue/errandqueue/network/TimeUnit;"), (6, .class_ 25), (1, u "java/lang/Enum"), (6, .fieldref 1 33), (0, .nameAndType 34 35), (0, u "seconds"), (0, u "D"), (8, u "names"), (0, u "Ljava/util/List;"), (68, u "()D")] 31

def k8c0 : Code := { maxStack := 2, maxLocals := 1, code := prog_19_method_7_code, exceptionTable := #[], attributes := #[] }
def k8m0 : Method := { name := "seconds", desc := "()D", sig := { parameters := [], returnType := some .double }, accessFlags := 0, code := some k8c0 }
/-- com/example/errand_queue/errandqueue/network/TimeUnit -/
def k8 : Class := { plain "com/example/errand_queue/errandqueue/network/TimeUnit" (some 5) with
  accessFlags := 16433
  interfaces := #[]
  cf := some (fileOf pool8 1 #[] #[{ accessFlags := 0, nameIndex := 34, descriptorIndex := 114, attributes := #[] }] 16433 23 #[] #[{ accessFlags := 16409, nameIndex := 5, descriptorIndex := 6, attributes := #[] }, { accessFlags := 16409, nameIndex := 9, descriptorIndex := 6, attributes := #[] }, { accessFlags := 16409, nameIndex := 12, descriptorIndex := 6, attributes := #[] }, { accessFlags := 18, nameIndex := 34, descriptorIndex := 35, attributes := #[] }, { accessFlags := 18, nameIndex := 44, descriptorIndex := 45, attributes := #[] }, { accessFlags := 4122, nameIndex := 15, descriptorIndex := 16, attributes := #[] }])
  fields := #[{ name := "SECOND", type := (.object "com/example/errand_queue/errandqueue/network/TimeUnit"), accessFlags := 16409, slot := 0, constantValue := 0 }, { name := "MINUTE", type := (.object "com/example/errand_queue/errandqueue/network/TimeUnit"), accessFlags := 16409, slot := 1, constantValue := 0 }, { name := "HOUR", type := (.object "com/example/errand_queue/errandqueue/network/TimeUnit"), accessFlags := 16409, slot := 2, constantValue := 0 }, { name := "seconds", type := .double, accessFlags := 18, slot := 3, constantValue := 0 }, { name := "names", type := (.object "java/util/List"), accessFlags := 18, slot := 4, constantValue := 0 }, { name := "$VALUES", type := (.array (.object "com/example/errand_queue/errandqueue/network/TimeUnit")), accessFlags := 4122, slot := 3, constantValue := 0 }]
  methods := #[k8m0]
  instanceTypes := #[(.object "java/lang/String"), .int, .int, .double, (.object "java/util/List")]
  staticTypes := #[(.object "com/example/errand_queue/errandqueue/network/TimeUnit"), (.object "com/example/errand_queue/errandqueue/network/TimeUnit"), (.object "com/example/errand_queue/errandqueue/network/TimeUnit"), (.array (.object "com/example/errand_queue/errandqueue/network/TimeUnit"))]
  resolved := Array.replicate 146 none
  statics := some 2 }

def pool9 : Array CpInfo := pool [(1, u "java/lang/Cloneable"), (0, .class_ 1), (0, u "java/lang/Object"), (0, .class_ 3)] 3

/-- java/lang/Cloneable -/
def k9 : Class := { plain "java/lang/Cloneable" (some 0) with
  accessFlags := 1537
  interfaces := #[]
  cf := some (fileOf pool9 2 #[] #[] 1537 4 #[] #[])
  fields := #[]
  methods := #[]
  instanceTypes := #[]
  staticTypes := #[]
  resolved := Array.replicate 8 none
  statics := none }

/-- the primitive byte -/
def k10 : Class := { plain "byte" none with kind := .primitive 'B', accessFlags := 0x411 }
/-- [B -/
def k11 : Class := { plain "[B" (some 0) with kind := .array 10 .byte, interfaces := #[9, 4], accessFlags := 1041 }

/-- the primitive int -/
def k12 : Class := { plain "int" none with kind := .primitive 'I', accessFlags := 0x411 }
/-- [I -/
def k13 : Class := { plain "[I" (some 0) with kind := .array 12 .int, interfaces := #[9, 4], accessFlags := 1041 }

def heap : Heap := #[{ cls := 6, slots := #[.ref 8, .ref 9, .ref 10, .null], vm := .statics 6 },
  { cls := 7, slots := #[.ref 5, .ref 3, .null, .ref 4, .null], vm := .statics 7 },
  { cls := 8, slots := #[.ref 7, .null, .ref 6, .null], vm := .statics 8 },
  { cls := 7, slots := #[.null, .int 0, .int 0, .double 4652007308841189376, .null], vm := .none },
  { cls := 7, slots := #[.null, .int 0, .int 0, .double 4654792785210718028, .null], vm := .none },
  { cls := 7, slots := #[.null, .int 0, .int 0, .double 4607182418800017408, .null], vm := .none },
  { cls := 8, slots := #[.null, .int 0, .int 0, .double 4660134898793709568, .null], vm := .none },
  { cls := 8, slots := #[.null, .int 0, .int 0, .double 4607182418800017408, .null], vm := .none },
  { cls := 6, slots := #[.null, .int 0, .int 0, .ref 3, .ref 6, .null], vm := .none },
  { cls := 6, slots := #[.null, .int 0, .int 0, .ref 4, .ref 6, .null], vm := .none },
  { cls := 6, slots := #[.null, .int 0, .int 0, .ref 5, .ref 7, .null], vm := .none }]
def classes : Array Class := #[k0, k1, k2, k3, k4, k5, k6, k7, k8, k9, k10, k11, k12, k13]
def interned : List (Array UInt16 × Addr) := []
def slotsUsed : Nat := 56
def theMethod : MethodId := ⟨1, 1⟩
def args0 : Array Value := #[.int 5, .int 5, .int 5]
def aboutOver (below : List Frame) : State where
  vm := { classes := classes, interned := interned.toArray }
  heap := heap
  slotsUsed := slotsUsed
  threads := #[{ frames := .invoking theMethod args0 :: below }]
def below0 : List Frame := [.native { method := ⟨0, 0⟩, args := #[] }]
def about1 : State := aboutOver below0
def p0 : Program := .bare "" "" ""
def e0 : Env := launch0.env 0 0 0
theorem w_frames : about1.frames = Frame.invoking theMethod args0 :: below0 := rfl
set_option maxRecDepth 65536 in
theorem w_args : argsFit about1.vm theMethod args0 = true := by decide +kernel
set_option maxRecDepth 65536 in
theorem w_heap : heapFits about1 = true := by decide +kernel
set_option maxRecDepth 65536 in
theorem w_runnable : about1.curStatus? = some .runnable := by decide +kernel
set_option maxRecDepth 65536 in
theorem w_alone : about1.alone = true := by decide +kernel
set_option maxRecDepth 65536 in
theorem w_named : about1.methodNamed? x = some theMethod := by decide +kernel
set_option maxRecDepth 65536 in
theorem w_hears : about1.hears theMethod below0 = true := by decide +kernel
set_option maxRecDepth 65536 in
theorem w_ripe : about1.ripe theMethod args0 below0 = true := by decide +kernel
theorem w_running : about1.status = .running := rfl
set_option maxRecDepth 65536 in
theorem w_room : about1.hasRoom e0.platform room_1 = true :=
  launch0.hasRoom_least _ room_1 (by decide +kernel) (by decide +kernel) (by decide +kernel) (by decide +kernel) (by decide +kernel) (by decide +kernel)
theorem allAtoms_all (ts : List Jvm.Cond) (a : Array Jvm.Value) (st : Jvm.State) : (allAtoms ts).before a st = ts.all (fun c => c.before a st) := by
  induction ts with
  | nil => rfl
  | cons c t ih =>
    show (Jvm.Cond.and c (allAtoms t)).before a st = _
    rw [Jvm.Cond.before_and, ih, List.all_cons]
def words1 : List Jvm.Cond := Jvm.Cond.code x code maxLocals ret :: tables_1
/-- a 'code' word, met by the world's own term for the bytes: nothing is compared byte by byte -/
theorem code_word {y : MethodName} {bytes : ByteArray} {mx : Nat} {rt : Option FieldType} {a : Array Value} {s : State} {m : MethodId} {meth : Method} {c : Code} (h1 : s.methodNamed? y = some m) (h2 : s.vm.method? m = some meth) (h3 : meth.code = some c) (h4 : c.code = bytes)
    (h5 : (c.maxLocals == mx && c.exceptionTable.isEmpty && decide (c.maxStack ≤ mostOperands) && decide (meth.sig.returnType = rt) && !meth.locks && decide (parseMethodDescriptor y.desc = some meth.sig)) = true) : (Jvm.Cond.code y bytes mx rt).before a s = true := by
  simp only [Bool.and_eq_true, beq_iff_eq, Bool.not_eq_true', decide_eq_true_eq] at h5
  obtain ⟨⟨⟨⟨⟨g1, g2⟩, g3⟩, g4⟩, g5⟩, g6⟩ := h5
  simp [Cond.before, Cond.holds, Cond.value, h1, h2, h3, h4, g1, g2, g3, g4, g5, g6]
def isCode : Jvm.Cond → Bool
  | .code _ _ _ _ => true
  | _ => false
theorem all_split {L : List Jvm.Cond} {P : Jvm.Cond → Bool} (h1 : L.all (fun c => isCode c || P c) = true) (h2 : ∀ c ∈ L.filter isCode, P c = true) : L.all P = true := by
  refine List.all_eq_true.mpr fun c hc => ?_
  have h := List.all_eq_true.mp h1 c hc
  rcases Bool.eq_false_or_eq_true (isCode c) with hi | hi
  · exact h2 c (List.mem_filter.mpr ⟨hc, hi⟩)
  · simpa [hi] using h
set_option maxRecDepth 65536 in
theorem w_c0 : (Jvm.Cond.code x code maxLocals ret).before args0 about1 = true := code_word (m := ⟨1, 1⟩) (meth := k1m1) (c := k1c1) (by decide +kernel) rfl rfl rfl (by decide +kernel)
set_option maxRecDepth 65536 in
theorem w_c1 : (Jvm.Cond.code ({ cls := "com/example/errand_queue/errandqueue/network/SpeedUnit", name := "toMetresPerSecond", desc := "(D)D" } : Jvm.MethodName) prog_17_method_6_code (3 : Nat) (Option.some Jvm.ClassFile.FieldType.double)).before args0 about1 = true := code_word (m := ⟨6, 0⟩) (meth := k6m0) (c := k6c0) (by decide +kernel) rfl rfl rfl (by decide +kernel)
set_option maxRecDepth 65536 in
theorem w_c2 : (Jvm.Cond.code ({ cls := "com/example/errand_queue/errandqueue/network/LengthUnit", name := "metres", desc := "()D" } : Jvm.MethodName) prog_12_method_7_code (1 : Nat) (Option.some Jvm.ClassFile.FieldType.double)).before args0 about1 = true := code_word (m := ⟨7, 0⟩) (meth := k7m0) (c := k7c0) (by decide +kernel) rfl rfl rfl (by decide +kernel)
set_option maxRecDepth 65536 in
theorem w_c3 : (Jvm.Cond.code ({ cls := "com/example/errand_queue/errandqueue/network/TimeUnit", name := "seconds", desc := "()D" } : Jvm.MethodName) prog_19_method_7_code (1 : Nat) (Option.some Jvm.ClassFile.FieldType.double)).before args0 about1 = true := code_word (m := ⟨8, 0⟩) (meth := k8m0) (c := k8c0) (by decide +kernel) rfl rfl rfl (by decide +kernel)
def codes1 : List Jvm.Cond := [Jvm.Cond.code x code maxLocals ret, Jvm.Cond.code ({ cls := "com/example/errand_queue/errandqueue/network/SpeedUnit", name := "toMetresPerSecond", desc := "(D)D" } : Jvm.MethodName) prog_17_method_6_code (3 : Nat) (Option.some Jvm.ClassFile.FieldType.double), Jvm.Cond.code ({ cls := "com/example/errand_queue/errandqueue/network/LengthUnit", name := "metres", desc := "()D" } : Jvm.MethodName) prog_12_method_7_code (1 : Nat) (Option.some Jvm.ClassFile.FieldType.double), Jvm.Cond.code ({ cls := "com/example/errand_queue/errandqueue/network/TimeUnit", name := "seconds", desc := "()D" } : Jvm.MethodName) prog_19_method_7_code (1 : Nat) (Option.some Jvm.ClassFile.FieldType.double)]
set_option maxRecDepth 65536 in
theorem codes_eq : words1.filter isCode = codes1 := rfl
theorem w_codes : ∀ c ∈ words1.filter isCode, c.before args0 about1 = true := by
  rw [codes_eq]
  intro c hc
  simp only [codes1, List.mem_cons, List.not_mem_nil, or_false] at hc
  rcases hc with rfl | rfl | rfl | rfl
  · exact w_c0
  · exact w_c1
  · exact w_c2
  · exact w_c3
set_option maxRecDepth 65536 in
theorem w_t1 : (words1.take 24).all (fun c => isCode c || c.before args0 about1) = true := by decide +kernel
set_option maxRecDepth 65536 in
theorem w_t2 : (words1.drop 24).all (fun c => isCode c || c.before args0 about1) = true := by decide +kernel
theorem w_tables : (allAtoms (Jvm.Cond.code x code maxLocals ret :: tables_1)).before args0 about1 = true := by
  rw [allAtoms_all]
  show words1.all (fun c => c.before args0 about1) = true
  refine all_split ?_ w_codes
  rw [← List.take_append_drop 24 words1, List.all_append, w_t1, w_t2]
  rfl
set_option maxRecDepth 65536 in
theorem w_case : (Jvm.Cond.and given_1 narrow_1).before args0 about1 = true := by decide +kernel
theorem w_applies : (headSpec (Jvm.Cond.code x code maxLocals ret :: tables_1) room_1).applies x e0.platform about1 = true :=
  (Spec.applies_iff w_frames).mpr ⟨w_running, w_runnable, w_alone, w_named, w_hears, w_ripe, w_room, w_tables⟩
theorem atStart : AtStart classFile x code maxLocals ret World_1 tables_1 room_1 Calls_1 rest_1 Pre_1 launch0 p0 e0 about1 theMethod args0 below0 :=
  ⟨lists_1, trivial, launch0.admits_env _ _ _, launch0.least_env, fairChoices_fair.cas, fairChoices_fair.clock, w_frames, w_args, w_heap, w_applies, trivial, trivial, w_case⟩
end start1
theorem witness_1 : WitnessClaimed_1 := ⟨start1.p0, start1.e0, start1.about1, start1.theMethod, start1.args0, start1.below0, start1.atStart⟩
end Jvm.Pilot.@@N@@

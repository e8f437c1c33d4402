import JvmDerived
import JvmDerived.Pilot.@@N@@Statement
import JvmDerived.Pilot.@@N@@Code
set_option linter.unusedVariables false
set_option linter.unusedSimpArgs false
namespace Jvm.OwnWp
open Sem ClassFile Op Lib Jvm.Stand Jvm.Free Jvm.LawKit Jvm.RoadKit
/-- what holds of the method that is walked: its bytes, its class, its tables -/
def Cx (Z : State) (own nm : String) (bytes : ByteArray) (ml : Nat) (ret : Option FieldType) (p : Program) (s : State) (m : MethodId) (meth : Method) (c : Code) : Prop :=
  p.tables.exec = Jvm.exec ∧ Z.Warmed39 s.vm ∧ s.vm.findClass own = some m.cls ∧ c.code = bytes ∧ c.maxLocals = ml ∧ meth.sig.returnType = ret ∧ meth.locks = false ∧ meth.name = nm
/-- from the frame g over the heap h the method returns v at a heap of which Q holds; it has written fresh places alone -/
def Go (p : Program) (l : Launch) (e : Env) (R : Room) (s : State) (m : MethodId) (args : Array Value) (below : List Frame) (meth : Method) (c : Code) (n0 : Nat) (h : Heap) (ce sl : Nat) (g : JFrame) (Q : Option Value → Heap → Prop) : Prop :=
  ∀ (T : State) (L : List Loc), Stand p l e R s m args below meth c T L ce sl → Fr n0 L → T.heap = h →
    ∃ (s₂ : State) (v : Option Value) (L' : List Loc), Steps p.tables e below (T.setTop g) s₂ ∧ s₂.status = .running ∧ Ended s₂ below (.returned v) ∧ Fr n0 L' ∧ Q v s₂.heap ∧ FrameEnd s (.returned v) s₂ L' R.cells R.slots
/-- the contract of a method: called with the values as' over the heap h it returns as Q says -/
def Ctr (l : Launch) (Z : State) (y : MethodName) (bytes : ByteArray) (ml : Nat) (ret : Option FieldType) (ws : List Cond) (rm : Room) (n0 : Nat) (as' : Array Value) (h : Heap) (Q : Option Value → Heap → Prop) : Prop :=
  MetFree l y (head1 (Cond.code y bytes ml ret :: ws) rm) (fun a U => a = as' ∧ Z.Warmed39 U.vm ∧ U.heap = h) (fun _ _ _ _ _ => True) (fun _ U o U' => ∃ v L, o = .returned v ∧ (Q v U'.heap ∧ Fr n0 L) ∧ FrameEnd U o U' L rm.cells rm.slots)
section Walk
variable {p : Program} {l : Launch} {e : Env} {R : Room} {s : State} {m : MethodId} {args : Array Value} {below : List Frame} {meth : Method} {c : Code} {Z : State} {a0 : Array Value} {own nm : String} {bytes : ByteArray} {ml : Nat} {ret : Option FieldType} {n0 ce sl pc pc' : Nat} {h : Heap} {Ls Ls' : Array Slot} {S : List Value} {Q : Option Value → Heap → Prop}
theorem one {g g' : JFrame} (st : ∀ (T : State) (L : List Loc), Stand p l e R s m args below meth c T L ce sl → T.heap = h → ∀ t, Steps p.tables e below (T.setTop g') t → Steps p.tables e below (T.setTop g) t) (q : Go p l e R s m args below meth c n0 h ce sl g' Q) : Go p l e R s m args below meth c n0 h ce sl g Q := fun T L X N eT => by
  obtain ⟨s₂, v, L', a1, r⟩ := q T L X N eT
  exact ⟨s₂, v, L', st T L X eT _ a1, r⟩
/-- a step that goes to another state over the same heap -/
theorem oneT {g g' : JFrame} (st : ∀ (T : State) (L : List Loc), Stand p l e R s m args below meth c T L ce sl → T.heap = h → ∃ T', Stand p l e R s m args below meth c T' L ce sl ∧ T'.heap = h ∧ ∀ t, Steps p.tables e below (T'.setTop g') t → Steps p.tables e below (T.setTop g) t) (q : Go p l e R s m args below meth c n0 h ce sl g' Q) : Go p l e R s m args below meth c n0 h ce sl g Q := fun T L X N eT => by
  obtain ⟨T', X', eT', k⟩ := st T L X eT
  obtain ⟨s₂, v, L', a1, r⟩ := q T' L X' N eT'
  exact ⟨s₂, v, L', k _ a1, r⟩
theorem Go.cast {g g' : JFrame} (q : g = g') (k : Go p l e R s m args below meth c n0 h ce sl g' Q) : Go p l e R s m args below meth c n0 h ce sl g Q := q ▸ k
theorem Go.mono {g : JFrame} {Q' : Option Value → Heap → Prop} (k : Go p l e R s m args below meth c n0 h ce sl g Q') (q : ∀ v h, Q' v h → Q v h) : Go p l e R s m args below meth c n0 h ce sl g Q := fun T L X N eT => by
  obtain ⟨s₂, v, L', a1, a2, a3, a4, a5, r⟩ := k T L X N eT
  exact ⟨s₂, v, L', a1, a2, a3, a4, q _ _ a5, r⟩

theorem iloadN (K : Cx Z own nm bytes ml ret p s m meth c) {k : Fin 4} {v : Int32} (hd : decode bytes pc = .ok (.iload_n k, 1)) (hl : Ls[k.val]? = some (.val (.int v))) (hp : pc + 1 = pc') (q : Go p l e R s m args below meth c n0 h ce sl (mkF m pc' Ls (.int v :: S)) Q) : Go p l e R s m args below meth c n0 h ce sl (mkF m pc Ls S) Q := by
  subst hp; exact one (fun T L X _ t => Jvm.Free.XS.iloadN X.here K.1 rfl (hb K.2.2.2.1 hd) hl) q
theorem iload (K : Cx Z own nm bytes ml ret p s m meth c) {k : Nat} {v : Int32} (hd : decode bytes pc = .ok (.iload k, 2)) (hl : Ls[k]? = some (.val (.int v))) (hp : pc + 2 = pc') (q : Go p l e R s m args below meth c n0 h ce sl (mkF m pc' Ls (.int v :: S)) Q) : Go p l e R s m args below meth c n0 h ce sl (mkF m pc Ls S) Q := by
  subst hp; exact one (fun T L X _ t => Jvm.Free.XS.iload X.here K.1 rfl (hb K.2.2.2.1 hd) hl) q
theorem istoreN (K : Cx Z own nm bytes ml ret p s m meth c) {k : Fin 4} {v : Int32} (hd : decode bytes pc = .ok (.istore_n k, 1)) (hl : storeLocals Ls k.val (.int v) = some Ls') (hp : pc + 1 = pc') (q : Go p l e R s m args below meth c n0 h ce sl (mkF m pc' Ls' S) Q) : Go p l e R s m args below meth c n0 h ce sl (mkF m pc Ls (.int v :: S)) Q := by
  subst hp; exact one (fun T L X _ t => Jvm.Free.XS.istoreN X.here K.1 rfl (hb K.2.2.2.1 hd) rfl hl) q
theorem istore (K : Cx Z own nm bytes ml ret p s m meth c) {k : Nat} {v : Int32} (hd : decode bytes pc = .ok (.istore k, 2)) (hl : storeLocals Ls k (.int v) = some Ls') (hp : pc + 2 = pc') (q : Go p l e R s m args below meth c n0 h ce sl (mkF m pc' Ls' S) Q) : Go p l e R s m args below meth c n0 h ce sl (mkF m pc Ls (.int v :: S)) Q := by
  subst hp; exact one (fun T L X _ t => Jvm.Free.XS.istore X.here K.1 rfl (hb K.2.2.2.1 hd) rfl hl) q
theorem lloadN (K : Cx Z own nm bytes ml ret p s m meth c) {k : Fin 4} {v : Int64} (hd : decode bytes pc = .ok (.lload_n k, 1)) (hl : Ls[k.val]? = some (.val (.long v))) (hp : pc + 1 = pc') (q : Go p l e R s m args below meth c n0 h ce sl (mkF m pc' Ls (.long v :: S)) Q) : Go p l e R s m args below meth c n0 h ce sl (mkF m pc Ls S) Q := by
  subst hp; exact one (fun T L X _ t => Jvm.Free.XT.lloadN X.here K.1 rfl (hb K.2.2.2.1 hd) hl) q
theorem lload (K : Cx Z own nm bytes ml ret p s m meth c) {k : Nat} {v : Int64} (hd : decode bytes pc = .ok (.lload k, 2)) (hl : Ls[k]? = some (.val (.long v))) (hp : pc + 2 = pc') (q : Go p l e R s m args below meth c n0 h ce sl (mkF m pc' Ls (.long v :: S)) Q) : Go p l e R s m args below meth c n0 h ce sl (mkF m pc Ls S) Q := by
  subst hp; exact one (fun T L X _ t => Jvm.Free.XT.lload X.here K.1 rfl (hb K.2.2.2.1 hd) hl) q
theorem lstoreN (K : Cx Z own nm bytes ml ret p s m meth c) {k : Fin 4} {v : Int64} (hd : decode bytes pc = .ok (.lstore_n k, 1)) (hl : storeLocals Ls k.val (.long v) = some Ls') (hp : pc + 1 = pc') (q : Go p l e R s m args below meth c n0 h ce sl (mkF m pc' Ls' S) Q) : Go p l e R s m args below meth c n0 h ce sl (mkF m pc Ls (.long v :: S)) Q := by
  subst hp; exact one (fun T L X _ t => Jvm.Free.XT.lstoreN X.here K.1 rfl (hb K.2.2.2.1 hd) rfl hl) q
theorem lstore (K : Cx Z own nm bytes ml ret p s m meth c) {k : Nat} {v : Int64} (hd : decode bytes pc = .ok (.lstore k, 2)) (hl : storeLocals Ls k (.long v) = some Ls') (hp : pc + 2 = pc') (q : Go p l e R s m args below meth c n0 h ce sl (mkF m pc' Ls' S) Q) : Go p l e R s m args below meth c n0 h ce sl (mkF m pc Ls (.long v :: S)) Q := by
  subst hp; exact one (fun T L X _ t => Jvm.Free.XT.lstore X.here K.1 rfl (hb K.2.2.2.1 hd) rfl hl) q
theorem dloadN (K : Cx Z own nm bytes ml ret p s m meth c) {k : Fin 4} {v : UInt64} (hd : decode bytes pc = .ok (.dload_n k, 1)) (hl : Ls[k.val]? = some (.val (.double v))) (hp : pc + 1 = pc') (q : Go p l e R s m args below meth c n0 h ce sl (mkF m pc' Ls (.double v :: S)) Q) : Go p l e R s m args below meth c n0 h ce sl (mkF m pc Ls S) Q := by
  subst hp; exact one (fun T L X _ t => Jvm.Free.XS.dloadN X.here K.1 rfl (hb K.2.2.2.1 hd) hl) q
theorem dload (K : Cx Z own nm bytes ml ret p s m meth c) {k : Nat} {v : UInt64} (hd : decode bytes pc = .ok (.dload k, 2)) (hl : Ls[k]? = some (.val (.double v))) (hp : pc + 2 = pc') (q : Go p l e R s m args below meth c n0 h ce sl (mkF m pc' Ls (.double v :: S)) Q) : Go p l e R s m args below meth c n0 h ce sl (mkF m pc Ls S) Q := by
  subst hp; exact one (fun T L X _ t => Jvm.Free.XS.dload X.here K.1 rfl (hb K.2.2.2.1 hd) hl) q
theorem dstoreN (K : Cx Z own nm bytes ml ret p s m meth c) {k : Fin 4} {v : UInt64} (hd : decode bytes pc = .ok (.dstore_n k, 1)) (hl : storeLocals Ls k.val (.double v) = some Ls') (hp : pc + 1 = pc') (q : Go p l e R s m args below meth c n0 h ce sl (mkF m pc' Ls' S) Q) : Go p l e R s m args below meth c n0 h ce sl (mkF m pc Ls (.double v :: S)) Q := by
  subst hp; exact one (fun T L X _ t => Jvm.Free.XS.dstoreN X.here K.1 rfl (hb K.2.2.2.1 hd) rfl hl) q
theorem dstore (K : Cx Z own nm bytes ml ret p s m meth c) {k : Nat} {v : UInt64} (hd : decode bytes pc = .ok (.dstore k, 2)) (hl : storeLocals Ls k (.double v) = some Ls') (hp : pc + 2 = pc') (q : Go p l e R s m args below meth c n0 h ce sl (mkF m pc' Ls' S) Q) : Go p l e R s m args below meth c n0 h ce sl (mkF m pc Ls (.double v :: S)) Q := by
  subst hp; exact one (fun T L X _ t => Jvm.Free.XS.dstore X.here K.1 rfl (hb K.2.2.2.1 hd) rfl hl) q
theorem aloadN (K : Cx Z own nm bytes ml ret p s m meth c) {k : Fin 4} {v : Value} (hd : decode bytes pc = .ok (.aload_n k, 1)) (hl : Ls[k.val]? = some (.val v)) (hv : v.isRef = true) (hp : pc + 1 = pc') (q : Go p l e R s m args below meth c n0 h ce sl (mkF m pc' Ls (v :: S)) Q) : Go p l e R s m args below meth c n0 h ce sl (mkF m pc Ls S) Q := by
  subst hp; exact one (fun T L X _ t => Jvm.Free.XS.aloadN X.here K.1 rfl (hb K.2.2.2.1 hd) hl hv) q
theorem aload (K : Cx Z own nm bytes ml ret p s m meth c) {k : Nat} {v : Value} (hd : decode bytes pc = .ok (.aload k, 2)) (hl : Ls[k]? = some (.val v)) (hv : v.isRef = true) (hp : pc + 2 = pc') (q : Go p l e R s m args below meth c n0 h ce sl (mkF m pc' Ls (v :: S)) Q) : Go p l e R s m args below meth c n0 h ce sl (mkF m pc Ls S) Q := by
  subst hp; exact one (fun T L X _ t => Jvm.Free.XS.aload X.here K.1 rfl (hb K.2.2.2.1 hd) hl hv) q
theorem astoreN (K : Cx Z own nm bytes ml ret p s m meth c) {k : Fin 4} {v : Value} (hd : decode bytes pc = .ok (.astore_n k, 1)) (hv : v.isRef = true) (hl : storeLocals Ls k.val v = some Ls') (hp : pc + 1 = pc') (q : Go p l e R s m args below meth c n0 h ce sl (mkF m pc' Ls' S) Q) : Go p l e R s m args below meth c n0 h ce sl (mkF m pc Ls (v :: S)) Q := by
  subst hp; exact one (fun T L X _ t => Jvm.Free.XS.astoreN X.here K.1 rfl (hb K.2.2.2.1 hd) rfl hv hl) q
theorem astore (K : Cx Z own nm bytes ml ret p s m meth c) {k : Nat} {v : Value} (hd : decode bytes pc = .ok (.astore k, 2)) (hv : v.isRef = true) (hl : storeLocals Ls k v = some Ls') (hp : pc + 2 = pc') (q : Go p l e R s m args below meth c n0 h ce sl (mkF m pc' Ls' S) Q) : Go p l e R s m args below meth c n0 h ce sl (mkF m pc Ls (v :: S)) Q := by
  subst hp; exact one (fun T L X _ t => Jvm.Free.XS.astore X.here K.1 rfl (hb K.2.2.2.1 hd) rfl hv hl) q
theorem iconst (K : Cx Z own nm bytes ml ret p s m meth c) {i : Int} (v : Int32) (hd : decode bytes pc = .ok (.iconst i, 1)) (hv : Int32.ofInt i = v) (hp : pc + 1 = pc') (q : Go p l e R s m args below meth c n0 h ce sl (mkF m pc' Ls (.int v :: S)) Q) : Go p l e R s m args below meth c n0 h ce sl (mkF m pc Ls S) Q := by
  subst hp; exact one (fun T L X _ t => Jvm.Free.XT.iconstV X.here K.1 rfl v (hb K.2.2.2.1 hd) hv) q
theorem bipush (K : Cx Z own nm bytes ml ret p s m meth c) {i : Int} (v : Int32) (hd : decode bytes pc = .ok (.bipush i, 2)) (hv : (Int8.ofInt i).toInt32 = v) (hp : pc + 2 = pc') (q : Go p l e R s m args below meth c n0 h ce sl (mkF m pc' Ls (.int v :: S)) Q) : Go p l e R s m args below meth c n0 h ce sl (mkF m pc Ls S) Q := by
  subst hp; exact one (fun T L X _ t => Jvm.Free.XT.bipushV X.here K.1 rfl v (hb K.2.2.2.1 hd) hv) q
theorem sipush (K : Cx Z own nm bytes ml ret p s m meth c) {i : Int} (v : Int32) (hd : decode bytes pc = .ok (.sipush i, 3)) (hv : (Int16.ofInt i).toInt32 = v) (hp : pc + 3 = pc') (q : Go p l e R s m args below meth c n0 h ce sl (mkF m pc' Ls (.int v :: S)) Q) : Go p l e R s m args below meth c n0 h ce sl (mkF m pc Ls S) Q := by
  subst hp; exact one (fun T L X _ t => Jvm.Free.XT.sipushV X.here K.1 rfl v (hb K.2.2.2.1 hd) hv) q
theorem lconst (K : Cx Z own nm bytes ml ret p s m meth c) {i : Fin 2} (v : Int64) (hd : decode bytes pc = .ok (.lconst i, 1)) (hv : Int64.ofNat i = v) (hp : pc + 1 = pc') (q : Go p l e R s m args below meth c n0 h ce sl (mkF m pc' Ls (.long v :: S)) Q) : Go p l e R s m args below meth c n0 h ce sl (mkF m pc Ls S) Q := by
  subst hp; exact one (fun T L X _ t => Jvm.Free.XT.lconstV X.here K.1 rfl v (hb K.2.2.2.1 hd) hv) q
theorem istoreS (K : Cx Z own nm bytes ml ret p s m meth c) {k : Nat} {x : Int32} {o : Slot} (hd : decode bytes pc = .ok (.istore k, 2)) (hold : Ls[k]? = some o) (ho : One o) (hl : Ls.setIfInBounds k (.val (.int x)) = Ls') (hp : pc + 2 = pc') (q : Go p l e R s m args below meth c n0 h ce sl (mkF m pc' Ls' S) Q) : Go p l e R s m args below meth c n0 h ce sl (mkF m pc Ls (.int x :: S)) Q := by
  subst hp hl; exact one (fun T L X _ t => Jvm.Free.XS.istoreS X.here K.1 rfl (hb K.2.2.2.1 hd) rfl hold ho) q
theorem dconst0 (K : Cx Z own nm bytes ml ret p s m meth c) {v : UInt64} (hd : decode bytes pc = .ok (.dconst 0, 1)) (hv : FP.dconst0 = v) (hp : pc + 1 = pc') (q : Go p l e R s m args below meth c n0 h ce sl (mkF m pc' Ls (.double v :: S)) Q) : Go p l e R s m args below meth c n0 h ce sl (mkF m pc Ls S) Q := by
  subst hp; exact one (fun T L X _ t => Jvm.Free.XS.dconst0 X.here K.1 rfl (hb K.2.2.2.1 hd) hv) q
theorem dconst1 (K : Cx Z own nm bytes ml ret p s m meth c) {v : UInt64} (hd : decode bytes pc = .ok (.dconst 1, 1)) (hv : FP.dconst1 = v) (hp : pc + 1 = pc') (q : Go p l e R s m args below meth c n0 h ce sl (mkF m pc' Ls (.double v :: S)) Q) : Go p l e R s m args below meth c n0 h ce sl (mkF m pc Ls S) Q := by
  subst hp; exact one (fun T L X _ t => Jvm.Free.XS.dconst1 X.here K.1 rfl (hb K.2.2.2.1 hd) hv) q
theorem anull (K : Cx Z own nm bytes ml ret p s m meth c) (hd : decode bytes pc = .ok (.aconst_null, 1)) (hp : pc + 1 = pc') (q : Go p l e R s m args below meth c n0 h ce sl (mkF m pc' Ls (.null :: S)) Q) : Go p l e R s m args below meth c n0 h ce sl (mkF m pc Ls S) Q := by
  subst hp; exact one (fun T L X _ t => Jvm.Free.XS.aconstNull X.here K.1 rfl (hb K.2.2.2.1 hd) ) q
theorem iinc (K : Cx Z own nm bytes ml ret p s m meth c) {k : Nat} {i : Int} {x : Int32} (v : Int32) (hd : decode bytes pc = .ok (.iinc k i, 3)) (hv : Int32.ofInt i = v) (hl : Ls[k]? = some (.val (.int x))) (hl' : storeLocals Ls k (.int (x + v)) = some Ls') (hp : pc + 3 = pc') (q : Go p l e R s m args below meth c n0 h ce sl (mkF m pc' Ls' S) Q) : Go p l e R s m args below meth c n0 h ce sl (mkF m pc Ls S) Q := by
  subst hp; exact one (fun T L X _ t => Jvm.Free.XT.iincV X.here K.1 rfl v (hb K.2.2.2.1 hd) hv hl hl') q
theorem iadd (K : Cx Z own nm bytes ml ret p s m meth c) {x y : Int32} (hd : decode bytes pc = .ok (.iadd, 1)) (hp : pc + 1 = pc') (q : Go p l e R s m args below meth c n0 h ce sl (mkF m pc' Ls (.int (x + y) :: S)) Q) : Go p l e R s m args below meth c n0 h ce sl (mkF m pc Ls (.int y :: .int x :: S)) Q := by
  subst hp; exact one (fun T L X _ t => Jvm.Free.XS.iadd X.here K.1 rfl (hb K.2.2.2.1 hd) rfl) q
theorem isub (K : Cx Z own nm bytes ml ret p s m meth c) {x y : Int32} (hd : decode bytes pc = .ok (.isub, 1)) (hp : pc + 1 = pc') (q : Go p l e R s m args below meth c n0 h ce sl (mkF m pc' Ls (.int (x - y) :: S)) Q) : Go p l e R s m args below meth c n0 h ce sl (mkF m pc Ls (.int y :: .int x :: S)) Q := by
  subst hp; exact one (fun T L X _ t => Jvm.Free.XS.isub X.here K.1 rfl (hb K.2.2.2.1 hd) rfl) q
theorem imul (K : Cx Z own nm bytes ml ret p s m meth c) {x y : Int32} (hd : decode bytes pc = .ok (.imul, 1)) (hp : pc + 1 = pc') (q : Go p l e R s m args below meth c n0 h ce sl (mkF m pc' Ls (.int (x * y) :: S)) Q) : Go p l e R s m args below meth c n0 h ce sl (mkF m pc Ls (.int y :: .int x :: S)) Q := by
  subst hp; exact one (fun T L X _ t => Jvm.Free.XS.imul X.here K.1 rfl (hb K.2.2.2.1 hd) rfl) q
theorem iand (K : Cx Z own nm bytes ml ret p s m meth c) {x y : Int32} (hd : decode bytes pc = .ok (.iand, 1)) (hp : pc + 1 = pc') (q : Go p l e R s m args below meth c n0 h ce sl (mkF m pc' Ls (.int (x &&& y) :: S)) Q) : Go p l e R s m args below meth c n0 h ce sl (mkF m pc Ls (.int y :: .int x :: S)) Q := by
  subst hp; exact one (fun T L X _ t => Jvm.Free.XS.iand X.here K.1 rfl (hb K.2.2.2.1 hd) rfl) q
theorem ior (K : Cx Z own nm bytes ml ret p s m meth c) {x y : Int32} (hd : decode bytes pc = .ok (.ior, 1)) (hp : pc + 1 = pc') (q : Go p l e R s m args below meth c n0 h ce sl (mkF m pc' Ls (.int (x ||| y) :: S)) Q) : Go p l e R s m args below meth c n0 h ce sl (mkF m pc Ls (.int y :: .int x :: S)) Q := by
  subst hp; exact one (fun T L X _ t => Jvm.Free.XT.ior X.here K.1 rfl (hb K.2.2.2.1 hd) rfl) q
theorem ixor (K : Cx Z own nm bytes ml ret p s m meth c) {x y : Int32} (hd : decode bytes pc = .ok (.ixor, 1)) (hp : pc + 1 = pc') (q : Go p l e R s m args below meth c n0 h ce sl (mkF m pc' Ls (.int (x ^^^ y) :: S)) Q) : Go p l e R s m args below meth c n0 h ce sl (mkF m pc Ls (.int y :: .int x :: S)) Q := by
  subst hp; exact one (fun T L X _ t => Jvm.Free.XT.ixor X.here K.1 rfl (hb K.2.2.2.1 hd) rfl) q
theorem ishl (K : Cx Z own nm bytes ml ret p s m meth c) {x y : Int32} (hd : decode bytes pc = .ok (.ishl, 1)) (hp : pc + 1 = pc') (q : Go p l e R s m args below meth c n0 h ce sl (mkF m pc' Ls (.int (x <<< (y &&& 31)) :: S)) Q) : Go p l e R s m args below meth c n0 h ce sl (mkF m pc Ls (.int y :: .int x :: S)) Q := by
  subst hp; exact one (fun T L X _ t => Jvm.Free.XT.ishl X.here K.1 rfl (hb K.2.2.2.1 hd) rfl) q
theorem ishr (K : Cx Z own nm bytes ml ret p s m meth c) {x y : Int32} (hd : decode bytes pc = .ok (.ishr, 1)) (hp : pc + 1 = pc') (q : Go p l e R s m args below meth c n0 h ce sl (mkF m pc' Ls (.int (x >>> (y &&& 31)) :: S)) Q) : Go p l e R s m args below meth c n0 h ce sl (mkF m pc Ls (.int y :: .int x :: S)) Q := by
  subst hp; exact one (fun T L X _ t => Jvm.Free.XT.ishr X.here K.1 rfl (hb K.2.2.2.1 hd) rfl) q
theorem iushr (K : Cx Z own nm bytes ml ret p s m meth c) {x y : Int32} (hd : decode bytes pc = .ok (.iushr, 1)) (hp : pc + 1 = pc') (q : Go p l e R s m args below meth c n0 h ce sl (mkF m pc' Ls (.int ((x.toUInt32 >>> (y &&& 31).toUInt32).toInt32) :: S)) Q) : Go p l e R s m args below meth c n0 h ce sl (mkF m pc Ls (.int y :: .int x :: S)) Q := by
  subst hp; exact one (fun T L X _ t => Jvm.Free.XT.iushr X.here K.1 rfl (hb K.2.2.2.1 hd) rfl) q
theorem irem_mod (x y : Int32) : x - (x / y) * y = x % y := by
  apply Int32.toInt_inj.mp
  have h1 := Int32.le_toInt (x % y)
  have h2 := Int32.toInt_lt (x % y)
  rw [Int32.toInt_sub, Int32.toInt_mul, Int32.toInt_div, Int.bmod_mul_bmod, Int.sub_bmod_bmod, Int.mul_comm (x.toInt.tdiv y.toInt), ← Int.tmod_def, ← Int32.toInt_mod]
  exact Int.bmod_eq_of_le_mul_two (by omega) (by omega)
theorem irem (K : Cx Z own nm bytes ml ret p s m meth c) {x y : Int32} (hd : decode bytes pc = .ok (.irem, 1)) (hy : y ≠ 0) (hp : pc + 1 = pc') (q : Go p l e R s m args below meth c n0 h ce sl (mkF m pc' Ls (.int (x % y) :: S)) Q) : Go p l e R s m args below meth c n0 h ce sl (mkF m pc Ls (.int y :: .int x :: S)) Q := by
  subst hp; rw [← irem_mod] at q; exact one (fun T L X _ t => Jvm.Free.XS.irem X.here K.1 rfl (hb K.2.2.2.1 hd) rfl hy) q
theorem idiv (K : Cx Z own nm bytes ml ret p s m meth c) {x y : Int32} (hd : decode bytes pc = .ok (.idiv, 1)) (hy : y ≠ 0) (hp : pc + 1 = pc') (q : Go p l e R s m args below meth c n0 h ce sl (mkF m pc' Ls (.int (x / y) :: S)) Q) : Go p l e R s m args below meth c n0 h ce sl (mkF m pc Ls (.int y :: .int x :: S)) Q := by
  subst hp; exact one (fun T L X _ t => Jvm.Free.XS.idiv X.here K.1 rfl (hb K.2.2.2.1 hd) rfl hy) q
theorem ladd (K : Cx Z own nm bytes ml ret p s m meth c) {x y : Int64} (hd : decode bytes pc = .ok (.ladd, 1)) (hp : pc + 1 = pc') (q : Go p l e R s m args below meth c n0 h ce sl (mkF m pc' Ls (.long (x + y) :: S)) Q) : Go p l e R s m args below meth c n0 h ce sl (mkF m pc Ls (.long y :: .long x :: S)) Q := by
  subst hp; exact one (fun T L X _ t => Jvm.Free.XT.ladd X.here K.1 rfl (hb K.2.2.2.1 hd) rfl) q
theorem lsub (K : Cx Z own nm bytes ml ret p s m meth c) {x y : Int64} (hd : decode bytes pc = .ok (.lsub, 1)) (hp : pc + 1 = pc') (q : Go p l e R s m args below meth c n0 h ce sl (mkF m pc' Ls (.long (x - y) :: S)) Q) : Go p l e R s m args below meth c n0 h ce sl (mkF m pc Ls (.long y :: .long x :: S)) Q := by
  subst hp; exact one (fun T L X _ t => Jvm.Free.XT.lsub X.here K.1 rfl (hb K.2.2.2.1 hd) rfl) q
theorem lmul (K : Cx Z own nm bytes ml ret p s m meth c) {x y : Int64} (hd : decode bytes pc = .ok (.lmul, 1)) (hp : pc + 1 = pc') (q : Go p l e R s m args below meth c n0 h ce sl (mkF m pc' Ls (.long (x * y) :: S)) Q) : Go p l e R s m args below meth c n0 h ce sl (mkF m pc Ls (.long y :: .long x :: S)) Q := by
  subst hp; exact one (fun T L X _ t => Jvm.Free.XT.lmul X.here K.1 rfl (hb K.2.2.2.1 hd) rfl) q
theorem land (K : Cx Z own nm bytes ml ret p s m meth c) {x y : Int64} (hd : decode bytes pc = .ok (.land, 1)) (hp : pc + 1 = pc') (q : Go p l e R s m args below meth c n0 h ce sl (mkF m pc' Ls (.long (x &&& y) :: S)) Q) : Go p l e R s m args below meth c n0 h ce sl (mkF m pc Ls (.long y :: .long x :: S)) Q := by
  subst hp; exact one (fun T L X _ t => Jvm.Free.XT.land X.here K.1 rfl (hb K.2.2.2.1 hd) rfl) q
theorem lor (K : Cx Z own nm bytes ml ret p s m meth c) {x y : Int64} (hd : decode bytes pc = .ok (.lor, 1)) (hp : pc + 1 = pc') (q : Go p l e R s m args below meth c n0 h ce sl (mkF m pc' Ls (.long (x ||| y) :: S)) Q) : Go p l e R s m args below meth c n0 h ce sl (mkF m pc Ls (.long y :: .long x :: S)) Q := by
  subst hp; exact one (fun T L X _ t => Jvm.Free.XT.lor X.here K.1 rfl (hb K.2.2.2.1 hd) rfl) q
theorem lxor (K : Cx Z own nm bytes ml ret p s m meth c) {x y : Int64} (hd : decode bytes pc = .ok (.lxor, 1)) (hp : pc + 1 = pc') (q : Go p l e R s m args below meth c n0 h ce sl (mkF m pc' Ls (.long (x ^^^ y) :: S)) Q) : Go p l e R s m args below meth c n0 h ce sl (mkF m pc Ls (.long y :: .long x :: S)) Q := by
  subst hp; exact one (fun T L X _ t => Jvm.Free.XT.lxor X.here K.1 rfl (hb K.2.2.2.1 hd) rfl) q
theorem lshl (K : Cx Z own nm bytes ml ret p s m meth c) {x : Int64} {y : Int32} (hd : decode bytes pc = .ok (.lshl, 1)) (hp : pc + 1 = pc') (q : Go p l e R s m args below meth c n0 h ce sl (mkF m pc' Ls (.long (x <<< (y.toInt64 &&& 63)) :: S)) Q) : Go p l e R s m args below meth c n0 h ce sl (mkF m pc Ls (.int y :: .long x :: S)) Q := by
  subst hp; exact one (fun T L X _ t => Jvm.Free.XT.lshl X.here K.1 rfl (hb K.2.2.2.1 hd) rfl) q
theorem lshr (K : Cx Z own nm bytes ml ret p s m meth c) {x : Int64} {y : Int32} (hd : decode bytes pc = .ok (.lshr, 1)) (hp : pc + 1 = pc') (q : Go p l e R s m args below meth c n0 h ce sl (mkF m pc' Ls (.long (x >>> (y.toInt64 &&& 63)) :: S)) Q) : Go p l e R s m args below meth c n0 h ce sl (mkF m pc Ls (.int y :: .long x :: S)) Q := by
  subst hp; exact one (fun T L X _ t => Jvm.Free.XT.lshr X.here K.1 rfl (hb K.2.2.2.1 hd) rfl) q
theorem lushr (K : Cx Z own nm bytes ml ret p s m meth c) {x : Int64} {y : Int32} (hd : decode bytes pc = .ok (.lushr, 1)) (hp : pc + 1 = pc') (q : Go p l e R s m args below meth c n0 h ce sl (mkF m pc' Ls (.long (XT.ushrL x y) :: S)) Q) : Go p l e R s m args below meth c n0 h ce sl (mkF m pc Ls (.int y :: .long x :: S)) Q := by
  subst hp; exact one (fun T L X _ t => Jvm.Free.XT.lushr X.here K.1 rfl (hb K.2.2.2.1 hd) rfl) q
theorem ldiv (K : Cx Z own nm bytes ml ret p s m meth c) {x y : Int64} (hd : decode bytes pc = .ok (.ldiv, 1)) (hy : y ≠ 0) (hp : pc + 1 = pc') (q : Go p l e R s m args below meth c n0 h ce sl (mkF m pc' Ls (.long (x / y) :: S)) Q) : Go p l e R s m args below meth c n0 h ce sl (mkF m pc Ls (.long y :: .long x :: S)) Q := by
  subst hp; exact one (fun T L X _ t => Jvm.Free.XT.ldiv X.here K.1 rfl (hb K.2.2.2.1 hd) rfl hy) q
theorem lrem (K : Cx Z own nm bytes ml ret p s m meth c) {x y : Int64} (hd : decode bytes pc = .ok (.lrem, 1)) (hy : y ≠ 0) (hp : pc + 1 = pc') (q : Go p l e R s m args below meth c n0 h ce sl (mkF m pc' Ls (.long (x % y) :: S)) Q) : Go p l e R s m args below meth c n0 h ce sl (mkF m pc Ls (.long y :: .long x :: S)) Q := by
  subst hp; rw [← lrem_mod] at q; exact one (fun T L X _ t => Jvm.Free.XT.lrem X.here K.1 rfl (hb K.2.2.2.1 hd) rfl hy) q
theorem lcmp (K : Cx Z own nm bytes ml ret p s m meth c) {x y : Int64} (hd : decode bytes pc = .ok (.lcmp, 1)) (hp : pc + 1 = pc') (q : Go p l e R s m args below meth c n0 h ce sl (mkF m pc' Ls (.int (XT.cmpL x y) :: S)) Q) : Go p l e R s m args below meth c n0 h ce sl (mkF m pc Ls (.long y :: .long x :: S)) Q := by
  subst hp; exact one (fun T L X _ t => Jvm.Free.XT.lcmp X.here K.1 rfl (hb K.2.2.2.1 hd) rfl) q
theorem i2l (K : Cx Z own nm bytes ml ret p s m meth c) {x : Int32} (hd : decode bytes pc = .ok (.i2l, 1)) (hp : pc + 1 = pc') (q : Go p l e R s m args below meth c n0 h ce sl (mkF m pc' Ls (.long x.toInt64 :: S)) Q) : Go p l e R s m args below meth c n0 h ce sl (mkF m pc Ls (.int x :: S)) Q := by
  subst hp; exact one (fun T L X _ t => Jvm.Free.XT.i2l X.here K.1 rfl (hb K.2.2.2.1 hd) rfl) q
theorem l2i (K : Cx Z own nm bytes ml ret p s m meth c) {x : Int64} (hd : decode bytes pc = .ok (.l2i, 1)) (hp : pc + 1 = pc') (q : Go p l e R s m args below meth c n0 h ce sl (mkF m pc' Ls (.int x.toInt32 :: S)) Q) : Go p l e R s m args below meth c n0 h ce sl (mkF m pc Ls (.long x :: S)) Q := by
  subst hp; exact one (fun T L X _ t => Jvm.Free.XT.l2i X.here K.1 rfl (hb K.2.2.2.1 hd) rfl) q
theorem i2c (K : Cx Z own nm bytes ml ret p s m meth c) {x : Int32} (hd : decode bytes pc = .ok (.i2c, 1)) (hp : pc + 1 = pc') (q : Go p l e R s m args below meth c n0 h ce sl (mkF m pc' Ls (.int x.toUInt32.toUInt16.toUInt32.toInt32 :: S)) Q) : Go p l e R s m args below meth c n0 h ce sl (mkF m pc Ls (.int x :: S)) Q := by
  subst hp; exact one (fun T L X _ t => Jvm.Free.XT.i2c X.here K.1 rfl (hb K.2.2.2.1 hd) rfl) q
theorem i2b (K : Cx Z own nm bytes ml ret p s m meth c) {x : Int32} (hd : decode bytes pc = .ok (.i2b, 1)) (hp : pc + 1 = pc') (q : Go p l e R s m args below meth c n0 h ce sl (mkF m pc' Ls (.int x.toInt8.toInt32 :: S)) Q) : Go p l e R s m args below meth c n0 h ce sl (mkF m pc Ls (.int x :: S)) Q := by
  subst hp; exact one (fun T L X _ t => Jvm.Free.XT.i2b X.here K.1 rfl (hb K.2.2.2.1 hd) rfl) q
theorem i2d (K : Cx Z own nm bytes ml ret p s m meth c) {x : Int32} (hd : decode bytes pc = .ok (.i2d, 1)) (hp : pc + 1 = pc') (q : Go p l e R s m args below meth c n0 h ce sl (mkF m pc' Ls (.double (FP.i2d x) :: S)) Q) : Go p l e R s m args below meth c n0 h ce sl (mkF m pc Ls (.int x :: S)) Q := by
  subst hp; exact one (fun T L X _ t => Jvm.Free.XS.i2dS X.here K.1 rfl (hb K.2.2.2.1 hd) rfl rfl) q
theorem l2d (K : Cx Z own nm bytes ml ret p s m meth c) {x : Int64} (hd : decode bytes pc = .ok (.l2d, 1)) (hp : pc + 1 = pc') (q : Go p l e R s m args below meth c n0 h ce sl (mkF m pc' Ls (.double (FP.l2d x) :: S)) Q) : Go p l e R s m args below meth c n0 h ce sl (mkF m pc Ls (.long x :: S)) Q := by
  subst hp; exact one (fun T L X _ t => Jvm.Free.XS.l2dS X.here K.1 rfl (hb K.2.2.2.1 hd) rfl rfl) q
theorem d2l (K : Cx Z own nm bytes ml ret p s m meth c) {x : UInt64} (hd : decode bytes pc = .ok (.d2l, 1)) (hp : pc + 1 = pc') (q : Go p l e R s m args below meth c n0 h ce sl (mkF m pc' Ls (.long (FP.d2l x) :: S)) Q) : Go p l e R s m args below meth c n0 h ce sl (mkF m pc Ls (.double x :: S)) Q := by
  subst hp; exact one (fun T L X _ t => Jvm.Free.XS.d2lS X.here K.1 rfl (hb K.2.2.2.1 hd) rfl rfl) q
theorem d2i (K : Cx Z own nm bytes ml ret p s m meth c) {x : UInt64} (hd : decode bytes pc = .ok (.d2i, 1)) (hp : pc + 1 = pc') (q : Go p l e R s m args below meth c n0 h ce sl (mkF m pc' Ls (.int (FP.d2i x) :: S)) Q) : Go p l e R s m args below meth c n0 h ce sl (mkF m pc Ls (.double x :: S)) Q := by
  subst hp; exact one (fun T L X _ t => Jvm.Free.XS.d2iS X.here K.1 rfl (hb K.2.2.2.1 hd) rfl rfl) q
theorem dadd (K : Cx Z own nm bytes ml ret p s m meth c) {x y : UInt64} (hd : decode bytes pc = .ok (.dadd, 1)) (hn : Jvm.Free.Fl.NoNaN64 (FP.dadd x y)) (hp : pc + 1 = pc') (q : Go p l e R s m args below meth c n0 h ce sl (mkF m pc' Ls (.double (FP.dadd x y) :: S)) Q) : Go p l e R s m args below meth c n0 h ce sl (mkF m pc Ls (.double y :: .double x :: S)) Q := by
  subst hp; exact one (fun T L X _ t => Jvm.Free.XS.daddS X.here K.1 rfl (hb K.2.2.2.1 hd) rfl hn rfl) q
theorem dsub (K : Cx Z own nm bytes ml ret p s m meth c) {x y : UInt64} (hd : decode bytes pc = .ok (.dsub, 1)) (hn : Jvm.Free.Fl.NoNaN64 (FP.dsub x y)) (hp : pc + 1 = pc') (q : Go p l e R s m args below meth c n0 h ce sl (mkF m pc' Ls (.double (FP.dsub x y) :: S)) Q) : Go p l e R s m args below meth c n0 h ce sl (mkF m pc Ls (.double y :: .double x :: S)) Q := by
  subst hp; exact one (fun T L X _ t => Jvm.Free.XS.dsubS X.here K.1 rfl (hb K.2.2.2.1 hd) rfl hn rfl) q
theorem dmul (K : Cx Z own nm bytes ml ret p s m meth c) {x y : UInt64} (hd : decode bytes pc = .ok (.dmul, 1)) (hn : Jvm.Free.Fl.NoNaN64 (FP.dmul x y)) (hp : pc + 1 = pc') (q : Go p l e R s m args below meth c n0 h ce sl (mkF m pc' Ls (.double (FP.dmul x y) :: S)) Q) : Go p l e R s m args below meth c n0 h ce sl (mkF m pc Ls (.double y :: .double x :: S)) Q := by
  subst hp; exact one (fun T L X _ t => Jvm.Free.XS.dmulS X.here K.1 rfl (hb K.2.2.2.1 hd) rfl hn rfl) q
theorem ddiv (K : Cx Z own nm bytes ml ret p s m meth c) {x y : UInt64} (hd : decode bytes pc = .ok (.ddiv, 1)) (hn : Jvm.Free.Fl.NoNaN64 (FP.ddiv x y)) (hp : pc + 1 = pc') (q : Go p l e R s m args below meth c n0 h ce sl (mkF m pc' Ls (.double (FP.ddiv x y) :: S)) Q) : Go p l e R s m args below meth c n0 h ce sl (mkF m pc Ls (.double y :: .double x :: S)) Q := by
  subst hp; exact one (fun T L X _ t => Jvm.Free.XS.ddivS X.here K.1 rfl (hb K.2.2.2.1 hd) rfl hn rfl) q
theorem dcmp (K : Cx Z own nm bytes ml ret p s m meth c) {o : CmpOp} {x y : UInt64} (hd : decode bytes pc = .ok (.dcmp o, 1)) (hp : pc + 1 = pc') (q : Go p l e R s m args below meth c n0 h ce sl (mkF m pc' Ls (.int (cmpValue (FP.dcmp x y) o) :: S)) Q) : Go p l e R s m args below meth c n0 h ce sl (mkF m pc Ls (.double y :: .double x :: S)) Q := by
  subst hp; exact one (fun T L X _ t => Jvm.Free.XS.dcmpS X.here K.1 rfl (hb K.2.2.2.1 hd) rfl rfl) q
theorem dup (K : Cx Z own nm bytes ml ret p s m meth c) {x : Value} (hd : decode bytes pc = .ok (.dup, 1)) (hc : x.category = 1) (hp : pc + 1 = pc') (q : Go p l e R s m args below meth c n0 h ce sl (mkF m pc' Ls (x :: x :: S)) Q) : Go p l e R s m args below meth c n0 h ce sl (mkF m pc Ls (x :: S)) Q := by
  subst hp; exact one (fun T L X _ t => Jvm.Free.XS.dup X.here K.1 rfl (hb K.2.2.2.1 hd) rfl hc) q
theorem pop (K : Cx Z own nm bytes ml ret p s m meth c) {x : Value} (hd : decode bytes pc = .ok (.pop, 1)) (hc : x.category = 1) (hp : pc + 1 = pc') (q : Go p l e R s m args below meth c n0 h ce sl (mkF m pc' Ls S) Q) : Go p l e R s m args below meth c n0 h ce sl (mkF m pc Ls (x :: S)) Q := by
  subst hp; exact one (fun T L X _ t => Jvm.Free.XT.pop X.here K.1 rfl (hb K.2.2.2.1 hd) rfl hc) q
theorem dupX1 (K : Cx Z own nm bytes ml ret p s m meth c) {x y : Value} (hd : decode bytes pc = .ok (.dup_x1, 1)) (hc : x.category = 1) (hc' : y.category = 1) (hp : pc + 1 = pc') (q : Go p l e R s m args below meth c n0 h ce sl (mkF m pc' Ls (x :: y :: x :: S)) Q) : Go p l e R s m args below meth c n0 h ce sl (mkF m pc Ls (x :: y :: S)) Q := by
  subst hp; exact one (fun T L X _ t => Jvm.Free.XT.dupX1 X.here K.1 rfl (hb K.2.2.2.1 hd) rfl hc hc') q
theorem dup2 (K : Cx Z own nm bytes ml ret p s m meth c) {x y : Value} (hd : decode bytes pc = .ok (.dup2, 1)) (hc : x.category = 1) (hc' : y.category = 1) (hp : pc + 1 = pc') (q : Go p l e R s m args below meth c n0 h ce sl (mkF m pc' Ls (x :: y :: x :: y :: S)) Q) : Go p l e R s m args below meth c n0 h ce sl (mkF m pc Ls (x :: y :: S)) Q := by
  subst hp; exact one (fun T L X _ t => Jvm.Free.XT.dup2 X.here K.1 rfl (hb K.2.2.2.1 hd) rfl hc hc') q
theorem dup2L (K : Cx Z own nm bytes ml ret p s m meth c) {x : Int64} (hd : decode bytes pc = .ok (.dup2, 1)) (hp : pc + 1 = pc') (q : Go p l e R s m args below meth c n0 h ce sl (mkF m pc' Ls (.long x :: .long x :: S)) Q) : Go p l e R s m args below meth c n0 h ce sl (mkF m pc Ls (.long x :: S)) Q := by
  subst hp; exact one (fun T L X _ t => Jvm.Free.XT.dup2L X.here K.1 rfl (hb K.2.2.2.1 hd) rfl) q
theorem goto' (K : Cx Z own nm bytes ml ret p s m meth c) {o : Int} (hd : decode bytes pc = .ok (.goto o, 3)) (ho : 0 ≤ (pc : Int) + o) (hp : ((pc : Int) + o).toNat = pc') (q : Go p l e R s m args below meth c n0 h ce sl (mkF m pc' Ls S) Q) : Go p l e R s m args below meth c n0 h ce sl (mkF m pc Ls S) Q :=
  one (fun T L X _ t => Jvm.Free.XS.goto X.here K.1 rfl rfl (hb K.2.2.2.1 hd) ho hp) q
theorem ifY (K : Cx Z own nm bytes ml ret p s m meth c) {cd : ClassFile.Cond} {o : Int} {x : Int32} (hd : decode bytes pc = .ok (.ifCond cd o, 3)) (hc : ifCond.holds cd x = true) (ho : 0 ≤ (pc : Int) + o) (hp : ((pc : Int) + o).toNat = pc') (q : Go p l e R s m args below meth c n0 h ce sl (mkF m pc' Ls S) Q) : Go p l e R s m args below meth c n0 h ce sl (mkF m pc Ls (.int x :: S)) Q :=
  one (fun T L X _ t => Jvm.Free.XS.ifYes X.here K.1 rfl rfl (hb K.2.2.2.1 hd) rfl hc ho hp) q
theorem ifN (K : Cx Z own nm bytes ml ret p s m meth c) {cd : ClassFile.Cond} {o : Int} {x : Int32} (hd : decode bytes pc = .ok (.ifCond cd o, 3)) (hc : ifCond.holds cd x = false) (hp : pc + 3 = pc') (q : Go p l e R s m args below meth c n0 h ce sl (mkF m pc' Ls S) Q) : Go p l e R s m args below meth c n0 h ce sl (mkF m pc Ls (.int x :: S)) Q := by
  subst hp; exact one (fun T L X _ t => Jvm.Free.XS.ifNo X.here K.1 rfl (hb K.2.2.2.1 hd) rfl hc) q
theorem icY (K : Cx Z own nm bytes ml ret p s m meth c) {cd : ClassFile.Cond} {o : Int} {x y : Int32} (hd : decode bytes pc = .ok (.if_icmp cd o, 3)) (hc : if_icmp.holds cd x y = true) (ho : 0 ≤ (pc : Int) + o) (hp : ((pc : Int) + o).toNat = pc') (q : Go p l e R s m args below meth c n0 h ce sl (mkF m pc' Ls S) Q) : Go p l e R s m args below meth c n0 h ce sl (mkF m pc Ls (.int y :: .int x :: S)) Q :=
  one (fun T L X _ t => Jvm.Free.XS.icmpYes X.here K.1 rfl rfl (hb K.2.2.2.1 hd) rfl hc ho hp) q
theorem icN (K : Cx Z own nm bytes ml ret p s m meth c) {cd : ClassFile.Cond} {o : Int} {x y : Int32} (hd : decode bytes pc = .ok (.if_icmp cd o, 3)) (hc : if_icmp.holds cd x y = false) (hp : pc + 3 = pc') (q : Go p l e R s m args below meth c n0 h ce sl (mkF m pc' Ls S) Q) : Go p l e R s m args below meth c n0 h ce sl (mkF m pc Ls (.int y :: .int x :: S)) Q := by
  subst hp; exact one (fun T L X _ t => Jvm.Free.XS.icmpNo X.here K.1 rfl (hb K.2.2.2.1 hd) rfl hc) q
theorem nullY (K : Cx Z own nm bytes ml ret p s m meth c) {o : Int} (hd : decode bytes pc = .ok (.ifnull o, 3)) (ho : 0 ≤ (pc : Int) + o) (hp : ((pc : Int) + o).toNat = pc') (q : Go p l e R s m args below meth c n0 h ce sl (mkF m pc' Ls S) Q) : Go p l e R s m args below meth c n0 h ce sl (mkF m pc Ls (.null :: S)) Q :=
  one (fun T L X _ t => Jvm.Free.XS.ifnullYes X.here K.1 rfl rfl (hb K.2.2.2.1 hd) rfl ho hp) q
theorem nullN (K : Cx Z own nm bytes ml ret p s m meth c) {o : Int} {b : Addr} (hd : decode bytes pc = .ok (.ifnull o, 3)) (hp : pc + 3 = pc') (q : Go p l e R s m args below meth c n0 h ce sl (mkF m pc' Ls S) Q) : Go p l e R s m args below meth c n0 h ce sl (mkF m pc Ls (.ref b :: S)) Q := by
  subst hp; exact one (fun T L X _ t => Jvm.Free.XS.ifnullNo X.here K.1 rfl (hb K.2.2.2.1 hd) rfl) q
theorem nonnullY (K : Cx Z own nm bytes ml ret p s m meth c) {o : Int} {b : Addr} (hd : decode bytes pc = .ok (.ifnonnull o, 3)) (ho : 0 ≤ (pc : Int) + o) (hp : ((pc : Int) + o).toNat = pc') (q : Go p l e R s m args below meth c n0 h ce sl (mkF m pc' Ls S) Q) : Go p l e R s m args below meth c n0 h ce sl (mkF m pc Ls (.ref b :: S)) Q :=
  one (fun T L X _ t => Jvm.Free.XT.ifnonnullYes X.here K.1 rfl rfl (hb K.2.2.2.1 hd) rfl ho hp) q
theorem nonnullN (K : Cx Z own nm bytes ml ret p s m meth c) {o : Int} (hd : decode bytes pc = .ok (.ifnonnull o, 3)) (hp : pc + 3 = pc') (q : Go p l e R s m args below meth c n0 h ce sl (mkF m pc' Ls S) Q) : Go p l e R s m args below meth c n0 h ce sl (mkF m pc Ls (.null :: S)) Q := by
  subst hp; exact one (fun T L X _ t => Jvm.Free.XT.ifnonnullNo X.here K.1 rfl (hb K.2.2.2.1 hd) rfl) q
theorem acY (K : Cx Z own nm bytes ml ret p s m meth c) {cd : ClassFile.ACond} {o : Int} {x y : Value} (hd : decode bytes pc = .ok (.if_acmp cd o, 3)) (hx : x.isRef = true) (hy : y.isRef = true) (hc : XT.acmp cd x y = true) (ho : 0 ≤ (pc : Int) + o) (hp : ((pc : Int) + o).toNat = pc') (q : Go p l e R s m args below meth c n0 h ce sl (mkF m pc' Ls S) Q) : Go p l e R s m args below meth c n0 h ce sl (mkF m pc Ls (y :: x :: S)) Q :=
  one (fun T L X _ t => Jvm.Free.XT.acmpYes X.here K.1 rfl rfl (hb K.2.2.2.1 hd) rfl hx hy hc ho hp) q
theorem acN (K : Cx Z own nm bytes ml ret p s m meth c) {cd : ClassFile.ACond} {o : Int} {x y : Value} (hd : decode bytes pc = .ok (.if_acmp cd o, 3)) (hx : x.isRef = true) (hy : y.isRef = true) (hc : XT.acmp cd x y = false) (hp : pc + 3 = pc') (q : Go p l e R s m args below meth c n0 h ce sl (mkF m pc' Ls S) Q) : Go p l e R s m args below meth c n0 h ce sl (mkF m pc Ls (y :: x :: S)) Q := by
  subst hp; exact one (fun T L X _ t => Jvm.Free.XT.acmpNo X.here K.1 rfl (hb K.2.2.2.1 hd) rfl hx hy hc) q
theorem ldcI (K : Cx Z own nm bytes ml ret p s m meth c) {i : Nat} {v : Int32} (w : (Cond.constant own i v).before a0 Z = true) (hd : decode bytes pc = .ok (.ldc i, 2)) (hp : pc + 2 = pc') (q : Go p l e R s m args below meth c n0 h ce sl (mkF m pc' Ls (.int v :: S)) Q) : Go p l e R s m args below meth c n0 h ce sl (mkF m pc Ls S) Q := by
  subst hp; exact one (fun T L X _ t => X.ldcI K.1 K.2.2.1 (mvT K.2.1 w) rfl (hb K.2.2.2.1 hd)) q
theorem ldcWI (K : Cx Z own nm bytes ml ret p s m meth c) {i : Nat} {v : Int32} (w : (Cond.constant own i v).before a0 Z = true) (hd : decode bytes pc = .ok (.ldc_w i, 3)) (hp : pc + 3 = pc') (q : Go p l e R s m args below meth c n0 h ce sl (mkF m pc' Ls (.int v :: S)) Q) : Go p l e R s m args below meth c n0 h ce sl (mkF m pc Ls S) Q := by
  subst hp; exact one (fun T L X _ t => X.ldcWI K.1 K.2.2.1 (mvT K.2.1 w) rfl (hb K.2.2.2.1 hd)) q
theorem ldc2J (K : Cx Z own nm bytes ml ret p s m meth c) {i : Nat} {v : Int64} (w : (Cond.constantLong own i v).before a0 Z = true) (hd : decode bytes pc = .ok (.ldc2_w i, 3)) (hp : pc + 3 = pc') (q : Go p l e R s m args below meth c n0 h ce sl (mkF m pc' Ls (.long v :: S)) Q) : Go p l e R s m args below meth c n0 h ce sl (mkF m pc Ls S) Q := by
  subst hp; exact one (fun T L X _ t => X.ldc2J K.1 K.2.2.1 (mvT K.2.1 w) rfl (hb K.2.2.2.1 hd)) q
theorem ldc2D (K : Cx Z own nm bytes ml ret p s m meth c) {i : Nat} {v : UInt64} (w : (Cond.constantDouble own i v).before a0 Z = true) (hd : decode bytes pc = .ok (.ldc2_w i, 3)) (hp : pc + 3 = pc') (q : Go p l e R s m args below meth c n0 h ce sl (mkF m pc' Ls (.double v :: S)) Q) : Go p l e R s m args below meth c n0 h ce sl (mkF m pc Ls S) Q := by
  subst hp; exact one (fun T L X _ t => X.ldc2DoubleC K.1 K.2.2.1 (mvT (args := args) K.2.1 w) (g := mkF m pc Ls S) rfl (hb K.2.2.2.1 hd) t) q
theorem getf (K : Cx Z own nm bytes ml ret p s m meth c) {i : Nat} {R0 O n d : String} {a : Addr} {v : Value} (w : (Cond.fieldLink own i R0 n d).before a0 Z = true) (via : Via Z R0 O n d) (F : Fld Z h a O n d v) (hd : decode bytes pc = .ok (.getfield i, 3)) (hp : pc + 3 = pc') (q : Go p l e R s m args below meth c n0 h ce sl (mkF m pc' Ls (v :: S)) Q) : Go p l e R s m args below meth c n0 h ce sl (mkF m pc Ls (.ref a :: S)) Q := by
  subst hp; exact oneT (fun T L X eT => getF X K.1 K.2.1 K.2.2.1 (host := "") (Or.inl w) via eT F rfl rfl (hb K.2.2.2.1 hd)) q
theorem getfN (K : Cx Z own nm bytes ml ret p s m meth c) {i : Nat} {R0 O n d host : String} {a : Addr} {v : Value} (w : (Cond.fieldLinkNest own i R0 n d host).before a0 Z = true) (via : Via Z R0 O n d) (F : Fld Z h a O n d v) (hd : decode bytes pc = .ok (.getfield i, 3)) (hp : pc + 3 = pc') (q : Go p l e R s m args below meth c n0 h ce sl (mkF m pc' Ls (v :: S)) Q) : Go p l e R s m args below meth c n0 h ce sl (mkF m pc Ls (.ref a :: S)) Q := by
  subst hp; exact oneT (fun T L X eT => getF X K.1 K.2.1 K.2.2.1 (Or.inr w) via eT F rfl rfl (hb K.2.2.2.1 hd)) q
theorem getfR (K : Cx Z own nm bytes ml ret p s m meth c) {i : Nat} {O n d : String} {a : Addr} {v : Value} (w : (Cond.fieldRef own i O n d).before a0 Z = true) (F : Fld Z h a O n d v) (hd : decode bytes pc = .ok (.getfield i, 3)) (hp : pc + 3 = pc') (q : Go p l e R s m args below meth c n0 h ce sl (mkF m pc' Ls (v :: S)) Q) : Go p l e R s m args below meth c n0 h ce sl (mkF m pc Ls (.ref a :: S)) Q := by
  subst hp
  refine one (fun T L X eT t k => ?_) q
  have hT : Z.Warmed39 T.vm := wtrans K.2.1 X.warmed
  obtain ⟨c1, k1, i1, f1, g1, g2⟩ := Cond.fieldRef_spec (s := Z.setVm T.vm) (cur := m.cls) (by show T.vm.findClass own = _; rw [X.warmed.alike.findClass]; exact K.2.2.1) (Cond.fieldRef_warmed39 hT w)
  obtain ⟨cell, cf, kf, i2, f2, h1, h2, h3, h4, -, -, h7⟩ := F
  obtain ⟨k', hi, -⟩ := State.fieldFound?_setVm (s := Z) hT.alike h2
  cases g1.symm.trans hi
  exact (X.getfieldR K.1 (g := mkF m pc Ls (.ref a :: S)) rfl g2 h3 rfl (by rw [eT]; exact h1) h4 h7 (hb K.2.2.2.1 hd) (Steps.refl _)).trans k
theorem gets (K : Cx Z own nm bytes ml ret p s m meth c) {i : Nat} {R0 O n d : String} {v : Value} (w : (Cond.fieldLink own i R0 n d).before a0 Z = true) (via : Via Z R0 O n d) (F : Sta Z h O n d v) (hd : decode bytes pc = .ok (.getstatic i, 3)) (hp : pc + 3 = pc') (q : Go p l e R s m args below meth c n0 h ce sl (mkF m pc' Ls (v :: S)) Q) : Go p l e R s m args below meth c n0 h ce sl (mkF m pc Ls S) Q := by
  subst hp; exact oneT (fun T L X eT => getS X K.1 K.2.1 K.2.2.1 (host := "") w via eT F rfl (hb K.2.2.2.1 hd)) q
theorem putf (K : Cx Z own nm bytes ml ret p s m meth c) {i kk : Nat} {R0 O n d C : String} {ty : FieldType} {a : Addr} {v old : Value} (w : (Cond.fieldLink own i R0 n d).before a0 Z = true) (via : Via Z R0 O n d) (F : Fld Z h a O n d old) (E : Exa Z h a C) (L : (Cond.lays C O n d).before a0 Z = true ∨ ((Cond.laysFinal C O n d).before a0 Z = true ∧ own = O ∧ nm = "<init>")) (wi : (Cond.instantiable C kk).before a0 Z = true) (hty : parseFieldDescriptor d = some ty) (hn : narrow ty v = v) (hf : fits ty v = true) (ga : n0 ≤ a) (hd : decode bytes pc = .ok (.putfield i, 3)) (hp : pc + 3 = pc') (q : ∀ h', Wr h h' a (Jvm.RoadKit.slotOf Z O n d) v → Go p l e R s m args below meth c n0 h' ce sl (mkF m pc' Ls S) Q) : Go p l e R s m args below meth c n0 h ce sl (mkF m pc Ls (v :: .ref a :: S)) Q := by
  subst hp
  intro T L0 X N eT
  obtain ⟨T', h', X', e', W, st⟩ := putF X K.1 K.2.1 K.2.2.1 (host := "") (Or.inl w) via eT F E (L.imp id fun ⟨a, b, c⟩ => ⟨a, b, K.2.2.2.2.2.2.2.trans c⟩) wi hty hn hf (g := mkF m pc Ls (v :: .ref a :: S)) rfl rfl (hb K.2.2.2.1 hd)
  obtain ⟨s₂, u, L', a1, r⟩ := q h' W T' _ X' (Fr.snoc X' N ga) e'
  exact ⟨s₂, u, L', st _ a1, r⟩
theorem newObj (K : Cx Z own nm bytes ml ret p s m meth c) {i n : Nat} {C : String} (w : (Cond.classLink own i C).before a0 Z = true) (wi : (Cond.instantiable C n).before a0 Z = true) (wz : (Cond.initialized C).before a0 Z = true) (hd : decode bytes pc = .ok (.new i, 3)) (hc : ce + 1 ≤ R.cells) (hl : sl + n ≤ R.slots) (hp : pc + 3 = pc') (q : ∀ h' x, x = h.size → Ext h h' → Exa Z h' x C → (∀ {O nm d : String} {ty : FieldType}, Laid Z a0 C O nm d → parseFieldDescriptor d = some ty → Fld Z h' x O nm d (defaultValue ty)) → Go p l e R s m args below meth c n0 h' (ce + 1) (sl + n) (mkF m pc' Ls (.ref x :: S)) Q) : Go p l e R s m args below meth c n0 h ce sl (mkF m pc Ls S) Q := by
  subst hp
  intro T L0 X N eT
  obtain ⟨T', h', X', e', E, A, D, -, st⟩ := newO X K.1 K.2.1 K.2.2.1 w wi wz eT (g := mkF m pc Ls S) rfl (hb K.2.2.2.1 hd) hc hl
  obtain ⟨s₂, u, L', a1, r⟩ := q h' h.size rfl E A D T' _ X' N e'
  exact ⟨s₂, u, L', st _ a1, r⟩
theorem initObj (K : Cx Z own nm bytes ml ret p s m meth c) {i : Nat} {a : Addr} (w1 : (Cond.methodLink own i Lib.objectInit).before a0 Z = true) (w2 : (Cond.instanceMethod Lib.objectInit).before a0 Z = true) (w3 : (Cond.code Lib.objectInit ⟨#[0xb1]⟩ 1 none).before a0 Z = true) (hd : decode bytes pc = .ok (.invokespecial i, 3)) (hz : Ls.size = ml) (hf : 1 ≤ R.frames) (hW : (S.map fun v => v.category).sum + 12 ≤ R.locals) (hp : pc + 3 = pc') (q : Go p l e R s m args below meth c n0 h ce sl (mkF m pc' Ls S) Q) : Go p l e R s m args below meth c n0 h ce sl (mkF m pc Ls (.ref a :: S)) Q := by
  subst hp; exact oneT (fun T L X eT => initO X K.1 K.2.1 K.2.2.1 w1 w2 w3 eT rfl (hz.trans K.2.2.2.2.1.symm) rfl (hb K.2.2.2.1 hd) hf (W := (S.map fun v => v.category).sum) (by show 2 * 0 + _ ≤ _; omega) hW) q
/-- a private method's own 'selects' -/
theorem priv_sel {s : State} {args : Array Value} {y : MethodName} {kk : Nat} (wi : (Cond.instantiable y.cls kk).before args s = true) (hpriv : s.PrivateAt y) (hinst : (Cond.instanceMethod y).before args s = true) (hy : y.cls ≠ "java/lang/invoke/MethodHandle" ∧ y.cls ≠ "java/lang/invoke/VarHandle") : (Cond.selects y.cls y y).before args s = true := by
  obtain ⟨c2, k2, i1, i2, i3, i4⟩ := Cond.instantiable_spec wi
  exact selects_self_of_private i1 i2 (Bool.or_eq_false_iff.mp i4.1).1 hpriv hinst hy
/-! calls -/
theorem back {W len : Nat} {y : MethodName} {by' : ByteArray} {ml' : Nat} {ret' : Option FieldType} {rm : Room} {as' : Array Value} {Q' : Option Value → Heap → Prop} (K : Cx Z own nm bytes ml ret p s m meth c) (C : Ctr l Z y by' ml' ret' [] rm n0 as' h Q') (wc : (Cond.code y by' ml' ret').before a0 Z = true) (wz : (Cond.initialized y.cls).before a0 Z = true) (hf : rm.frames + 1 ≤ R.frames) (hl : W + (ml' + 11) + rm.locals ≤ R.locals) :
    Back l R p e below s args y len W (fun A a => a = as' ∧ A.U.heap = h ∧ A.cells + rm.cells ≤ R.cells ∧ A.slots + rm.slots ≤ R.slots) (fun A _ v B => ∃ L, (Q' v B.U.heap ∧ Fr n0 L) ∧ B.locs = A.locs ++ L ∧ B.cells = A.cells + rm.cells ∧ B.slots = A.slots + rm.slots) :=
  backOf (Q := fun v h L => Q' v h ∧ Fr n0 L) C K.2.1 wc wz hf hl
theorem callStatic (K : Cx Z own nm bytes ml ret p s m meth c) {i : Nat} {y : MethodName} {by' : ByteArray} {ml' : Nat} {ret' : Option FieldType} {rm : Room} {Q' : Option Value → Heap → Prop}  {argsL : List Value} (w1 : (Cond.methodLink own i y).before a0 Z = true) (w2 : (Cond.static y).before a0 Z = true) (wz : (Cond.initialized y.cls).before a0 Z = true) (wc : (Cond.code y by' ml' ret').before a0 Z = true) (hy : y.cls ≠ "java/lang/invoke/MethodHandle" ∧ y.cls ≠ "java/lang/invoke/VarHandle") (Cc : Ctr l Z y by' ml' ret' [] rm n0 argsL.toArray h Q') (hlen : ∀ sig, parseMethodDescriptor y.desc = some sig → argsL.length = sig.parameters.length) (hd : decode bytes pc = .ok (.invokestatic i, 3)) (hz : Ls.size = ml) (hf : rm.frames + 1 ≤ R.frames) (hW : (S.map fun v => v.category).sum + (ml' + 11) + rm.locals ≤ R.locals) (hc : ce + rm.cells ≤ R.cells) (hsl : sl + rm.slots ≤ R.slots) {st : List Value} (hst : st = (argsL.reverse ++ S)) (hp : pc + 3 = pc') (q : ∀ v h', Q' v h' → Go p l e R s m args below meth c n0 h' (ce + rm.cells) (sl + rm.slots) (mkF m pc' Ls (v.toList ++ S)) Q) : Go p l e R s m args below meth c n0 h ce sl (mkF m pc Ls st) Q := by
  subst hp hst
  intro T L0 X N eT
  obtain ⟨v, _, ⟨T', L1, k1, n1⟩, -, X', ⟨Lc, hQ, l', y', z'⟩, st'⟩ := Jvm.LawKit.callS X K.1 K.2.2.1 (mvT K.2.1 w1) (mvT K.2.1 w2) (mvT K.2.1 wz) (mvT K.2.1 wc) hy (back (W := (S.map fun v => v.category).sum) K Cc wc wz hf hW) (g := mkF m pc Ls (argsL.reverse ++ S)) rfl (hz.trans K.2.2.2.2.1.symm) (argsL := argsL) (rest := S) hlen rfl (by show 2 * 0 + _ ≤ _; omega) (hb K.2.2.2.1 hd) (fun _ _ => ⟨rfl, eT, hc, hsl⟩)
  dsimp only [Pt.U, Pt.locs, Pt.cells, Pt.slots] at X' l' y' z' st'
  subst l' y' z'
  obtain ⟨s₂, u, L', a1, r⟩ := q v _ hQ.1 T' _ X' (Fr.app N hQ.2) rfl
  exact ⟨s₂, u, L', st' _ a1, r⟩
theorem callInit (K : Cx Z own nm bytes ml ret p s m meth c) {i : Nat} {y : MethodName} {by' : ByteArray} {ml' : Nat} {ret' : Option FieldType} {rm : Room} {Q' : Option Value → Heap → Prop} {b : Addr} {argsL : List Value} (hy1 : y.name = "<init>") (w1 : (Cond.methodLink own i y).before a0 Z = true) (w2 : (Cond.instanceMethod y).before a0 Z = true) (wz : (Cond.initialized y.cls).before a0 Z = true) (wc : (Cond.code y by' ml' none).before a0 Z = true) (hr : ret' = none) (hy : y.cls ≠ "java/lang/invoke/MethodHandle" ∧ y.cls ≠ "java/lang/invoke/VarHandle") (Cc : Ctr l Z y by' ml' ret' [] rm n0 (.ref b :: argsL).toArray h Q') (hlen : ∀ sig, parseMethodDescriptor y.desc = some sig → argsL.length = sig.parameters.length) (hd : decode bytes pc = .ok (.invokespecial i, 3)) (hz : Ls.size = ml) (hf : rm.frames + 1 ≤ R.frames) (hW : (S.map fun v => v.category).sum + (ml' + 11) + rm.locals ≤ R.locals) (hc : ce + rm.cells ≤ R.cells) (hsl : sl + rm.slots ≤ R.slots) {st : List Value} (hst : st = (argsL.reverse ++ .ref b :: S)) (hp : pc + 3 = pc') (q : ∀ v h', Q' v h' → Go p l e R s m args below meth c n0 h' (ce + rm.cells) (sl + rm.slots) (mkF m pc' Ls (v.toList ++ S)) Q) : Go p l e R s m args below meth c n0 h ce sl (mkF m pc Ls st) Q := by
  subst hp hst
  intro T L0 X N eT
  subst hr
  obtain ⟨v, _, ⟨T', L1, k1, n1⟩, -, X', ⟨Lc, hQ, l', y', z'⟩, st'⟩ := X.specialBack K.1 hy1 K.2.2.1 (mvT K.2.1 w1) (mvT K.2.1 w2) (mvT K.2.1 wc) hy (back (W := (S.map fun v => v.category).sum) K Cc wc wz hf hW) (g := mkF m pc Ls (argsL.reverse ++ .ref b :: S)) rfl (hz.trans K.2.2.2.2.1.symm) (Steps.refl _) (a := b) (argsL := argsL) (rest := S) hlen rfl (by show 2 * 0 + _ ≤ _; omega) (hb K.2.2.2.1 hd) (fun _ _ => ⟨rfl, eT, hc, hsl⟩)
  dsimp only [Pt.U, Pt.locs, Pt.cells, Pt.slots] at X' l' y' z' st'
  subst l' y' z'
  obtain ⟨s₂, u, L', a1, r⟩ := q v _ hQ.1 T' _ X' (Fr.app N hQ.2) rfl
  exact ⟨s₂, u, L', st'.trans a1, r⟩
theorem callInitNest (K : Cx Z own nm bytes ml ret p s m meth c) {i : Nat} {y : MethodName} {by' : ByteArray} {ml' : Nat} {ret' : Option FieldType} {rm : Room} {Q' : Option Value → Heap → Prop} {b : Addr} {argsL : List Value} {host : String} (hy1 : y.name = "<init>") (w1 : (Cond.methodLinkNest own i y host).before a0 Z = true) (w2 : (Cond.instanceMethod y).before a0 Z = true) (wz : (Cond.initialized y.cls).before a0 Z = true) (wc : (Cond.code y by' ml' none).before a0 Z = true) (hr : ret' = none) (hy : y.cls ≠ "java/lang/invoke/MethodHandle" ∧ y.cls ≠ "java/lang/invoke/VarHandle") (Cc : Ctr l Z y by' ml' ret' [] rm n0 (.ref b :: argsL).toArray h Q') (hlen : ∀ sig, parseMethodDescriptor y.desc = some sig → argsL.length = sig.parameters.length) (hd : decode bytes pc = .ok (.invokespecial i, 3)) (hz : Ls.size = ml) (hf : rm.frames + 1 ≤ R.frames) (hW : (S.map fun v => v.category).sum + (ml' + 11) + rm.locals ≤ R.locals) (hc : ce + rm.cells ≤ R.cells) (hsl : sl + rm.slots ≤ R.slots) {st : List Value} (hst : st = (argsL.reverse ++ .ref b :: S)) (hp : pc + 3 = pc') (q : ∀ v h', Q' v h' → Go p l e R s m args below meth c n0 h' (ce + rm.cells) (sl + rm.slots) (mkF m pc' Ls (v.toList ++ S)) Q) : Go p l e R s m args below meth c n0 h ce sl (mkF m pc Ls st) Q := by
  subst hp hst
  intro T L0 X N eT
  subst hr
  obtain ⟨v, _, ⟨T', L1, k1, n1⟩, -, X', ⟨Lc, hQ, l', y', z'⟩, st'⟩ := X.specialBackNest K.1 hy1 K.2.2.1 (Cond.methodLinkNest_wide K.2.1 w1 :) (mvT K.2.1 w2) (mvT K.2.1 wc) hy (back (W := (S.map fun v => v.category).sum) K Cc wc wz hf hW) (g := mkF m pc Ls (argsL.reverse ++ .ref b :: S)) rfl (hz.trans K.2.2.2.2.1.symm) (Steps.refl _) (a := b) (argsL := argsL) (rest := S) hlen rfl (by show 2 * 0 + _ ≤ _; omega) (hb K.2.2.2.1 hd) (fun _ _ => ⟨rfl, eT, hc, hsl⟩)
  dsimp only [Pt.U, Pt.locs, Pt.cells, Pt.slots] at X' l' y' z' st'
  subst l' y' z'
  obtain ⟨s₂, u, L', a1, r⟩ := q v _ hQ.1 T' _ X' (Fr.app N hQ.2) rfl
  exact ⟨s₂, u, L', st'.trans a1, r⟩
theorem callVirt (K : Cx Z own nm bytes ml ret p s m meth c) {i : Nat} {y : MethodName} {by' : ByteArray} {ml' : Nat} {ret' : Option FieldType} {rm : Room} {Q' : Option Value → Heap → Prop} {b : Addr} {argsL : List Value} {C : String} (w1 : (Cond.methodLink own i y).before a0 Z = true) (w2 : (Cond.declares y).before a0 Z = true) (w3 : (Cond.selects C y y).before a0 Z = true) (w4 : (Cond.instanceMethod y).before a0 Z = true) (wz : (Cond.initialized y.cls).before a0 Z = true) (wc : (Cond.code y by' ml' ret').before a0 Z = true) (hy : y.cls ≠ "java/lang/invoke/MethodHandle" ∧ y.cls ≠ "java/lang/invoke/VarHandle") (E : Exa Z h b C) (Cc : Ctr l Z y by' ml' ret' [] rm n0 (.ref b :: argsL).toArray h Q') (hlen : ∀ sig, parseMethodDescriptor y.desc = some sig → argsL.length = sig.parameters.length) (hd : decode bytes pc = .ok (.invokevirtual i, 3)) (hz : Ls.size = ml) (hf : rm.frames + 1 ≤ R.frames) (hW : (S.map fun v => v.category).sum + (ml' + 11) + rm.locals ≤ R.locals) (hc : ce + rm.cells ≤ R.cells) (hsl : sl + rm.slots ≤ R.slots) {st : List Value} (hst : st = (argsL.reverse ++ .ref b :: S)) (hp : pc + 3 = pc') (q : ∀ v h', Q' v h' → Go p l e R s m args below meth c n0 h' (ce + rm.cells) (sl + rm.slots) (mkF m pc' Ls (v.toList ++ S)) Q) : Go p l e R s m args below meth c n0 h ce sl (mkF m pc Ls st) Q := by
  subst hp hst
  intro T L0 X N eT
  obtain ⟨cq, kq, qa, qb, qc⟩ := isOf K.2.1 eT E
  obtain ⟨v, _, ⟨T', L1, k1, n1⟩, -, X', ⟨Lc, hQ, l', y', z'⟩, st'⟩ := X.virtualBack K.1 (y := y) (z := y) K.2.2.1 (mvT K.2.1 w1) (mvT K.2.1 w2) (notFace_of_selects (args := #[]) (mvT K.2.1 w3)) (mvT K.2.1 w3) (mvT K.2.1 w4) hy (back (W := (S.map fun v => v.category).sum) K Cc wc wz hf hW) qa qc (g := mkF m pc Ls (argsL.reverse ++ .ref b :: S)) rfl (hz.trans K.2.2.2.2.1.symm) (Steps.refl _) (argsL := argsL) (rest := S) hlen rfl (by show 2 * 0 + _ ≤ _; omega) (hb K.2.2.2.1 hd) (fun _ _ => ⟨rfl, eT, hc, hsl⟩)
  dsimp only [Pt.U, Pt.locs, Pt.cells, Pt.slots] at X' l' y' z' st'
  subst l' y' z'
  obtain ⟨s₂, u, L', a1, r⟩ := q v _ hQ.1 T' _ X' (Fr.app N hQ.2) rfl
  exact ⟨s₂, u, L', st'.trans a1, r⟩
theorem callFace (K : Cx Z own nm bytes ml ret p s m meth c) {i cnt : Nat} {y : MethodName} {by' : ByteArray} {ml' : Nat} {ret' : Option FieldType} {rm : Room} {Q' : Option Value → Heap → Prop} {b : Addr} {argsL : List Value} {z : MethodName} {C : String} (w1 : (Cond.methodLink own i y).before a0 Z = true) (w2 : (Cond.declares y).before a0 Z = true) (w5 : (Cond.interfaceMethod y.cls y.cls y.name y.desc).before a0 Z = true) (k5 : ((Cond.interfaceMethod y.cls y.cls y.name y.desc).onTables && (Cond.interfaceMethod y.cls y.cls y.name y.desc).keepsFace) = true) (w3 : (Cond.selects C y z).before a0 Z = true) (w4 : (Cond.instanceMethod z).before a0 Z = true) (w6 : (Cond.publicMethod z).before a0 Z = true) (w7 : (Cond.unhidden C y.name y.desc).before a0 Z = true) (w8 : (Cond.castable C y.cls).before a0 Z = true) (wz : (Cond.initialized z.cls).before a0 Z = true) (wc : (Cond.code z by' ml' ret').before a0 Z = true) (hy : y.cls ≠ "java/lang/invoke/MethodHandle" ∧ y.cls ≠ "java/lang/invoke/VarHandle") (E : Exa Z h b C) (Cc : Ctr l Z z by' ml' ret' [] rm n0 (.ref b :: argsL).toArray h Q') (hlen : ∀ sig, parseMethodDescriptor y.desc = some sig → argsL.length = sig.parameters.length) (hd : decode bytes pc = .ok (.invokeinterface i cnt, 5)) (hz : Ls.size = ml) (hf : rm.frames + 1 ≤ R.frames) (hW : (S.map fun v => v.category).sum + (ml' + 11) + rm.locals ≤ R.locals) (hc : ce + rm.cells ≤ R.cells) (hsl : sl + rm.slots ≤ R.slots) {st : List Value} (hst : st = (argsL.reverse ++ .ref b :: S)) (hp : pc + 5 = pc') (q : ∀ v h', Q' v h' → Go p l e R s m args below meth c n0 h' (ce + rm.cells) (sl + rm.slots) (mkF m pc' Ls (v.toList ++ S)) Q) : Go p l e R s m args below meth c n0 h ce sl (mkF m pc Ls st) Q := by
  subst hp hst
  intro T L0 X N eT
  obtain ⟨cq, kq, qa, qb, qc⟩ := isOf K.2.1 eT E
  obtain ⟨v, _, ⟨T', L1, k1, n1⟩, -, X', ⟨Lc, hQ, l', y', z'⟩, st'⟩ := X.interfaceBack K.1 (xi := y) (y := z) K.2.2.1 (mvT K.2.1 w1) (mvT K.2.1 w2) (mvT K.2.1 w5 k5) (mvT K.2.1 w3) (mvT K.2.1 w4) (mvT K.2.1 w6) (mvT K.2.1 w7) (mvT K.2.1 w8) hy (back (W := (S.map fun v => v.category).sum) K Cc wc wz hf hW) qa qb qc (g := mkF m pc Ls (argsL.reverse ++ .ref b :: S)) rfl (hz.trans K.2.2.2.2.1.symm) (Steps.refl _) (argsL := argsL) (rest := S) hlen rfl (by show 2 * 0 + _ ≤ _; omega) (hb K.2.2.2.1 hd) (fun _ _ => ⟨rfl, eT, hc, hsl⟩)
  dsimp only [Pt.U, Pt.locs, Pt.cells, Pt.slots] at X' l' y' z' st'
  subst l' y' z'
  obtain ⟨s₂, u, L', a1, r⟩ := q v _ hQ.1 T' _ X' (Fr.app N hQ.2) rfl
  exact ⟨s₂, u, L', st'.trans a1, r⟩
theorem callPriv (K : Cx Z own nm bytes ml ret p s m meth c) {i : Nat} {y : MethodName} {by' : ByteArray} {ml' : Nat} {ret' : Option FieldType} {rm : Room} {Q' : Option Value → Heap → Prop} {b : Addr} {argsL : List Value} {C : String} {kk : Nat} (w1 : (Cond.methodLink own i y).before a0 Z = true) (w2 : (Cond.instanceMethod y).before a0 Z = true) (w3 : (Cond.privateMethod y).before a0 Z = true) (w5 : (Cond.instantiable y.cls kk).before a0 Z = true) (wz : (Cond.initialized y.cls).before a0 Z = true) (wc : (Cond.code y by' ml' ret').before a0 Z = true) (hy : y.cls ≠ "java/lang/invoke/MethodHandle" ∧ y.cls ≠ "java/lang/invoke/VarHandle") (E : Exa Z h b C) (Cc : Ctr l Z y by' ml' ret' [] rm n0 (.ref b :: argsL).toArray h Q') (hlen : ∀ sig, parseMethodDescriptor y.desc = some sig → argsL.length = sig.parameters.length) (hd : decode bytes pc = .ok (.invokevirtual i, 3)) (hz : Ls.size = ml) (hf : rm.frames + 1 ≤ R.frames) (hW : (S.map fun v => v.category).sum + (ml' + 11) + rm.locals ≤ R.locals) (hc : ce + rm.cells ≤ R.cells) (hsl : sl + rm.slots ≤ R.slots) {st : List Value} (hst : st = (argsL.reverse ++ .ref b :: S)) (hp : pc + 3 = pc') (q : ∀ v h', Q' v h' → Go p l e R s m args below meth c n0 h' (ce + rm.cells) (sl + rm.slots) (mkF m pc' Ls (v.toList ++ S)) Q) : Go p l e R s m args below meth c n0 h ce sl (mkF m pc Ls st) Q := by
  subst hp hst
  intro T L0 X N eT
  obtain ⟨cell, kc, f1, f2, f3, f4, -⟩ := E
  have hpr : s.PrivateAt y := Cond.privateMethod_at (mvP K.2.1 w3 (args := #[]))
  obtain ⟨v, _, ⟨T', L1, k1, n1⟩, -, X', ⟨Lc, hQ, l', y', z'⟩, st'⟩ := X.privateBack K.1 (y := y) K.2.2.1 (mvT K.2.1 w1) (mvT K.2.1 w2) (priv_sel (mvT K.2.1 w5) hpr (mvT K.2.1 w2) hy) hpr (mvT K.2.1 wc) hy (back (W := (S.map fun v => v.category).sum) K Cc wc wz hf hW) (g := mkF m pc Ls (argsL.reverse ++ .ref b :: S)) rfl (hz.trans K.2.2.2.2.1.symm) (Steps.refl _) (a := b) (by rw [eT]; exact f1) (fun q hq => by rw [hq] at f4; cases f4) (argsL := argsL) (rest := S) hlen rfl (by show 2 * 0 + _ ≤ _; omega) (hb K.2.2.2.1 hd) (fun _ _ => ⟨rfl, eT, hc, hsl⟩)
  dsimp only [Pt.U, Pt.locs, Pt.cells, Pt.slots] at X' l' y' z' st'
  subst l' y' z'
  obtain ⟨s₂, u, L', a1, r⟩ := q v _ hQ.1 T' _ X' (Fr.app N hQ.2) rfl
  exact ⟨s₂, u, L', st'.trans a1, r⟩
theorem retW (K : Cx Z own nm bytes ml ret p s m meth c) {t : FieldType} {w : Value} {i : Instr} (hi : (i = .ireturn ∧ (t = .int ∨ t = .boolean ∨ t = .byte ∨ t = .char ∨ t = .short) ∧ ∃ z, w = .int z) ∨ (i = .lreturn ∧ t = .long ∧ ∃ z, w = .long z) ∨ (i = .dreturn ∧ t = .double ∧ ∃ z, w = .double z) ∨ (i = .freturn ∧ t = .float ∧ ∃ z, w = .float z) ∨ (i = .areturn ∧ t.isReference = true ∧ w.isRef = true)) (hr : ret = some t) (hn : narrow t w = w) (hd : decode bytes pc = .ok (i, 1)) (hc : ce ≤ R.cells) (hsl : sl ≤ R.slots) (q : Q (some w) h) : Go p l e R s m args below meth c n0 h ce sl (mkF m pc Ls (w :: S)) Q := by
  intro T L0 X N eT
  obtain ⟨fs, hl, hrun, hended, hW, hsame⟩ := X.leave (v := some w) (fun q => by rw [K.2.2.2.2.2.1, hr] at q; cases q) K.2.2.2.2.2.2.1
  exact ⟨_, some w, L0, retOut X K.1 (K.2.2.2.2.2.1.trans hr) hn hi (hb K.2.2.2.1 hd) hl, hrun, hended, N, eT ▸ q, ⟨_, rfl⟩, hW, hsame.mono hc hsl⟩
theorem retV (K : Cx Z own nm bytes ml ret p s m meth c) (hr : ret = none) (hd : decode bytes pc = .ok (.return_, 1)) (hc : ce ≤ R.cells) (hsl : sl ≤ R.slots) (q : Q none h) : Go p l e R s m args below meth c n0 h ce sl (mkF m pc Ls []) Q := by
  intro T L0 X N eT
  obtain ⟨fs, hl, hrun, hended, hW, hsame⟩ := X.leave (v := none) (fun _ => rfl) K.2.2.2.2.2.2.1
  exact ⟨_, none, L0, X.returnOut K.1 (K.2.2.2.2.2.1.trans hr) (hb K.2.2.2.1 hd) hl, hrun, hended, N, eT ▸ q, ⟨_, rfl⟩, hW, hsame.mono hc hsl⟩
theorem retI (K : Cx Z own nm bytes ml ret p s m meth c) {z : Int32} (hr : ret = some .int) (hd : decode bytes pc = .ok (.ireturn, 1)) (hc : ce ≤ R.cells) (hsl : sl ≤ R.slots) (q : Q (some (.int z)) h) : Go p l e R s m args below meth c n0 h ce sl (mkF m pc Ls (.int z :: S)) Q := retW K (by exact Or.inl ⟨rfl, Or.inl rfl, _, rfl⟩) hr rfl hd hc hsl q
theorem retL (K : Cx Z own nm bytes ml ret p s m meth c) {z : Int64} (hr : ret = some .long) (hd : decode bytes pc = .ok (.lreturn, 1)) (hc : ce ≤ R.cells) (hsl : sl ≤ R.slots) (q : Q (some (.long z)) h) : Go p l e R s m args below meth c n0 h ce sl (mkF m pc Ls (.long z :: S)) Q := retW K (by exact Or.inr (Or.inl ⟨rfl, rfl, _, rfl⟩)) hr rfl hd hc hsl q
theorem retD (K : Cx Z own nm bytes ml ret p s m meth c) {z : UInt64} (hr : ret = some .double) (hd : decode bytes pc = .ok (.dreturn, 1)) (hc : ce ≤ R.cells) (hsl : sl ≤ R.slots) (q : Q (some (.double z)) h) : Go p l e R s m args below meth c n0 h ce sl (mkF m pc Ls (.double z :: S)) Q := retW K (by exact Or.inr (Or.inr (Or.inl ⟨rfl, rfl, _, rfl⟩))) hr rfl hd hc hsl q
theorem retA (K : Cx Z own nm bytes ml ret p s m meth c) {t : FieldType} {w : Value} (hr : ret = some t) (ht : t.isReference = true) (hw : w.isRef = true) (hd : decode bytes pc = .ok (.areturn, 1)) (hc : ce ≤ R.cells) (hsl : sl ≤ R.slots) (q : Q (some w) h) : Go p l e R s m args below meth c n0 h ce sl (mkF m pc Ls (w :: S)) Q := retW K (Or.inr (Or.inr (Or.inr (Or.inr ⟨rfl, ht, hw⟩)))) hr (by cases t <;> first | rfl | exact absurd ht (by decide)) hd hc hsl q
theorem retB (K : Cx Z own nm bytes ml ret p s m meth c) {t : FieldType} {z : Int32} (hr : ret = some t) (ht : t = .boolean ∨ t = .byte ∨ t = .char ∨ t = .short) (hd : decode bytes pc = .ok (.ireturn, 1)) (hc : ce ≤ R.cells) (hsl : sl ≤ R.slots) (q : Q (some (.int (nar t z))) h) : Go p l e R s m args below meth c n0 h ce sl (mkF m pc Ls (.int z :: S)) Q := by
  intro T L0 X N eT
  obtain ⟨fs, hl, hrun, hended, hW, hsame⟩ := X.leave (v := some (.int (nar t z))) (fun q => by rw [K.2.2.2.2.2.1, hr] at q; cases q) K.2.2.2.2.2.2.1
  exact ⟨_, some (.int (nar t z)), L0, retN X K.1 (t := t) (K.2.2.2.2.2.1.trans hr) ht (hb K.2.2.2.1 hd) hl, hrun, hended, N, eT ▸ q, ⟨_, rfl⟩, hW, hsame.mono hc hsl⟩
end Walk
/-! arrays -/
def Vec (Z : State) (h : Heap) (a : Addr) (ty : FieldType) (xs : List Value) : Prop := ∃ cl : Cell, Arr Z h a cl ty ∧ cl.slots.toList = xs ∧ xs.length < 2147483648
/-- an array of references, with what may lie in it -/
def VecR (Z : State) (h : Heap) (a : Addr) (C : String) (xs : List Value) : Prop := ∃ cl : Cell, Arr Z h a cl (.object C) ∧ cl.slots.toList = xs ∧ xs.length < 2147483648 ∧ Ovr Z cl.cls C
section Vecs
variable {Z : State} {h h' : Heap} {a b : Addr} {ty : FieldType} {xs : List Value} {v : Value} {sl : Nat} {ws : List Addr} {C : String}
theorem Vec.lt (F : Vec Z h a ty xs) : a < h.size := by obtain ⟨c, A, -⟩ := F; exact A.lt
theorem Vec.ext (F : Vec Z h a ty xs) (E : Ext h h') : Vec Z h' a ty xs := by obtain ⟨c, A, r⟩ := F; exact ⟨c, A.ext E, r⟩
theorem Vec.other (F : Vec Z h b ty xs) (W : Wr h h' a sl v) (q : b ≠ a) : Vec Z h' b ty xs := by obtain ⟨c, A, r⟩ := F; exact ⟨c, A.other W q, r⟩
theorem Vec.keep (F : Vec Z h a ty xs) (K : Keep h h' ws) (q : a ∉ ws) : Vec Z h' a ty xs := by obtain ⟨c, A, r⟩ := F; exact ⟨c, ⟨K.2.1 a c A.1 q, A.2⟩, r⟩
theorem Vec.set (F : Vec Z h a ty xs) {i : Nat} (W : Wr h h' a i v) : Vec Z h' a ty (xs.set i v) := by
  obtain ⟨c, A, rfl, r⟩ := F
  exact ⟨_, A.same W, by simp [Cell.setSlot], by simpa using r⟩
theorem Vec.len (F : Vec Z h a ty xs) : xs.length < 2147483648 := by obtain ⟨c, A, rfl, r⟩ := F; exact r
theorem VecR.lt (F : VecR Z h a C xs) : a < h.size := by obtain ⟨c, A, -⟩ := F; exact A.lt
theorem VecR.ext (F : VecR Z h a C xs) (E : Ext h h') : VecR Z h' a C xs := by obtain ⟨c, A, r⟩ := F; exact ⟨c, A.ext E, r⟩
theorem VecR.other (F : VecR Z h b C xs) (W : Wr h h' a sl v) (q : b ≠ a) : VecR Z h' b C xs := by obtain ⟨c, A, r⟩ := F; exact ⟨c, A.other W q, r⟩
theorem VecR.keep (F : VecR Z h a C xs) (K : Keep h h' ws) (q : a ∉ ws) : VecR Z h' a C xs := by obtain ⟨c, A, r⟩ := F; exact ⟨c, ⟨K.2.1 a c A.1 q, A.2⟩, r⟩
theorem VecR.vec (F : VecR Z h a C xs) : Vec Z h a (.object C) xs := by obtain ⟨c, A, r1, r2, -⟩ := F; exact ⟨c, A, r1, r2⟩
theorem VecR.set (F : VecR Z h a C xs) {i : Nat} (W : Wr h h' a i v) : VecR Z h' a C (xs.set i v) := by
  obtain ⟨c, A, rfl, r, o⟩ := F
  exact ⟨_, A.same W, by simp [Cell.setSlot], by simpa using r, o⟩
theorem clamp {j : Int32} {i : Nat} (hj : j.toInt = i) : j.toNatClampNeg = i ∧ ¬ j < 0 := by
  refine ⟨by simp [Int32.toNatClampNeg, hj], ?_⟩
  rw [Int32.lt_iff_toInt_lt, hj]; simp only [Int32.reduceToInt]; omega
end Vecs
def DV (Z : State) (h : Heap) (a : Addr) (xs : List UInt64) : Prop := Vec Z h a .double (xs.map Value.double)
theorem DV.lt {Z : State} {h : Heap} {a : Addr} {xs : List UInt64} (F : DV Z h a xs) : a < h.size := Vec.lt F
theorem DV.ext {Z : State} {h h' : Heap} {a : Addr} {xs : List UInt64} (F : DV Z h a xs) (E : Ext h h') : DV Z h' a xs := Vec.ext F E
theorem DV.other {Z : State} {h h' : Heap} {a b : Addr} {xs : List UInt64} {sl : Nat} {v : Value} (F : DV Z h b xs) (W : Wr h h' a sl v) (q : b ≠ a) : DV Z h' b xs := Vec.other F W q
theorem DV.keep {Z : State} {h h' : Heap} {a : Addr} {xs : List UInt64} {ws : List Addr} (F : DV Z h a xs) (K : Keep h h' ws) (q : a ∉ ws) : DV Z h' a xs := Vec.keep F K q
theorem DV.set {Z : State} {h h' : Heap} {a : Addr} {xs : List UInt64} {i : Nat} {x : UInt64} (F : DV Z h a xs) (W : Wr h h' a i (Value.double x)) : DV Z h' a (xs.set i x) := by
  have q := Vec.set F W
  rwa [← List.map_set] at q
def IV (Z : State) (h : Heap) (a : Addr) (xs : List Int32) : Prop := Vec Z h a .int (xs.map Value.int)
theorem IV.lt {Z : State} {h : Heap} {a : Addr} {xs : List Int32} (F : IV Z h a xs) : a < h.size := Vec.lt F
theorem IV.ext {Z : State} {h h' : Heap} {a : Addr} {xs : List Int32} (F : IV Z h a xs) (E : Ext h h') : IV Z h' a xs := Vec.ext F E
theorem IV.other {Z : State} {h h' : Heap} {a b : Addr} {xs : List Int32} {sl : Nat} {v : Value} (F : IV Z h b xs) (W : Wr h h' a sl v) (q : b ≠ a) : IV Z h' b xs := Vec.other F W q
theorem IV.keep {Z : State} {h h' : Heap} {a : Addr} {xs : List Int32} {ws : List Addr} (F : IV Z h a xs) (K : Keep h h' ws) (q : a ∉ ws) : IV Z h' a xs := Vec.keep F K q
theorem IV.set {Z : State} {h h' : Heap} {a : Addr} {xs : List Int32} {i : Nat} {x : Int32} (F : IV Z h a xs) (W : Wr h h' a i (Value.int x)) : IV Z h' a (xs.set i x) := by
  have q := Vec.set F W
  rwa [← List.map_set] at q
def JV (Z : State) (h : Heap) (a : Addr) (xs : List Int64) : Prop := Vec Z h a .long (xs.map Value.long)
theorem JV.lt {Z : State} {h : Heap} {a : Addr} {xs : List Int64} (F : JV Z h a xs) : a < h.size := Vec.lt F
theorem JV.ext {Z : State} {h h' : Heap} {a : Addr} {xs : List Int64} (F : JV Z h a xs) (E : Ext h h') : JV Z h' a xs := Vec.ext F E
theorem JV.other {Z : State} {h h' : Heap} {a b : Addr} {xs : List Int64} {sl : Nat} {v : Value} (F : JV Z h b xs) (W : Wr h h' a sl v) (q : b ≠ a) : JV Z h' b xs := Vec.other F W q
theorem JV.keep {Z : State} {h h' : Heap} {a : Addr} {xs : List Int64} {ws : List Addr} (F : JV Z h a xs) (K : Keep h h' ws) (q : a ∉ ws) : JV Z h' a xs := Vec.keep F K q
theorem JV.set {Z : State} {h h' : Heap} {a : Addr} {xs : List Int64} {i : Nat} {x : Int64} (F : JV Z h a xs) (W : Wr h h' a i (Value.long x)) : JV Z h' a (xs.set i x) := by
  have q := Vec.set F W
  rwa [← List.map_set] at q
def ZV (Z : State) (h : Heap) (a : Addr) (xs : List Int32) : Prop := Vec Z h a .boolean (xs.map Value.int)
theorem ZV.lt {Z : State} {h : Heap} {a : Addr} {xs : List Int32} (F : ZV Z h a xs) : a < h.size := Vec.lt F
theorem ZV.ext {Z : State} {h h' : Heap} {a : Addr} {xs : List Int32} (F : ZV Z h a xs) (E : Ext h h') : ZV Z h' a xs := Vec.ext F E
theorem ZV.other {Z : State} {h h' : Heap} {a b : Addr} {xs : List Int32} {sl : Nat} {v : Value} (F : ZV Z h b xs) (W : Wr h h' a sl v) (q : b ≠ a) : ZV Z h' b xs := Vec.other F W q
theorem ZV.keep {Z : State} {h h' : Heap} {a : Addr} {xs : List Int32} {ws : List Addr} (F : ZV Z h a xs) (K : Keep h h' ws) (q : a ∉ ws) : ZV Z h' a xs := Vec.keep F K q
theorem ZV.set {Z : State} {h h' : Heap} {a : Addr} {xs : List Int32} {i : Nat} {x : Int32} (F : ZV Z h a xs) (W : Wr h h' a i (Value.int x)) : ZV Z h' a (xs.set i x) := by
  have q := Vec.set F W
  rwa [← List.map_set] at q
theorem mapAt {α : Type} {f : α → Value} {xs : List α} {i : Nat} {x : α} (h : xs[i]? = some x) : (xs.map f)[i]? = some (f x) := by rw [List.getElem?_map, h]; rfl
theorem mapLt {α : Type} {f : α → Value} {xs : List α} {i : Nat} (h : i < xs.length) : i < (xs.map f).length := by rwa [List.length_map]
theorem getDAt {α : Type} {xs : List α} {i : Nat} {d : α} (h : i < xs.length) : xs[i]? = some (xs.getD i d) := by rw [List.getD_eq_getElem?_getD, List.getElem?_eq_getElem h]; rfl
section Walk2
variable {p : Program} {l : Launch} {e : Env} {R : Room} {s : State} {m : MethodId} {args : Array Value} {below : List Frame} {meth : Method} {c : Code} {Z : State} {a0 : Array Value} {own nm : String} {bytes : ByteArray} {ml : Nat} {ret : Option FieldType} {n0 ce sl pc pc' : Nat} {h : Heap} {Ls Ls' : Array Slot} {S : List Value} {Q : Option Value → Heap → Prop} {a : Addr} {ty : FieldType} {xs : List Value} {v : Value} {j : Int32} {i : Nat}
theorem inb {cl : Cell} (e1 : cl.slots.toList = xs) (hj : j.toInt = i) (hi : i < xs.length) : ¬ (j < 0 ∨ cl.slots.size ≤ j.toNatClampNeg) := by
  obtain ⟨q1, q2⟩ := clamp hj
  subst e1
  rw [q1]; simp at hi; intro q; rcases q with q | q
  · exact q2 q
  · omega
theorem inv {cl : Cell} (e1 : cl.slots.toList = xs) (hj : j.toInt = i) (hv : xs[i]? = some v) : cl.slots[j.toNatClampNeg]? = some v := by
  obtain ⟨q1, q2⟩ := clamp hj
  subst e1
  rw [q1]; simpa using hv
theorem ltOf (hv : xs[i]? = some v) : i < xs.length := (List.getElem?_eq_some_iff.mp hv).1
theorem iaload (K : Cx Z own nm bytes ml ret p s m meth c) (F : Vec Z h a .int xs) (hj : j.toInt = i) (hv : xs[i]? = some v) (hd : decode bytes pc = .ok (.iaload, 1)) (hp : pc + 1 = pc') (q : Go p l e R s m args below meth c n0 h ce sl (mkF m pc' Ls (v :: S)) Q) : Go p l e R s m args below meth c n0 h ce sl (mkF m pc Ls (.int j :: .ref a :: S)) Q := by
  subst hp; obtain ⟨cl, A, e1, e2⟩ := F
  exact one (fun T L X eT t => X.iaload K.1 (by rw [eT]; exact A.1) (State.isArrayOf_alike K.2.1.alike A.2.1) A.2.2 (inb e1 hj (ltOf hv)) (inv e1 hj hv) (g := mkF m pc Ls (.int j :: .ref a :: S)) rfl rfl (hb K.2.2.2.1 hd) t) q
theorem laload (K : Cx Z own nm bytes ml ret p s m meth c) (F : Vec Z h a .long xs) (hj : j.toInt = i) (hv : xs[i]? = some v) (hd : decode bytes pc = .ok (.laload, 1)) (hp : pc + 1 = pc') (q : Go p l e R s m args below meth c n0 h ce sl (mkF m pc' Ls (v :: S)) Q) : Go p l e R s m args below meth c n0 h ce sl (mkF m pc Ls (.int j :: .ref a :: S)) Q := by
  subst hp; obtain ⟨cl, A, e1, e2⟩ := F
  exact one (fun T L X eT t => X.laload K.1 (by rw [eT]; exact A.1) (State.isArrayOf_alike K.2.1.alike A.2.1) A.2.2 (inb e1 hj (ltOf hv)) (inv e1 hj hv) (g := mkF m pc Ls (.int j :: .ref a :: S)) rfl rfl (hb K.2.2.2.1 hd) t) q
theorem daload (K : Cx Z own nm bytes ml ret p s m meth c) (F : Vec Z h a .double xs) (hj : j.toInt = i) (hv : xs[i]? = some v) (hd : decode bytes pc = .ok (.daload, 1)) (hp : pc + 1 = pc') (q : Go p l e R s m args below meth c n0 h ce sl (mkF m pc' Ls (v :: S)) Q) : Go p l e R s m args below meth c n0 h ce sl (mkF m pc Ls (.int j :: .ref a :: S)) Q := by
  subst hp; obtain ⟨cl, A, e1, e2⟩ := F
  exact one (fun T L X eT t => X.daload K.1 (by rw [eT]; exact A.1) (State.isArrayOf_alike K.2.1.alike A.2.1) A.2.2 (inb e1 hj (ltOf hv)) (inv e1 hj hv) (g := mkF m pc Ls (.int j :: .ref a :: S)) rfl rfl (hb K.2.2.2.1 hd) t) q
theorem zaload (K : Cx Z own nm bytes ml ret p s m meth c) (F : Vec Z h a .boolean xs) (hj : j.toInt = i) (hv : xs[i]? = some v) (hd : decode bytes pc = .ok (.baload, 1)) (hp : pc + 1 = pc') (q : Go p l e R s m args below meth c n0 h ce sl (mkF m pc' Ls (v :: S)) Q) : Go p l e R s m args below meth c n0 h ce sl (mkF m pc Ls (.int j :: .ref a :: S)) Q := by
  subst hp; obtain ⟨cl, A, e1, e2⟩ := F
  exact one (fun T L X eT t => X.baloadBooleans K.1 (by rw [eT]; exact A.1) (State.isArrayOf_alike K.2.1.alike A.2.1) A.2.2 (inb e1 hj (ltOf hv)) (inv e1 hj hv) (g := mkF m pc Ls (.int j :: .ref a :: S)) rfl rfl (hb K.2.2.2.1 hd) t) q
theorem baload (K : Cx Z own nm bytes ml ret p s m meth c) (F : Vec Z h a .byte xs) (hj : j.toInt = i) (hv : xs[i]? = some v) (hd : decode bytes pc = .ok (.baload, 1)) (hp : pc + 1 = pc') (q : Go p l e R s m args below meth c n0 h ce sl (mkF m pc' Ls (v :: S)) Q) : Go p l e R s m args below meth c n0 h ce sl (mkF m pc Ls (.int j :: .ref a :: S)) Q := by
  subst hp; obtain ⟨cl, A, e1, e2⟩ := F
  exact one (fun T L X eT t => X.baloadBytes K.1 (by rw [eT]; exact A.1) (State.isArrayOf_alike K.2.1.alike A.2.1) A.2.2 (inb e1 hj (ltOf hv)) (inv e1 hj hv) (g := mkF m pc Ls (.int j :: .ref a :: S)) rfl rfl (hb K.2.2.2.1 hd) t) q
theorem aaload (K : Cx Z own nm bytes ml ret p s m meth c) (F : Vec Z h a ty xs) (ht : ty.isReference = true) (hj : j.toInt = i) (hv : xs[i]? = some v) (hd : decode bytes pc = .ok (.aaload, 1)) (hp : pc + 1 = pc') (q : Go p l e R s m args below meth c n0 h ce sl (mkF m pc' Ls (v :: S)) Q) : Go p l e R s m args below meth c n0 h ce sl (mkF m pc Ls (.int j :: .ref a :: S)) Q := by
  subst hp; obtain ⟨cl, A, e1, e2⟩ := F
  exact one (fun T L X eT t => X.aaload K.1 (by rw [eT]; exact A.1) (State.isArrayOf_alike K.2.1.alike A.2.1) ht A.2.2 (inb e1 hj (ltOf hv)) (inv e1 hj hv) (g := mkF m pc Ls (.int j :: .ref a :: S)) rfl rfl (hb K.2.2.2.1 hd) t) q
theorem alen (K : Cx Z own nm bytes ml ret p s m meth c) (F : Vec Z h a ty xs) (hd : decode bytes pc = .ok (.arraylength, 1)) (hp : pc + 1 = pc') (q : Go p l e R s m args below meth c n0 h ce sl (mkF m pc' Ls (.int xs.length.toInt32 :: S)) Q) : Go p l e R s m args below meth c n0 h ce sl (mkF m pc Ls (.ref a :: S)) Q := by
  subst hp; obtain ⟨cl, A, e1, e2⟩ := F
  have hz : cl.slots.size = xs.length := by rw [← e1]; simp
  rw [← hz] at q
  exact one (fun T L X eT t => X.arraylength K.1 (by rw [eT]; exact A.1) (State.isArrayOf_alike K.2.1.alike A.2.1) (g := mkF m pc Ls (.ref a :: S)) rfl rfl (hb K.2.2.2.1 hd) t) q
theorem iastore (K : Cx Z own nm bytes ml ret p s m meth c) {x : Int32} (F : Vec Z h a .int xs) (hj : j.toInt = i) (hi : i < xs.length) (ga : n0 ≤ a) (hd : decode bytes pc = .ok (.iastore, 1)) (hp : pc + 1 = pc') (q : ∀ h', Wr h h' a i (.int x) → Go p l e R s m args below meth c n0 h' ce sl (mkF m pc' Ls S) Q) : Go p l e R s m args below meth c n0 h ce sl (mkF m pc Ls (.int x :: .int j :: .ref a :: S)) Q := by
  subst hp; obtain ⟨cl, A, e1, e2⟩ := F
  intro T L0 X N eT
  obtain ⟨T', h', X', e', W, st⟩ := stI X K.1 K.2.1 eT A (inb e1 hj hi) (g := mkF m pc Ls (.int x :: .int j :: .ref a :: S)) rfl rfl (hb K.2.2.2.1 hd)
  rw [(clamp hj).1] at W
  obtain ⟨s₂, u, L', a1, r⟩ := q h' W T' _ X' (Fr.snoc X' N ga) e'
  exact ⟨s₂, u, L', st _ a1, r⟩
theorem lastore (K : Cx Z own nm bytes ml ret p s m meth c) {x : Int64} (F : Vec Z h a .long xs) (hj : j.toInt = i) (hi : i < xs.length) (ga : n0 ≤ a) (hd : decode bytes pc = .ok (.lastore, 1)) (hp : pc + 1 = pc') (q : ∀ h', Wr h h' a i (.long x) → Go p l e R s m args below meth c n0 h' ce sl (mkF m pc' Ls S) Q) : Go p l e R s m args below meth c n0 h ce sl (mkF m pc Ls (.long x :: .int j :: .ref a :: S)) Q := by
  subst hp; obtain ⟨cl, A, e1, e2⟩ := F
  intro T L0 X N eT
  obtain ⟨T', h', X', e', W, st⟩ := stJ X K.1 K.2.1 eT A (inb e1 hj hi) (g := mkF m pc Ls (.long x :: .int j :: .ref a :: S)) rfl rfl (hb K.2.2.2.1 hd)
  rw [(clamp hj).1] at W
  obtain ⟨s₂, u, L', a1, r⟩ := q h' W T' _ X' (Fr.snoc X' N ga) e'
  exact ⟨s₂, u, L', st _ a1, r⟩
theorem dastore (K : Cx Z own nm bytes ml ret p s m meth c) {x : UInt64} (F : Vec Z h a .double xs) (hj : j.toInt = i) (hi : i < xs.length) (ga : n0 ≤ a) (hd : decode bytes pc = .ok (.dastore, 1)) (hp : pc + 1 = pc') (q : ∀ h', Wr h h' a i (.double x) → Go p l e R s m args below meth c n0 h' ce sl (mkF m pc' Ls S) Q) : Go p l e R s m args below meth c n0 h ce sl (mkF m pc Ls (.double x :: .int j :: .ref a :: S)) Q := by
  subst hp; obtain ⟨cl, A, e1, e2⟩ := F
  intro T L0 X N eT
  obtain ⟨T', h', X', e', W, st⟩ := stD X K.1 K.2.1 eT A (inb e1 hj hi) (g := mkF m pc Ls (.double x :: .int j :: .ref a :: S)) rfl rfl (hb K.2.2.2.1 hd)
  rw [(clamp hj).1] at W
  obtain ⟨s₂, u, L', a1, r⟩ := q h' W T' _ X' (Fr.snoc X' N ga) e'
  exact ⟨s₂, u, L', st _ a1, r⟩
theorem zastore (K : Cx Z own nm bytes ml ret p s m meth c) {x : Int32} (F : Vec Z h a .boolean xs) (hj : j.toInt = i) (hi : i < xs.length) (ga : n0 ≤ a) (hd : decode bytes pc = .ok (.bastore, 1)) (hp : pc + 1 = pc') (q : ∀ h', Wr h h' a i (.int (nar .boolean x)) → Go p l e R s m args below meth c n0 h' ce sl (mkF m pc' Ls S) Q) : Go p l e R s m args below meth c n0 h ce sl (mkF m pc Ls (.int x :: .int j :: .ref a :: S)) Q := by
  subst hp; obtain ⟨cl, A, e1, e2⟩ := F
  intro T L0 X N eT
  obtain ⟨T', h', X', e', W, st⟩ := stZ X K.1 K.2.1 eT A (inb e1 hj hi) (g := mkF m pc Ls (.int x :: .int j :: .ref a :: S)) rfl rfl (hb K.2.2.2.1 hd)
  rw [(clamp hj).1] at W
  obtain ⟨s₂, u, L', a1, r⟩ := q h' W T' _ X' (Fr.snoc X' N ga) e'
  exact ⟨s₂, u, L', st _ a1, r⟩
theorem bastore (K : Cx Z own nm bytes ml ret p s m meth c) {x : Int32} (F : Vec Z h a .byte xs) (hj : j.toInt = i) (hi : i < xs.length) (ga : n0 ≤ a) (hd : decode bytes pc = .ok (.bastore, 1)) (hp : pc + 1 = pc') (q : ∀ h', Wr h h' a i (.int (nar .byte x)) → Go p l e R s m args below meth c n0 h' ce sl (mkF m pc' Ls S) Q) : Go p l e R s m args below meth c n0 h ce sl (mkF m pc Ls (.int x :: .int j :: .ref a :: S)) Q := by
  subst hp; obtain ⟨cl, A, e1, e2⟩ := F
  intro T L0 X N eT
  obtain ⟨T', h', X', e', W, st⟩ := stB X K.1 K.2.1 eT A (inb e1 hj hi) (g := mkF m pc Ls (.int x :: .int j :: .ref a :: S)) rfl rfl (hb K.2.2.2.1 hd)
  rw [(clamp hj).1] at W
  obtain ⟨s₂, u, L', a1, r⟩ := q h' W T' _ X' (Fr.snoc X' N ga) e'
  exact ⟨s₂, u, L', st _ a1, r⟩
theorem aastore (K : Cx Z own nm bytes ml ret p s m meth c) {C : String} (F : VecR Z h a C xs) (hS : v = .null ∨ ∃ y, v = .ref y ∧ Ins Z h y C true) (hj : j.toInt = i) (hi : i < xs.length) (ga : n0 ≤ a) (hd : decode bytes pc = .ok (.aastore, 1)) (hp : pc + 1 = pc') (q : ∀ h', Wr h h' a i v → Go p l e R s m args below meth c n0 h' ce sl (mkF m pc' Ls S) Q) : Go p l e R s m args below meth c n0 h ce sl (mkF m pc Ls (v :: .int j :: .ref a :: S)) Q := by
  subst hp; obtain ⟨cl, A, e1, e2, O⟩ := F
  intro T L0 X N eT
  have hSt : Sto Z h a v := by
    rcases hS with rfl | ⟨y, rfl, I⟩
    · exact Or.inl rfl
    · exact Sto.of A O I
  obtain ⟨T', h', X', e', W, st⟩ := stR X K.1 K.2.1 eT A (inb e1 hj hi) rfl hSt (g := mkF m pc Ls (v :: .int j :: .ref a :: S)) rfl rfl (hb K.2.2.2.1 hd)
  rw [(clamp hj).1] at W
  obtain ⟨s₂, u, L', a1, r⟩ := q h' W T' _ X' (Fr.snoc X' N ga) e'
  exact ⟨s₂, u, L', st _ a1, r⟩
theorem newArr (K : Cx Z own nm bytes ml ret p s m meth c) {aty : ArrayType} {n : Int32} {N : Nat} (w : (Cond.arrayClass (newarray.typeOf aty)).before a0 Z = true) (hn : n.toInt = N) (hb : N * 8 ≤ 536870912) (hd : decode bytes pc = .ok (.newarray aty, 2)) (hc : ce + 1 ≤ R.cells) (hl : sl + N ≤ R.slots) (hp : pc + 2 = pc') (q : ∀ h' x, x = h.size → Ext h h' → Vec Z h' x (newarray.typeOf aty) (List.replicate N (defaultValue (newarray.typeOf aty))) → Go p l e R s m args below meth c n0 h' (ce + 1) (sl + N) (mkF m pc' Ls (.ref x :: S)) Q) : Go p l e R s m args below meth c n0 h ce sl (mkF m pc Ls (.int n :: S)) Q := by
  subst hp
  obtain ⟨c1, c2⟩ := clamp hn
  intro T L0 X N0 eT
  obtain ⟨T', h', cA, X', e', E, A, st⟩ := newP X K.1 K.2.1 w eT (g := mkF m pc Ls (.int n :: S)) rfl (Jvm.hb K.2.2.2.1 hd) rfl c2 (cap := N) (Nat.le_of_eq c1) hb hc hl
  obtain ⟨s₂, u, L', a1, r⟩ := q h' h.size rfl E ⟨_, A, by simp [newA, c1], by simp; omega⟩ T' _ X' N0 e'
  exact ⟨s₂, u, L', st _ a1, r⟩
theorem newArrR (K : Cx Z own nm bytes ml ret p s m meth c) {k : Nat} {C : String} {n : Int32} {N : Nat} (w1 : (Cond.classLink own k C).before a0 Z = true) (w2 : (Cond.arrayOver (.object C)).before a0 Z = true) (hn : n.toInt = N) (hb : N * 8 ≤ 536870912) (hd : decode bytes pc = .ok (.anewarray k, 3)) (hc : ce + 1 ≤ R.cells) (hl : sl + N ≤ R.slots) (hp : pc + 3 = pc') (q : ∀ h' x, x = h.size → Ext h h' → VecR Z h' x C (List.replicate N .null) → Go p l e R s m args below meth c n0 h' (ce + 1) (sl + N) (mkF m pc' Ls (.ref x :: S)) Q) : Go p l e R s m args below meth c n0 h ce sl (mkF m pc Ls (.int n :: S)) Q := by
  subst hp
  obtain ⟨c1, c2⟩ := clamp hn
  intro T L0 X N0 eT
  obtain ⟨T', h', cA, X', e', E, A, O, st⟩ := newR X K.1 K.2.1 K.2.2.1 w1 w2 eT (g := mkF m pc Ls (.int n :: S)) rfl (Jvm.hb K.2.2.2.1 hd) rfl c2 (cap := N) (Nat.le_of_eq c1) hb hc hl
  obtain ⟨s₂, u, L', a1, r⟩ := q h' h.size rfl E ⟨_, A, by simp [newA, c1, defaultValue], by simp; omega, O⟩ T' _ X' N0 e'
  exact ⟨s₂, u, L', st _ a1, r⟩
theorem cast' (K : Cx Z own nm bytes ml ret p s m meth c) {k : Nat} {K' : String} (w : (Cond.classLink own k K').before a0 Z = true) (F : Ins Z h a K' true) (hd : decode bytes pc = .ok (.checkcast k, 3)) (hp : pc + 3 = pc') (q : Go p l e R s m args below meth c n0 h ce sl (mkF m pc' Ls (.ref a :: S)) Q) : Go p l e R s m args below meth c n0 h ce sl (mkF m pc Ls (.ref a :: S)) Q := by
  subst hp; exact oneT (fun T L X eT => castY X K.1 K.2.1 K.2.2.1 w eT F (g := mkF m pc Ls (.ref a :: S)) rfl rfl (hb K.2.2.2.1 hd)) q
end Walk2
/-- a body's walk is its contract -/
theorem ctr {l : Launch} {Z : State} {y : MethodName} {bytes : ByteArray} {ml : Nat} {ret : Option FieldType} {ws : List Cond} {rm : Room} {n0 : Nat} {as' : Array Value} {h : Heap} {Q : Option Value → Heap → Prop} {own nm : String} (ho : y.cls = own) (hn : y.name = nm) {Ls : Array Slot} (hpl : plainFor y = true) (hef : ∀ m : MethodId, entryFrame m as' ml = mkF m 0 Ls [])
    (body : ∀ (p : Program) (e : Env) (s : State) (m : MethodId) (below : List Frame) (meth : Method) (c : Code), Cx Z own nm bytes ml ret p s m meth c → s.heap = h → Go p l e rm s m as' below meth c n0 h 0 0 (mkF m 0 Ls []) Q) : Ctr l Z y bytes ml ret ws rm n0 as' h Q := by
  subst ho hn
  refine MetFree.of_bodySF hpl hisR ?_
  intro p e s m args below meth c s₁ Bd hml hP hK
  obtain ⟨rfl, hZ, hh⟩ := hP
  have X0 : Stand p l e rm s m _ below meth c s₁ [] 0 0 := Stand.of_body Bd
  have e0 : s₁.heap = h := by rw [← hh, Bd.state]; rfl
  obtain ⟨s₂, v, L', a1, a2, a3, a4, a5, a6⟩ := body p e s m below meth c ⟨Bd.exec, hZ, findClass_of_methodNamed Bd.named, Bd.bytes, hml, Bd.returns, BodyLoose.notSynchronized Bd, (name_of_methodNamed Bd.named Bd.method).1⟩ hh s₁ [] X0 (Fr.nil n0) e0
  exact ⟨s₂, _, castTop (hef m) a1, a2, a3, v, L', rfl, ⟨a5, a4⟩, a6⟩
/-- a term that the case sets equal to a double -/
theorem eqD {args : Array Value} {first s : State} {o : Option Outcome} {idx : List Nat} {a b : Term} {n : UInt64} (h : (Cond.eq a b).value args first o s idx = some true) (hb : b.eval args first o idx s = some (.double n)) : a.eval args first o idx s = some (.double n) := by
  simp only [Cond.value, hb] at h
  cases ha : a.eval args first o idx s with
  | none => simp [ha] at h
  | some x => cases x <;> simp [ha] at h ⊢; exact h
/-- a term that the case sets equal to a reference -/
theorem eqR {args : Array Value} {first s : State} {o : Option Outcome} {idx : List Nat} {a b : Term} {n : Addr} (h : (Cond.eq a b).value args first o s idx = some true) (hb : b.eval args first o idx s = some (.ref n)) : a.eval args first o idx s = some (.ref n) := by
  simp only [Cond.value, hb] at h
  cases ha : a.eval args first o idx s with
  | none => simp [ha] at h
  | some x => cases x <;> simp [ha] at h ⊢; exact h
theorem eqI {args : Array Value} {first s : State} {o : Option Outcome} {idx : List Nat} {a b : Term} {n : Int32} (h : (Cond.eq a b).value args first o s idx = some true) (hb : b.eval args first o idx s = some (.int n)) : a.eval args first o idx s = some (.int n) := by
  simp only [Cond.value, hb] at h
  cases ha : a.eval args first o idx s with
  | none => simp [ha] at h
  | some x => cases x <;> simp [ha] at h ⊢; exact h
/-! the branch behind a comparison of doubles -/
def dge (r : Option Ordering) : Prop := r = some .eq ∨ r = some .gt
def dle (r : Option Ordering) : Prop := r = some .lt ∨ r = some .eq
section Dd
variable {r : Option Ordering}
theorem dd_l_eq_t (h : r = some .eq) : ifCond.holds .eq (cmpValue r .l) = true := by
  revert h; try unfold dge
  try unfold dle
  rcases r with _ | (_ | _ | _) <;> decide
theorem dd_l_eq_f (h : ¬ r = some .eq) : ifCond.holds .eq (cmpValue r .l) = false := by
  revert h; try unfold dge
  try unfold dle
  rcases r with _ | (_ | _ | _) <;> decide
theorem dd_l_ne_t (h : ¬ r = some .eq) : ifCond.holds .ne (cmpValue r .l) = true := by
  revert h; try unfold dge
  try unfold dle
  rcases r with _ | (_ | _ | _) <;> decide
theorem dd_l_ne_f (h : r = some .eq) : ifCond.holds .ne (cmpValue r .l) = false := by
  revert h; try unfold dge
  try unfold dle
  rcases r with _ | (_ | _ | _) <;> decide
theorem dd_l_lt_t (h : ¬ dge r) : ifCond.holds .lt (cmpValue r .l) = true := by
  revert h; try unfold dge
  try unfold dle
  rcases r with _ | (_ | _ | _) <;> decide
theorem dd_l_lt_f (h : dge r) : ifCond.holds .lt (cmpValue r .l) = false := by
  revert h; try unfold dge
  try unfold dle
  rcases r with _ | (_ | _ | _) <;> decide
theorem dd_l_ge_t (h : dge r) : ifCond.holds .ge (cmpValue r .l) = true := by
  revert h; try unfold dge
  try unfold dle
  rcases r with _ | (_ | _ | _) <;> decide
theorem dd_l_ge_f (h : ¬ dge r) : ifCond.holds .ge (cmpValue r .l) = false := by
  revert h; try unfold dge
  try unfold dle
  rcases r with _ | (_ | _ | _) <;> decide
theorem dd_l_gt_t (h : r = some .gt) : ifCond.holds .gt (cmpValue r .l) = true := by
  revert h; try unfold dge
  try unfold dle
  rcases r with _ | (_ | _ | _) <;> decide
theorem dd_l_gt_f (h : ¬ r = some .gt) : ifCond.holds .gt (cmpValue r .l) = false := by
  revert h; try unfold dge
  try unfold dle
  rcases r with _ | (_ | _ | _) <;> decide
theorem dd_l_le_t (h : ¬ r = some .gt) : ifCond.holds .le (cmpValue r .l) = true := by
  revert h; try unfold dge
  try unfold dle
  rcases r with _ | (_ | _ | _) <;> decide
theorem dd_l_le_f (h : r = some .gt) : ifCond.holds .le (cmpValue r .l) = false := by
  revert h; try unfold dge
  try unfold dle
  rcases r with _ | (_ | _ | _) <;> decide
theorem dd_g_eq_t (h : r = some .eq) : ifCond.holds .eq (cmpValue r .g) = true := by
  revert h; try unfold dge
  try unfold dle
  rcases r with _ | (_ | _ | _) <;> decide
theorem dd_g_eq_f (h : ¬ r = some .eq) : ifCond.holds .eq (cmpValue r .g) = false := by
  revert h; try unfold dge
  try unfold dle
  rcases r with _ | (_ | _ | _) <;> decide
theorem dd_g_ne_t (h : ¬ r = some .eq) : ifCond.holds .ne (cmpValue r .g) = true := by
  revert h; try unfold dge
  try unfold dle
  rcases r with _ | (_ | _ | _) <;> decide
theorem dd_g_ne_f (h : r = some .eq) : ifCond.holds .ne (cmpValue r .g) = false := by
  revert h; try unfold dge
  try unfold dle
  rcases r with _ | (_ | _ | _) <;> decide
theorem dd_g_lt_t (h : r = some .lt) : ifCond.holds .lt (cmpValue r .g) = true := by
  revert h; try unfold dge
  try unfold dle
  rcases r with _ | (_ | _ | _) <;> decide
theorem dd_g_lt_f (h : ¬ r = some .lt) : ifCond.holds .lt (cmpValue r .g) = false := by
  revert h; try unfold dge
  try unfold dle
  rcases r with _ | (_ | _ | _) <;> decide
theorem dd_g_ge_t (h : ¬ r = some .lt) : ifCond.holds .ge (cmpValue r .g) = true := by
  revert h; try unfold dge
  try unfold dle
  rcases r with _ | (_ | _ | _) <;> decide
theorem dd_g_ge_f (h : r = some .lt) : ifCond.holds .ge (cmpValue r .g) = false := by
  revert h; try unfold dge
  try unfold dle
  rcases r with _ | (_ | _ | _) <;> decide
theorem dd_g_gt_t (h : ¬ dle r) : ifCond.holds .gt (cmpValue r .g) = true := by
  revert h; try unfold dge
  try unfold dle
  rcases r with _ | (_ | _ | _) <;> decide
theorem dd_g_gt_f (h : dle r) : ifCond.holds .gt (cmpValue r .g) = false := by
  revert h; try unfold dge
  try unfold dle
  rcases r with _ | (_ | _ | _) <;> decide
theorem dd_g_le_t (h : dle r) : ifCond.holds .le (cmpValue r .g) = true := by
  revert h; try unfold dge
  try unfold dle
  rcases r with _ | (_ | _ | _) <;> decide
theorem dd_g_le_f (h : ¬ dle r) : ifCond.holds .le (cmpValue r .g) = false := by
  revert h; try unfold dge
  try unfold dle
  rcases r with _ | (_ | _ | _) <;> decide
end Dd
end Jvm.OwnWp
namespace Jvm.OwnFl
open Jvm.FP Jvm.FP.Core
theorem pow_swap {X Y A B u v : Nat} (h : X * 2 ^ A = Y * 2 ^ B) (e : A + v = B + u) : X * 2 ^ u = Y * 2 ^ v := by
  have p := Nat.two_pow_pos B
  refine Nat.eq_of_mul_eq_mul_right p ?_
  calc X * 2 ^ u * 2 ^ B = X * 2 ^ (B + u) := by rw [Nat.pow_add]; ac_rfl
    _ = X * 2 ^ A * 2 ^ v := by rw [← e, Nat.pow_add]; ac_rfl
    _ = Y * 2 ^ v * 2 ^ B := by rw [h]; ac_rfl
theorem dint_fin {i : Int} {a : UInt64} (h : DInt i a) : ∃ s c q, val64 a = .fin s c q ∧ Whole i (.fin s c q) := by
  unfold DInt at h
  cases hv : val64 a with
  | nan => rw [hv] at h; exact h.elim
  | inf s => rw [hv] at h; exact h.elim
  | fin s c q => rw [hv] at h; exact ⟨s, c, q, rfl, h⟩
/-- the quotient of two whole numbers, the divisor above nought, the dividend not nought -/
theorem ddiv_ratio {i j : Int} {a b : UInt64} (ha : DInt i a) (hb : DInt j b) (hi : i ≠ 0) (hj : 0 < j) : val64 (Core.ddiv a b) = roundRatio b64 (decide (i < 0)) i.natAbs j.natAbs 0 := by
  obtain ⟨s, c, q, ea, wa⟩ := dint_fin ha
  obtain ⟨t, d, r, eb, wb⟩ := dint_fin hb
  rw [val64_ddiv, ea, eb]
  have hd : d ≠ 0 := fun h => by have := (whole_zero wb).mp h; omega
  have hs := whole_sign wa hi
  have ht := whole_sign wb (by omega : j ≠ 0)
  have hj' : decide (j < 0) = false := by simp; omega
  rw [hj'] at ht
  subst hs ht
  show (if d = 0 then (if c = 0 then Datum.nan else .inf (decide (i < 0) != false)) else roundRatio b64 (decide (i < 0) != false) c d (q - r)) = _
  rw [if_neg hd, Bool.bne_false]
  have h1 := whole_natAbs wa
  have h2 := whole_natAbs wb
  refine roundRatio_congr (Nat.pos_of_ne_zero hd) (by omega) ?_
  refine pow_swap (A := q.toNat + (-r).toNat) (B := (-q).toNat + r.toNat) ?_ (by omega)
  rw [Nat.pow_add, Nat.pow_add]
  calc c * j.natAbs * (2 ^ q.toNat * 2 ^ (-r).toNat) = (c * 2 ^ q.toNat) * (j.natAbs * 2 ^ (-r).toNat) := by ac_rfl
    _ = (i.natAbs * 2 ^ (-q).toNat) * (d * 2 ^ r.toNat) := by rw [h1, h2]
    _ = i.natAbs * d * (2 ^ (-q).toNat * 2 ^ r.toNat) := by ac_rfl
/-- a quotient that comes out whole -/
theorem ddiv_int {i j k : Int} {a b : UInt64} (ha : DInt i a) (hb : DInt j b) (hj : 0 < j) (h : i = k * j) (hk : k.natAbs ≤ 2 ^ 53) : DInt k (Core.ddiv a b) := by
  by_cases hi : i = 0
  · have hk0 : k = 0 := by rcases Int.mul_eq_zero.mp (h.symm.trans hi) with q | q <;> omega
    subst hk0 hi
    obtain ⟨s, c, q, ea, wa⟩ := dint_fin ha
    obtain ⟨t, d, r, eb, wb⟩ := dint_fin hb
    have hd : d ≠ 0 := fun h => by have := (whole_zero wb).mp h; omega
    have hc : c = 0 := (whole_zero wa).mpr rfl
    unfold DInt
    rw [val64_ddiv, ea, eb]
    show Whole 0 (if d = 0 then (if c = 0 then Datum.nan else .inf (s != t)) else roundRatio b64 (s != t) c d (q - r))
    rw [if_neg hd, hc]
    show Whole 0 (if (0 : Nat) = 0 then Datum.fin (s != t) 0 b64.qmin else _)
    rw [if_pos rfl]
    show signed (s != t) (0 * _) = 0 * _
    rw [Nat.zero_mul, Int.zero_mul]; exact signed_zero _
  · have hk0 : k ≠ 0 := fun q => hi (by rw [h, q, Int.zero_mul])
    have hs : decide (i < 0) = decide (k < 0) := by
      rw [decide_eq_decide, h]
      constructor
      · intro q; refine Int.lt_of_not_ge fun g => ?_
        have := Int.mul_nonneg g (Int.le_of_lt hj); omega
      · intro q; exact Int.mul_neg_of_neg_of_pos q hj
    have e : val64 (Core.ddiv a b) = Core.round b64 (ofInt k) := by
      rw [ddiv_ratio ha hb hi hj, hs]
      show _ = roundRatio b64 (decide (k < 0)) k.natAbs 1 0
      refine roundRatio_congr (by omega) (by decide) ?_
      rw [h, Int.natAbs_mul]; simp
    unfold DInt
    rw [e]
    exact whole_round good_b64 wide_b64 hk (whole_ofInt k)
/-- a quotient of whole numbers above nought lies beneath what its exact value lies beneath -/
theorem ddiv_le {i j : Int} {a b V : UInt64} (ha : DInt i a) (hb : DInt j b) (hi : 0 < i) (hj : 0 < j) (hV : val64 V ≠ .nan) (h : i * (one64 : Int) ≤ zval b64 (val64 V) * j) : val64 (Core.ddiv a b) ≠ .nan ∧ zval b64 (val64 (Core.ddiv a b)) ≤ zval b64 (val64 V) := by
  have e := ddiv_ratio ha hb (by omega) hj
  have hd : decide (i < 0) = false := by simp; omega
  rw [hd] at e
  refine ⟨by rw [e]; exact roundRatio_ne_nan _ _ _ _ _, ?_⟩
  have h0 : 0 < zval b64 (val64 V) := by
    refine Int.lt_of_not_ge fun g => ?_
    have h1 : zval b64 (val64 V) * j ≤ 0 := Int.mul_nonpos_of_nonpos_of_nonneg g (Int.le_of_lt hj)
    have h2 : 0 < i * (one64 : Int) := Int.mul_pos hi (by have := one64_pos; omega)
    omega
  have hz : zval b64 (val64 V) = (zmag b64 (val64 V) : Int) := by
    unfold zval at h0 ⊢; exact (signed_pos h0).1
  have key := zmag_roundRatio_le good_b64 (s := false) (A := i.natAbs) (B := j.natAbs) (e := 0) (e0 := b64.qmin) (V := val64 V) (by omega) (val64_fits V) hV (Int.le_refl _) (by decide) (by
    rw [Int.sub_self, Int.toNat_zero, Nat.pow_zero, Nat.mul_one]
    show i.natAbs * 2 ^ (0 - b64.qmin).toNat ≤ _
    rw [Int.zero_sub, pow_qmin64]
    rw [hz] at h
    have : ((i.natAbs * one64 : Nat) : Int) ≤ ((zmag b64 (val64 V) * j.natAbs : Nat) : Int) := by
      rw [Int.natCast_mul, Int.natCast_mul, Int.natAbs_of_nonneg (Int.le_of_lt hi), Int.natAbs_of_nonneg (Int.le_of_lt hj)]; exact h
    omega)
  rw [e, hz]
  unfold zval
  rw [sgn_roundRatio]
  show ((zmag b64 (roundRatio b64 false i.natAbs j.natAbs 0) : Nat) : Int) ≤ _
  omega
theorem ddiv_ge {i j : Int} {a b V : UInt64} (ha : DInt i a) (hb : DInt j b) (hi : 0 < i) (hj : 0 < j) (hV : val64 V ≠ .nan) (h : zval b64 (val64 V) * j ≤ i * (one64 : Int)) : zval b64 (val64 V) ≤ zval b64 (val64 (Core.ddiv a b)) := by
  have e := ddiv_ratio ha hb (by omega) hj
  have hd : decide (i < 0) = false := by simp; omega
  rw [hd] at e
  rw [e]
  have hp : 0 ≤ zval b64 (roundRatio b64 false i.natAbs j.natAbs 0) := by
    unfold zval; rw [sgn_roundRatio]; show (0 : Int) ≤ ((zmag b64 (roundRatio b64 false i.natAbs j.natAbs 0) : Nat) : Int); omega
  by_cases h0 : 0 < zval b64 (val64 V)
  · have hz : zval b64 (val64 V) = (zmag b64 (val64 V) : Int) := by
      unfold zval at h0 ⊢; exact (signed_pos h0).1
    have key := zmag_roundRatio_ge good_b64 (s := false) (A := i.natAbs) (B := j.natAbs) (e := 0) (e0 := b64.qmin) (V := val64 V) (by omega) (val64_fits V) (Int.le_refl _) (by decide) (by
      rw [Int.sub_self, Int.toNat_zero, Nat.pow_zero, Nat.mul_one]
      show _ ≤ i.natAbs * 2 ^ (0 - b64.qmin).toNat
      rw [Int.zero_sub, pow_qmin64]
      rw [hz] at h
      have : ((zmag b64 (val64 V) * j.natAbs : Nat) : Int) ≤ ((i.natAbs * one64 : Nat) : Int) := by
        rw [Int.natCast_mul, Int.natCast_mul, Int.natAbs_of_nonneg (Int.le_of_lt hi), Int.natAbs_of_nonneg (Int.le_of_lt hj)]; exact h
      omega)
    rw [hz]
    unfold zval
    rw [sgn_roundRatio]
    show _ ≤ ((zmag b64 (roundRatio b64 false i.natAbs j.natAbs 0) : Nat) : Int)
    omega
  · omega
theorem dint_nn {i : Int} {a : UInt64} (h : DInt i a) : Jvm.Free.Fl.NoNaN64 a := Jvm.Free.Fl.val64_no.mpr (DInt_ne_nan h)
end Jvm.OwnFl
namespace Jvm.Pilot.@@N@@
open Jvm Jvm.ClassFile Sem Op Lib Jvm.Free Jvm.Stand Jvm.LawKit Jvm.RoadKit Bundle Jvm.Pilot.@@N@@.Jvm.D Jvm.OwnWp

theorem d_jdk_96_method_17_0 : decode jdk_96_method_17_code 0 = .ok (.getstatic 9, 3) := by decide +kernel
theorem d_jdk_96_method_17_3 : decode jdk_96_method_17_code 3 = .ok (.areturn, 1) := by decide +kernel
theorem d_prog_10_method_10_0 : decode prog_10_method_10_code 0 = .ok (.new 129, 3) := by decide +kernel
theorem d_prog_10_method_10_3 : decode prog_10_method_10_code 3 = .ok (.dup, 1) := by decide +kernel
theorem d_prog_10_method_10_4 : decode prog_10_method_10_code 4 = .ok (.aload_n 0, 1) := by decide +kernel
theorem d_prog_10_method_10_5 : decode prog_10_method_10_code 5 = .ok (.invokespecial 131, 3) := by decide +kernel
theorem d_prog_10_method_10_8 : decode prog_10_method_10_code 8 = .ok (.areturn, 1) := by decide +kernel
theorem d_prog_10_method_1_0 : decode prog_10_method_1_code 0 = .ok (.aload_n 0, 1) := by decide +kernel
theorem d_prog_10_method_1_1 : decode prog_10_method_1_code 1 = .ok (.invokespecial 1, 3) := by decide +kernel
theorem d_prog_10_method_1_4 : decode prog_10_method_1_code 4 = .ok (.aload_n 0, 1) := by decide +kernel
theorem d_prog_10_method_1_5 : decode prog_10_method_1_code 5 = .ok (.ldc2_w 7, 3) := by decide +kernel
theorem d_prog_10_method_1_8 : decode prog_10_method_1_code 8 = .ok (.putfield 9, 3) := by decide +kernel
theorem d_prog_10_method_1_11 : decode prog_10_method_1_code 11 = .ok (.aload_n 0, 1) := by decide +kernel
theorem d_prog_10_method_1_12 : decode prog_10_method_1_code 12 = .ok (.dconst 1, 1) := by decide +kernel
theorem d_prog_10_method_1_13 : decode prog_10_method_1_code 13 = .ok (.putfield 15, 3) := by decide +kernel
theorem d_prog_10_method_1_16 : decode prog_10_method_1_code 16 = .ok (.aload_n 0, 1) := by decide +kernel
theorem d_prog_10_method_1_17 : decode prog_10_method_1_code 17 = .ok (.ldc2_w 18, 3) := by decide +kernel
theorem d_prog_10_method_1_20 : decode prog_10_method_1_code 20 = .ok (.putfield 20, 3) := by decide +kernel
theorem d_prog_10_method_1_23 : decode prog_10_method_1_code 23 = .ok (.aload_n 0, 1) := by decide +kernel
theorem d_prog_10_method_1_24 : decode prog_10_method_1_code 24 = .ok (.sipush 1000, 3) := by decide +kernel
theorem d_prog_10_method_1_27 : decode prog_10_method_1_code 27 = .ok (.putfield 23, 3) := by decide +kernel
theorem d_prog_10_method_1_30 : decode prog_10_method_1_code 30 = .ok (.aload_n 0, 1) := by decide +kernel
theorem d_prog_10_method_1_31 : decode prog_10_method_1_code 31 = .ok (.getstatic 27, 3) := by decide +kernel
theorem d_prog_10_method_1_34 : decode prog_10_method_1_code 34 = .ok (.putfield 33, 3) := by decide +kernel
theorem d_prog_10_method_1_37 : decode prog_10_method_1_code 37 = .ok (.aload_n 0, 1) := by decide +kernel
theorem d_prog_10_method_1_38 : decode prog_10_method_1_code 38 = .ok (.getstatic 36, 3) := by decide +kernel
theorem d_prog_10_method_1_41 : decode prog_10_method_1_code 41 = .ok (.putfield 42, 3) := by decide +kernel
theorem d_prog_10_method_1_44 : decode prog_10_method_1_code 44 = .ok (.aload_n 0, 1) := by decide +kernel
theorem d_prog_10_method_1_45 : decode prog_10_method_1_code 45 = .ok (.getstatic 45, 3) := by decide +kernel
theorem d_prog_10_method_1_48 : decode prog_10_method_1_code 48 = .ok (.putfield 51, 3) := by decide +kernel
theorem d_prog_10_method_1_51 : decode prog_10_method_1_code 51 = .ok (.aload_n 0, 1) := by decide +kernel
theorem d_prog_10_method_1_52 : decode prog_10_method_1_code 52 = .ok (.invokestatic 54, 3) := by decide +kernel
theorem d_prog_10_method_1_55 : decode prog_10_method_1_code 55 = .ok (.putfield 60, 3) := by decide +kernel
theorem d_prog_10_method_1_58 : decode prog_10_method_1_code 58 = .ok (.return_, 1) := by decide +kernel
theorem d_prog_10_method_5_0 : decode prog_10_method_5_code 0 = .ok (.iload_n 1, 1) := by decide +kernel
theorem d_prog_10_method_5_1 : decode prog_10_method_5_code 1 = .ok (.iconst 1, 1) := by decide +kernel
theorem d_prog_10_method_5_2 : decode prog_10_method_5_code 2 = .ok (.if_icmp .ge 13, 3) := by decide +kernel
theorem d_prog_10_method_5_15 : decode prog_10_method_5_code 15 = .ok (.aload_n 0, 1) := by decide +kernel
theorem d_prog_10_method_5_16 : decode prog_10_method_5_code 16 = .ok (.iload_n 1, 1) := by decide +kernel
theorem d_prog_10_method_5_17 : decode prog_10_method_5_code 17 = .ok (.putfield 23, 3) := by decide +kernel
theorem d_prog_10_method_5_20 : decode prog_10_method_5_code 20 = .ok (.aload_n 0, 1) := by decide +kernel
theorem d_prog_10_method_5_21 : decode prog_10_method_5_code 21 = .ok (.areturn, 1) := by decide +kernel
theorem d_prog_9_method_1_0 : decode prog_9_method_1_code 0 = .ok (.aload_n 0, 1) := by decide +kernel
theorem d_prog_9_method_1_1 : decode prog_9_method_1_code 1 = .ok (.invokespecial 1, 3) := by decide +kernel
theorem d_prog_9_method_1_4 : decode prog_9_method_1_code 4 = .ok (.aload_n 0, 1) := by decide +kernel
theorem d_prog_9_method_1_5 : decode prog_9_method_1_code 5 = .ok (.aload_n 1, 1) := by decide +kernel
theorem d_prog_9_method_1_6 : decode prog_9_method_1_code 6 = .ok (.getfield 7, 3) := by decide +kernel
theorem d_prog_9_method_1_9 : decode prog_9_method_1_code 9 = .ok (.putfield 13, 3) := by decide +kernel
theorem d_prog_9_method_1_12 : decode prog_9_method_1_code 12 = .ok (.aload_n 0, 1) := by decide +kernel
theorem d_prog_9_method_1_13 : decode prog_9_method_1_code 13 = .ok (.aload_n 1, 1) := by decide +kernel
theorem d_prog_9_method_1_14 : decode prog_9_method_1_code 14 = .ok (.getfield 16, 3) := by decide +kernel
theorem d_prog_9_method_1_17 : decode prog_9_method_1_code 17 = .ok (.putfield 19, 3) := by decide +kernel
theorem d_prog_9_method_1_20 : decode prog_9_method_1_code 20 = .ok (.aload_n 0, 1) := by decide +kernel
theorem d_prog_9_method_1_21 : decode prog_9_method_1_code 21 = .ok (.aload_n 1, 1) := by decide +kernel
theorem d_prog_9_method_1_22 : decode prog_9_method_1_code 22 = .ok (.getfield 20, 3) := by decide +kernel
theorem d_prog_9_method_1_25 : decode prog_9_method_1_code 25 = .ok (.putfield 23, 3) := by decide +kernel
theorem d_prog_9_method_1_28 : decode prog_9_method_1_code 28 = .ok (.aload_n 0, 1) := by decide +kernel
theorem d_prog_9_method_1_29 : decode prog_9_method_1_code 29 = .ok (.aload_n 1, 1) := by decide +kernel
theorem d_prog_9_method_1_30 : decode prog_9_method_1_code 30 = .ok (.getfield 24, 3) := by decide +kernel
theorem d_prog_9_method_1_33 : decode prog_9_method_1_code 33 = .ok (.putfield 28, 3) := by decide +kernel
theorem d_prog_9_method_1_36 : decode prog_9_method_1_code 36 = .ok (.aload_n 0, 1) := by decide +kernel
theorem d_prog_9_method_1_37 : decode prog_9_method_1_code 37 = .ok (.aload_n 1, 1) := by decide +kernel
theorem d_prog_9_method_1_38 : decode prog_9_method_1_code 38 = .ok (.getfield 29, 3) := by decide +kernel
theorem d_prog_9_method_1_41 : decode prog_9_method_1_code 41 = .ok (.putfield 33, 3) := by decide +kernel
theorem d_prog_9_method_1_44 : decode prog_9_method_1_code 44 = .ok (.aload_n 0, 1) := by decide +kernel
theorem d_prog_9_method_1_45 : decode prog_9_method_1_code 45 = .ok (.aload_n 1, 1) := by decide +kernel
theorem d_prog_9_method_1_46 : decode prog_9_method_1_code 46 = .ok (.getfield 34, 3) := by decide +kernel
theorem d_prog_9_method_1_49 : decode prog_9_method_1_code 49 = .ok (.putfield 38, 3) := by decide +kernel
theorem d_prog_9_method_1_52 : decode prog_9_method_1_code 52 = .ok (.aload_n 0, 1) := by decide +kernel
theorem d_prog_9_method_1_53 : decode prog_9_method_1_code 53 = .ok (.aload_n 1, 1) := by decide +kernel
theorem d_prog_9_method_1_54 : decode prog_9_method_1_code 54 = .ok (.getfield 39, 3) := by decide +kernel
theorem d_prog_9_method_1_57 : decode prog_9_method_1_code 57 = .ok (.putfield 43, 3) := by decide +kernel
theorem d_prog_9_method_1_60 : decode prog_9_method_1_code 60 = .ok (.aload_n 0, 1) := by decide +kernel
theorem d_prog_9_method_1_61 : decode prog_9_method_1_code 61 = .ok (.aload_n 1, 1) := by decide +kernel
theorem d_prog_9_method_1_62 : decode prog_9_method_1_code 62 = .ok (.getfield 44, 3) := by decide +kernel
theorem d_prog_9_method_1_65 : decode prog_9_method_1_code 65 = .ok (.putfield 48, 3) := by decide +kernel
theorem d_prog_9_method_1_68 : decode prog_9_method_1_code 68 = .ok (.return_, 1) := by decide +kernel
theorem d_prog_9_method_2_0 : decode prog_9_method_2_code 0 = .ok (.aload_n 0, 1) := by decide +kernel
theorem d_prog_9_method_2_1 : decode prog_9_method_2_code 1 = .ok (.getfield 13, 3) := by decide +kernel
theorem d_prog_9_method_2_4 : decode prog_9_method_2_code 4 = .ok (.dreturn, 1) := by decide +kernel
theorem d_prog_9_method_3_0 : decode prog_9_method_3_code 0 = .ok (.aload_n 0, 1) := by decide +kernel
theorem d_prog_9_method_3_1 : decode prog_9_method_3_code 1 = .ok (.getfield 19, 3) := by decide +kernel
theorem d_prog_9_method_3_4 : decode prog_9_method_3_code 4 = .ok (.dreturn, 1) := by decide +kernel
theorem d_prog_9_method_4_0 : decode prog_9_method_4_code 0 = .ok (.aload_n 0, 1) := by decide +kernel
theorem d_prog_9_method_4_1 : decode prog_9_method_4_code 1 = .ok (.getfield 23, 3) := by decide +kernel
theorem d_prog_9_method_4_4 : decode prog_9_method_4_code 4 = .ok (.dreturn, 1) := by decide +kernel
theorem d_prog_9_method_5_0 : decode prog_9_method_5_code 0 = .ok (.aload_n 0, 1) := by decide +kernel
theorem d_prog_9_method_5_1 : decode prog_9_method_5_code 1 = .ok (.getfield 28, 3) := by decide +kernel
theorem d_prog_9_method_5_4 : decode prog_9_method_5_code 4 = .ok (.ireturn, 1) := by decide +kernel
theorem d_prog_9_method_6_0 : decode prog_9_method_6_code 0 = .ok (.aload_n 0, 1) := by decide +kernel
theorem d_prog_9_method_6_1 : decode prog_9_method_6_code 1 = .ok (.getfield 33, 3) := by decide +kernel
theorem d_prog_9_method_6_4 : decode prog_9_method_6_code 4 = .ok (.areturn, 1) := by decide +kernel
theorem d_prog_9_method_7_0 : decode prog_9_method_7_code 0 = .ok (.aload_n 0, 1) := by decide +kernel
theorem d_prog_9_method_7_1 : decode prog_9_method_7_code 1 = .ok (.getfield 38, 3) := by decide +kernel
theorem d_prog_9_method_7_4 : decode prog_9_method_7_code 4 = .ok (.areturn, 1) := by decide +kernel
theorem d_prog_9_method_8_0 : decode prog_9_method_8_code 0 = .ok (.aload_n 0, 1) := by decide +kernel
theorem d_prog_9_method_8_1 : decode prog_9_method_8_code 1 = .ok (.getfield 43, 3) := by decide +kernel
theorem d_prog_9_method_8_4 : decode prog_9_method_8_code 4 = .ok (.areturn, 1) := by decide +kernel
theorem d_prog_9_method_9_0 : decode prog_9_method_9_code 0 = .ok (.aload_n 0, 1) := by decide +kernel
theorem d_prog_9_method_9_1 : decode prog_9_method_9_code 1 = .ok (.getfield 48, 3) := by decide +kernel
theorem d_prog_9_method_9_4 : decode prog_9_method_9_code 4 = .ok (.areturn, 1) := by decide +kernel
theorem wd0 {a0 : Array Value} {Z : State} (hw : ∀ d ∈ tables_1, d.before a0 Z = true) : Jvm.Cond.before (Jvm.Cond.classLink "com/example/gauger/gauger/engine/BuilderMaxPassesPinLaw" (7 : Nat) "com/example/gauger/gauger/engine/PageRankSettings$Builder") a0 Z = true := hw _ (List.mem_of_getElem? (i := 0) rfl)
theorem wd1 {a0 : Array Value} {Z : State} (hw : ∀ d ∈ tables_1, d.before a0 Z = true) : Jvm.Cond.before (Jvm.Cond.instantiable "com/example/gauger/gauger/engine/PageRankSettings$Builder" (8 : Nat)) a0 Z = true := hw _ (List.mem_of_getElem? (i := 1) rfl)
theorem wd2 {a0 : Array Value} {Z : State} (hw : ∀ d ∈ tables_1, d.before a0 Z = true) : Jvm.Cond.before (Jvm.Cond.initialized "com/example/gauger/gauger/engine/PageRankSettings$Builder") a0 Z = true := hw _ (List.mem_of_getElem? (i := 2) rfl)
theorem wd3 {a0 : Array Value} {Z : State} (hw : ∀ d ∈ tables_1, d.before a0 Z = true) : Jvm.Cond.before (Jvm.Cond.methodLink "com/example/gauger/gauger/engine/BuilderMaxPassesPinLaw" (9 : Nat) ({ cls := "com/example/gauger/gauger/engine/PageRankSettings$Builder", name := "<init>", desc := "()V" } : Jvm.MethodName)) a0 Z = true := hw _ (List.mem_of_getElem? (i := 3) rfl)
theorem wd4 {a0 : Array Value} {Z : State} (hw : ∀ d ∈ tables_1, d.before a0 Z = true) : Jvm.Cond.before (Jvm.Cond.instanceMethod ({ cls := "com/example/gauger/gauger/engine/PageRankSettings$Builder", name := "<init>", desc := "()V" } : Jvm.MethodName)) a0 Z = true := hw _ (List.mem_of_getElem? (i := 4) rfl)
theorem wd5 {a0 : Array Value} {Z : State} (hw : ∀ d ∈ tables_1, d.before a0 Z = true) : Jvm.Cond.before (Jvm.Cond.code ({ cls := "com/example/gauger/gauger/engine/PageRankSettings$Builder", name := "<init>", desc := "()V" } : Jvm.MethodName) prog_10_method_1_code (1 : Nat) (Option.none : Option Jvm.ClassFile.FieldType)) a0 Z = true := hw _ (List.mem_of_getElem? (i := 5) rfl)
theorem wd6 {a0 : Array Value} {Z : State} (hw : ∀ d ∈ tables_1, d.before a0 Z = true) : Jvm.Cond.before (Jvm.Cond.methodLink "com/example/gauger/gauger/engine/PageRankSettings$Builder" (1 : Nat) ({ cls := "java/lang/Object", name := "<init>", desc := "()V" } : Jvm.MethodName)) a0 Z = true := hw _ (List.mem_of_getElem? (i := 6) rfl)
theorem wd7 {a0 : Array Value} {Z : State} (hw : ∀ d ∈ tables_1, d.before a0 Z = true) : Jvm.Cond.before (Jvm.Cond.instanceMethod ({ cls := "java/lang/Object", name := "<init>", desc := "()V" } : Jvm.MethodName)) a0 Z = true := hw _ (List.mem_of_getElem? (i := 7) rfl)
theorem wd8 {a0 : Array Value} {Z : State} (hw : ∀ d ∈ tables_1, d.before a0 Z = true) : Jvm.Cond.before (Jvm.Cond.code ({ cls := "java/lang/Object", name := "<init>", desc := "()V" } : Jvm.MethodName) object_method_1_code (1 : Nat) (Option.none : Option Jvm.ClassFile.FieldType)) a0 Z = true := hw _ (List.mem_of_getElem? (i := 8) rfl)
theorem wd9 {a0 : Array Value} {Z : State} (hw : ∀ d ∈ tables_1, d.before a0 Z = true) : Jvm.Cond.before (Jvm.Cond.constantDouble "com/example/gauger/gauger/engine/PageRankSettings$Builder" (7 : Nat) (4605831338911806259 : UInt64)) a0 Z = true := hw _ (List.mem_of_getElem? (i := 9) rfl)
theorem wd10 {a0 : Array Value} {Z : State} (hw : ∀ d ∈ tables_1, d.before a0 Z = true) : Jvm.Cond.before (Jvm.Cond.fieldLink "com/example/gauger/gauger/engine/PageRankSettings$Builder" (9 : Nat) "com/example/gauger/gauger/engine/PageRankSettings$Builder" "damping" "D") a0 Z = true := hw _ (List.mem_of_getElem? (i := 10) rfl)
theorem wd11 {a0 : Array Value} {Z : State} (hw : ∀ d ∈ tables_1, d.before a0 Z = true) : Jvm.Cond.before (Jvm.Cond.lays "com/example/gauger/gauger/engine/PageRankSettings$Builder" "com/example/gauger/gauger/engine/PageRankSettings$Builder" "damping" "D") a0 Z = true := hw _ (List.mem_of_getElem? (i := 11) rfl)
theorem wd12 {a0 : Array Value} {Z : State} (hw : ∀ d ∈ tables_1, d.before a0 Z = true) : Jvm.Cond.before (Jvm.Cond.fieldLink "com/example/gauger/gauger/engine/PageRankSettings$Builder" (15 : Nat) "com/example/gauger/gauger/engine/PageRankSettings$Builder" "start" "D") a0 Z = true := hw _ (List.mem_of_getElem? (i := 12) rfl)
theorem wd13 {a0 : Array Value} {Z : State} (hw : ∀ d ∈ tables_1, d.before a0 Z = true) : Jvm.Cond.before (Jvm.Cond.lays "com/example/gauger/gauger/engine/PageRankSettings$Builder" "com/example/gauger/gauger/engine/PageRankSettings$Builder" "start" "D") a0 Z = true := hw _ (List.mem_of_getElem? (i := 13) rfl)
theorem wd14 {a0 : Array Value} {Z : State} (hw : ∀ d ∈ tables_1, d.before a0 Z = true) : Jvm.Cond.before (Jvm.Cond.constantDouble "com/example/gauger/gauger/engine/PageRankSettings$Builder" (18 : Nat) (4427486594234968593 : UInt64)) a0 Z = true := hw _ (List.mem_of_getElem? (i := 14) rfl)
theorem wd15 {a0 : Array Value} {Z : State} (hw : ∀ d ∈ tables_1, d.before a0 Z = true) : Jvm.Cond.before (Jvm.Cond.fieldLink "com/example/gauger/gauger/engine/PageRankSettings$Builder" (20 : Nat) "com/example/gauger/gauger/engine/PageRankSettings$Builder" "tolerance" "D") a0 Z = true := hw _ (List.mem_of_getElem? (i := 15) rfl)
theorem wd16 {a0 : Array Value} {Z : State} (hw : ∀ d ∈ tables_1, d.before a0 Z = true) : Jvm.Cond.before (Jvm.Cond.lays "com/example/gauger/gauger/engine/PageRankSettings$Builder" "com/example/gauger/gauger/engine/PageRankSettings$Builder" "tolerance" "D") a0 Z = true := hw _ (List.mem_of_getElem? (i := 16) rfl)
theorem wd17 {a0 : Array Value} {Z : State} (hw : ∀ d ∈ tables_1, d.before a0 Z = true) : Jvm.Cond.before (Jvm.Cond.fieldLink "com/example/gauger/gauger/engine/PageRankSettings$Builder" (23 : Nat) "com/example/gauger/gauger/engine/PageRankSettings$Builder" "maxPasses" "I") a0 Z = true := hw _ (List.mem_of_getElem? (i := 17) rfl)
theorem wd18 {a0 : Array Value} {Z : State} (hw : ∀ d ∈ tables_1, d.before a0 Z = true) : Jvm.Cond.before (Jvm.Cond.lays "com/example/gauger/gauger/engine/PageRankSettings$Builder" "com/example/gauger/gauger/engine/PageRankSettings$Builder" "maxPasses" "I") a0 Z = true := hw _ (List.mem_of_getElem? (i := 18) rfl)
theorem wd19 {a0 : Array Value} {Z : State} (hw : ∀ d ∈ tables_1, d.before a0 Z = true) : Jvm.Cond.before (Jvm.Cond.fieldLink "com/example/gauger/gauger/engine/PageRankSettings$Builder" (27 : Nat) "com/example/gauger/gauger/engine/Updates" "AFTER_PASS" "Lcom/example/gauger/gauger/engine/Updates;") a0 Z = true := hw _ (List.mem_of_getElem? (i := 19) rfl)
theorem wd20 {a0 : Array Value} {Z : State} (hw : ∀ d ∈ tables_1, d.before a0 Z = true) : Jvm.Cond.before (Jvm.Cond.initialized "com/example/gauger/gauger/engine/Updates") a0 Z = true := hw _ (List.mem_of_getElem? (i := 20) rfl)
theorem wd21 {a0 : Array Value} {Z : State} (hw : ∀ d ∈ tables_1, d.before a0 Z = true) : Jvm.Cond.before (Jvm.Cond.laysStatic "com/example/gauger/gauger/engine/Updates" "AFTER_PASS" "Lcom/example/gauger/gauger/engine/Updates;") a0 Z = true := hw _ (List.mem_of_getElem? (i := 21) rfl)
theorem wd22 {a0 : Array Value} {Z : State} (hw : ∀ d ∈ tables_1, d.before a0 Z = true) : Jvm.Cond.before (Jvm.Cond.fieldLink "com/example/gauger/gauger/engine/PageRankSettings$Builder" (33 : Nat) "com/example/gauger/gauger/engine/PageRankSettings$Builder" "updates" "Lcom/example/gauger/gauger/engine/Updates;") a0 Z = true := hw _ (List.mem_of_getElem? (i := 22) rfl)
theorem wd23 {a0 : Array Value} {Z : State} (hw : ∀ d ∈ tables_1, d.before a0 Z = true) : Jvm.Cond.before (Jvm.Cond.lays "com/example/gauger/gauger/engine/PageRankSettings$Builder" "com/example/gauger/gauger/engine/PageRankSettings$Builder" "updates" "Lcom/example/gauger/gauger/engine/Updates;") a0 Z = true := hw _ (List.mem_of_getElem? (i := 23) rfl)
theorem wd24 {a0 : Array Value} {Z : State} (hw : ∀ d ∈ tables_1, d.before a0 Z = true) : Jvm.Cond.before (Jvm.Cond.fieldLink "com/example/gauger/gauger/engine/PageRankSettings$Builder" (36 : Nat) "com/example/gauger/gauger/engine/Scale" "N" "Lcom/example/gauger/gauger/engine/Scale;") a0 Z = true := hw _ (List.mem_of_getElem? (i := 24) rfl)
theorem wd25 {a0 : Array Value} {Z : State} (hw : ∀ d ∈ tables_1, d.before a0 Z = true) : Jvm.Cond.before (Jvm.Cond.initialized "com/example/gauger/gauger/engine/Scale") a0 Z = true := hw _ (List.mem_of_getElem? (i := 25) rfl)
theorem wd26 {a0 : Array Value} {Z : State} (hw : ∀ d ∈ tables_1, d.before a0 Z = true) : Jvm.Cond.before (Jvm.Cond.laysStatic "com/example/gauger/gauger/engine/Scale" "N" "Lcom/example/gauger/gauger/engine/Scale;") a0 Z = true := hw _ (List.mem_of_getElem? (i := 26) rfl)
theorem wd27 {a0 : Array Value} {Z : State} (hw : ∀ d ∈ tables_1, d.before a0 Z = true) : Jvm.Cond.before (Jvm.Cond.fieldLink "com/example/gauger/gauger/engine/PageRankSettings$Builder" (42 : Nat) "com/example/gauger/gauger/engine/PageRankSettings$Builder" "scale" "Lcom/example/gauger/gauger/engine/Scale;") a0 Z = true := hw _ (List.mem_of_getElem? (i := 27) rfl)
theorem wd28 {a0 : Array Value} {Z : State} (hw : ∀ d ∈ tables_1, d.before a0 Z = true) : Jvm.Cond.before (Jvm.Cond.lays "com/example/gauger/gauger/engine/PageRankSettings$Builder" "com/example/gauger/gauger/engine/PageRankSettings$Builder" "scale" "Lcom/example/gauger/gauger/engine/Scale;") a0 Z = true := hw _ (List.mem_of_getElem? (i := 28) rfl)
theorem wd29 {a0 : Array Value} {Z : State} (hw : ∀ d ∈ tables_1, d.before a0 Z = true) : Jvm.Cond.before (Jvm.Cond.fieldLink "com/example/gauger/gauger/engine/PageRankSettings$Builder" (45 : Nat) "com/example/gauger/gauger/engine/Dangling" "KEEP" "Lcom/example/gauger/gauger/engine/Dangling;") a0 Z = true := hw _ (List.mem_of_getElem? (i := 29) rfl)
theorem wd30 {a0 : Array Value} {Z : State} (hw : ∀ d ∈ tables_1, d.before a0 Z = true) : Jvm.Cond.before (Jvm.Cond.initialized "com/example/gauger/gauger/engine/Dangling") a0 Z = true := hw _ (List.mem_of_getElem? (i := 30) rfl)
theorem wd31 {a0 : Array Value} {Z : State} (hw : ∀ d ∈ tables_1, d.before a0 Z = true) : Jvm.Cond.before (Jvm.Cond.laysStatic "com/example/gauger/gauger/engine/Dangling" "KEEP" "Lcom/example/gauger/gauger/engine/Dangling;") a0 Z = true := hw _ (List.mem_of_getElem? (i := 31) rfl)
theorem wd32 {a0 : Array Value} {Z : State} (hw : ∀ d ∈ tables_1, d.before a0 Z = true) : Jvm.Cond.before (Jvm.Cond.fieldLink "com/example/gauger/gauger/engine/PageRankSettings$Builder" (51 : Nat) "com/example/gauger/gauger/engine/PageRankSettings$Builder" "dangling" "Lcom/example/gauger/gauger/engine/Dangling;") a0 Z = true := hw _ (List.mem_of_getElem? (i := 32) rfl)
theorem wd33 {a0 : Array Value} {Z : State} (hw : ∀ d ∈ tables_1, d.before a0 Z = true) : Jvm.Cond.before (Jvm.Cond.lays "com/example/gauger/gauger/engine/PageRankSettings$Builder" "com/example/gauger/gauger/engine/PageRankSettings$Builder" "dangling" "Lcom/example/gauger/gauger/engine/Dangling;") a0 Z = true := hw _ (List.mem_of_getElem? (i := 33) rfl)
theorem wd34 {a0 : Array Value} {Z : State} (hw : ∀ d ∈ tables_1, d.before a0 Z = true) : Jvm.Cond.before (Jvm.Cond.methodLink "com/example/gauger/gauger/engine/PageRankSettings$Builder" (54 : Nat) ({ cls := "java/util/Set", name := "of", desc := "()Ljava/util/Set;" } : Jvm.MethodName)) a0 Z = true := hw _ (List.mem_of_getElem? (i := 34) rfl)
theorem wd35 {a0 : Array Value} {Z : State} (hw : ∀ d ∈ tables_1, d.before a0 Z = true) : Jvm.Cond.before (Jvm.Cond.static ({ cls := "java/util/Set", name := "of", desc := "()Ljava/util/Set;" } : Jvm.MethodName)) a0 Z = true := hw _ (List.mem_of_getElem? (i := 35) rfl)
theorem wd36 {a0 : Array Value} {Z : State} (hw : ∀ d ∈ tables_1, d.before a0 Z = true) : Jvm.Cond.before (Jvm.Cond.initialized "java/util/Set") a0 Z = true := hw _ (List.mem_of_getElem? (i := 36) rfl)
theorem wd37 {a0 : Array Value} {Z : State} (hw : ∀ d ∈ tables_1, d.before a0 Z = true) : Jvm.Cond.before (Jvm.Cond.code ({ cls := "java/util/Set", name := "of", desc := "()Ljava/util/Set;" } : Jvm.MethodName) jdk_96_method_17_code (0 : Nat) (Option.some (Jvm.ClassFile.FieldType.object "java/util/Set"))) a0 Z = true := hw _ (List.mem_of_getElem? (i := 37) rfl)
theorem wd38 {a0 : Array Value} {Z : State} (hw : ∀ d ∈ tables_1, d.before a0 Z = true) : Jvm.Cond.before (Jvm.Cond.fieldLink "java/util/Set" (9 : Nat) "java/util/ImmutableCollections" "EMPTY_SET" "Ljava/util/ImmutableCollections$SetN;") a0 Z = true := hw _ (List.mem_of_getElem? (i := 38) rfl)
theorem wd40 {a0 : Array Value} {Z : State} (hw : ∀ d ∈ tables_1, d.before a0 Z = true) : Jvm.Cond.before (Jvm.Cond.fieldLink "com/example/gauger/gauger/engine/PageRankSettings$Builder" (60 : Nat) "com/example/gauger/gauger/engine/PageRankSettings$Builder" "personal" "Ljava/util/Set;") a0 Z = true := hw _ (List.mem_of_getElem? (i := 40) rfl)
theorem wd41 {a0 : Array Value} {Z : State} (hw : ∀ d ∈ tables_1, d.before a0 Z = true) : Jvm.Cond.before (Jvm.Cond.lays "com/example/gauger/gauger/engine/PageRankSettings$Builder" "com/example/gauger/gauger/engine/PageRankSettings$Builder" "personal" "Ljava/util/Set;") a0 Z = true := hw _ (List.mem_of_getElem? (i := 41) rfl)
theorem wd42 {a0 : Array Value} {Z : State} (hw : ∀ d ∈ tables_1, d.before a0 Z = true) : Jvm.Cond.before (Jvm.Cond.methodLink "com/example/gauger/gauger/engine/BuilderMaxPassesPinLaw" (10 : Nat) ({ cls := "com/example/gauger/gauger/engine/PageRankSettings$Builder", name := "build", desc := "()Lcom/example/gauger/gauger/engine/PageRankSettings;" } : Jvm.MethodName)) a0 Z = true := hw _ (List.mem_of_getElem? (i := 42) rfl)
theorem wd43 {a0 : Array Value} {Z : State} (hw : ∀ d ∈ tables_1, d.before a0 Z = true) : Jvm.Cond.before (Jvm.Cond.declares ({ cls := "com/example/gauger/gauger/engine/PageRankSettings$Builder", name := "build", desc := "()Lcom/example/gauger/gauger/engine/PageRankSettings;" } : Jvm.MethodName)) a0 Z = true := hw _ (List.mem_of_getElem? (i := 43) rfl)
theorem wd44 {a0 : Array Value} {Z : State} (hw : ∀ d ∈ tables_1, d.before a0 Z = true) : Jvm.Cond.before (Jvm.Cond.instanceMethod ({ cls := "com/example/gauger/gauger/engine/PageRankSettings$Builder", name := "build", desc := "()Lcom/example/gauger/gauger/engine/PageRankSettings;" } : Jvm.MethodName)) a0 Z = true := hw _ (List.mem_of_getElem? (i := 44) rfl)
theorem wd45 {a0 : Array Value} {Z : State} (hw : ∀ d ∈ tables_1, d.before a0 Z = true) : Jvm.Cond.before (Jvm.Cond.selects "com/example/gauger/gauger/engine/PageRankSettings$Builder" ({ cls := "com/example/gauger/gauger/engine/PageRankSettings$Builder", name := "build", desc := "()Lcom/example/gauger/gauger/engine/PageRankSettings;" } : Jvm.MethodName) ({ cls := "com/example/gauger/gauger/engine/PageRankSettings$Builder", name := "build", desc := "()Lcom/example/gauger/gauger/engine/PageRankSettings;" } : Jvm.MethodName)) a0 Z = true := hw _ (List.mem_of_getElem? (i := 45) rfl)
theorem wd46 {a0 : Array Value} {Z : State} (hw : ∀ d ∈ tables_1, d.before a0 Z = true) : Jvm.Cond.before (Jvm.Cond.code ({ cls := "com/example/gauger/gauger/engine/PageRankSettings$Builder", name := "build", desc := "()Lcom/example/gauger/gauger/engine/PageRankSettings;" } : Jvm.MethodName) prog_10_method_10_code (1 : Nat) (Option.some (Jvm.ClassFile.FieldType.object "com/example/gauger/gauger/engine/PageRankSettings"))) a0 Z = true := hw _ (List.mem_of_getElem? (i := 46) rfl)
theorem wd47 {a0 : Array Value} {Z : State} (hw : ∀ d ∈ tables_1, d.before a0 Z = true) : Jvm.Cond.before (Jvm.Cond.classLink "com/example/gauger/gauger/engine/PageRankSettings$Builder" (129 : Nat) "com/example/gauger/gauger/engine/PageRankSettings") a0 Z = true := hw _ (List.mem_of_getElem? (i := 47) rfl)
theorem wd48 {a0 : Array Value} {Z : State} (hw : ∀ d ∈ tables_1, d.before a0 Z = true) : Jvm.Cond.before (Jvm.Cond.instantiable "com/example/gauger/gauger/engine/PageRankSettings" (8 : Nat)) a0 Z = true := hw _ (List.mem_of_getElem? (i := 48) rfl)
theorem wd49 {a0 : Array Value} {Z : State} (hw : ∀ d ∈ tables_1, d.before a0 Z = true) : Jvm.Cond.before (Jvm.Cond.initialized "com/example/gauger/gauger/engine/PageRankSettings") a0 Z = true := hw _ (List.mem_of_getElem? (i := 49) rfl)
theorem wd50 {a0 : Array Value} {Z : State} (hw : ∀ d ∈ tables_1, d.before a0 Z = true) : Jvm.Cond.before (Jvm.Cond.methodLinkNest "com/example/gauger/gauger/engine/PageRankSettings$Builder" (131 : Nat) ({ cls := "com/example/gauger/gauger/engine/PageRankSettings", name := "<init>", desc := "(Lcom/example/gauger/gauger/engine/PageRankSettings$Builder;)V" } : Jvm.MethodName) "com/example/gauger/gauger/engine/PageRankSettings") a0 Z = true := hw _ (List.mem_of_getElem? (i := 50) rfl)
theorem wd51 {a0 : Array Value} {Z : State} (hw : ∀ d ∈ tables_1, d.before a0 Z = true) : Jvm.Cond.before (Jvm.Cond.instanceMethod ({ cls := "com/example/gauger/gauger/engine/PageRankSettings", name := "<init>", desc := "(Lcom/example/gauger/gauger/engine/PageRankSettings$Builder;)V" } : Jvm.MethodName)) a0 Z = true := hw _ (List.mem_of_getElem? (i := 51) rfl)
theorem wd52 {a0 : Array Value} {Z : State} (hw : ∀ d ∈ tables_1, d.before a0 Z = true) : Jvm.Cond.before (Jvm.Cond.code ({ cls := "com/example/gauger/gauger/engine/PageRankSettings", name := "<init>", desc := "(Lcom/example/gauger/gauger/engine/PageRankSettings$Builder;)V" } : Jvm.MethodName) prog_9_method_1_code (2 : Nat) (Option.none : Option Jvm.ClassFile.FieldType)) a0 Z = true := hw _ (List.mem_of_getElem? (i := 52) rfl)
theorem wd53 {a0 : Array Value} {Z : State} (hw : ∀ d ∈ tables_1, d.before a0 Z = true) : Jvm.Cond.before (Jvm.Cond.methodLink "com/example/gauger/gauger/engine/PageRankSettings" (1 : Nat) ({ cls := "java/lang/Object", name := "<init>", desc := "()V" } : Jvm.MethodName)) a0 Z = true := hw _ (List.mem_of_getElem? (i := 53) rfl)
theorem wd54 {a0 : Array Value} {Z : State} (hw : ∀ d ∈ tables_1, d.before a0 Z = true) : Jvm.Cond.before (Jvm.Cond.fieldRef "com/example/gauger/gauger/engine/PageRankSettings" (7 : Nat) "com/example/gauger/gauger/engine/PageRankSettings$Builder" "damping" "D") a0 Z = true := hw _ (List.mem_of_getElem? (i := 54) rfl)
theorem wd55 {a0 : Array Value} {Z : State} (hw : ∀ d ∈ tables_1, d.before a0 Z = true) : Jvm.Cond.before (Jvm.Cond.fieldLink "com/example/gauger/gauger/engine/PageRankSettings" (13 : Nat) "com/example/gauger/gauger/engine/PageRankSettings" "damping" "D") a0 Z = true := hw _ (List.mem_of_getElem? (i := 55) rfl)
theorem wd56 {a0 : Array Value} {Z : State} (hw : ∀ d ∈ tables_1, d.before a0 Z = true) : Jvm.Cond.before (Jvm.Cond.laysFinal "com/example/gauger/gauger/engine/PageRankSettings" "com/example/gauger/gauger/engine/PageRankSettings" "damping" "D") a0 Z = true := hw _ (List.mem_of_getElem? (i := 56) rfl)
theorem wd57 {a0 : Array Value} {Z : State} (hw : ∀ d ∈ tables_1, d.before a0 Z = true) : Jvm.Cond.before (Jvm.Cond.fieldRef "com/example/gauger/gauger/engine/PageRankSettings" (16 : Nat) "com/example/gauger/gauger/engine/PageRankSettings$Builder" "start" "D") a0 Z = true := hw _ (List.mem_of_getElem? (i := 57) rfl)
theorem wd58 {a0 : Array Value} {Z : State} (hw : ∀ d ∈ tables_1, d.before a0 Z = true) : Jvm.Cond.before (Jvm.Cond.fieldLink "com/example/gauger/gauger/engine/PageRankSettings" (19 : Nat) "com/example/gauger/gauger/engine/PageRankSettings" "start" "D") a0 Z = true := hw _ (List.mem_of_getElem? (i := 58) rfl)
theorem wd59 {a0 : Array Value} {Z : State} (hw : ∀ d ∈ tables_1, d.before a0 Z = true) : Jvm.Cond.before (Jvm.Cond.laysFinal "com/example/gauger/gauger/engine/PageRankSettings" "com/example/gauger/gauger/engine/PageRankSettings" "start" "D") a0 Z = true := hw _ (List.mem_of_getElem? (i := 59) rfl)
theorem wd60 {a0 : Array Value} {Z : State} (hw : ∀ d ∈ tables_1, d.before a0 Z = true) : Jvm.Cond.before (Jvm.Cond.fieldRef "com/example/gauger/gauger/engine/PageRankSettings" (20 : Nat) "com/example/gauger/gauger/engine/PageRankSettings$Builder" "tolerance" "D") a0 Z = true := hw _ (List.mem_of_getElem? (i := 60) rfl)
theorem wd61 {a0 : Array Value} {Z : State} (hw : ∀ d ∈ tables_1, d.before a0 Z = true) : Jvm.Cond.before (Jvm.Cond.fieldLink "com/example/gauger/gauger/engine/PageRankSettings" (23 : Nat) "com/example/gauger/gauger/engine/PageRankSettings" "tolerance" "D") a0 Z = true := hw _ (List.mem_of_getElem? (i := 61) rfl)
theorem wd62 {a0 : Array Value} {Z : State} (hw : ∀ d ∈ tables_1, d.before a0 Z = true) : Jvm.Cond.before (Jvm.Cond.laysFinal "com/example/gauger/gauger/engine/PageRankSettings" "com/example/gauger/gauger/engine/PageRankSettings" "tolerance" "D") a0 Z = true := hw _ (List.mem_of_getElem? (i := 62) rfl)
theorem wd63 {a0 : Array Value} {Z : State} (hw : ∀ d ∈ tables_1, d.before a0 Z = true) : Jvm.Cond.before (Jvm.Cond.fieldRef "com/example/gauger/gauger/engine/PageRankSettings" (24 : Nat) "com/example/gauger/gauger/engine/PageRankSettings$Builder" "maxPasses" "I") a0 Z = true := hw _ (List.mem_of_getElem? (i := 63) rfl)
theorem wd64 {a0 : Array Value} {Z : State} (hw : ∀ d ∈ tables_1, d.before a0 Z = true) : Jvm.Cond.before (Jvm.Cond.fieldLink "com/example/gauger/gauger/engine/PageRankSettings" (28 : Nat) "com/example/gauger/gauger/engine/PageRankSettings" "maxPasses" "I") a0 Z = true := hw _ (List.mem_of_getElem? (i := 64) rfl)
theorem wd65 {a0 : Array Value} {Z : State} (hw : ∀ d ∈ tables_1, d.before a0 Z = true) : Jvm.Cond.before (Jvm.Cond.laysFinal "com/example/gauger/gauger/engine/PageRankSettings" "com/example/gauger/gauger/engine/PageRankSettings" "maxPasses" "I") a0 Z = true := hw _ (List.mem_of_getElem? (i := 65) rfl)
theorem wd66 {a0 : Array Value} {Z : State} (hw : ∀ d ∈ tables_1, d.before a0 Z = true) : Jvm.Cond.before (Jvm.Cond.fieldRef "com/example/gauger/gauger/engine/PageRankSettings" (29 : Nat) "com/example/gauger/gauger/engine/PageRankSettings$Builder" "updates" "Lcom/example/gauger/gauger/engine/Updates;") a0 Z = true := hw _ (List.mem_of_getElem? (i := 66) rfl)
theorem wd67 {a0 : Array Value} {Z : State} (hw : ∀ d ∈ tables_1, d.before a0 Z = true) : Jvm.Cond.before (Jvm.Cond.fieldLink "com/example/gauger/gauger/engine/PageRankSettings" (33 : Nat) "com/example/gauger/gauger/engine/PageRankSettings" "updates" "Lcom/example/gauger/gauger/engine/Updates;") a0 Z = true := hw _ (List.mem_of_getElem? (i := 67) rfl)
theorem wd68 {a0 : Array Value} {Z : State} (hw : ∀ d ∈ tables_1, d.before a0 Z = true) : Jvm.Cond.before (Jvm.Cond.laysFinal "com/example/gauger/gauger/engine/PageRankSettings" "com/example/gauger/gauger/engine/PageRankSettings" "updates" "Lcom/example/gauger/gauger/engine/Updates;") a0 Z = true := hw _ (List.mem_of_getElem? (i := 68) rfl)
theorem wd69 {a0 : Array Value} {Z : State} (hw : ∀ d ∈ tables_1, d.before a0 Z = true) : Jvm.Cond.before (Jvm.Cond.fieldRef "com/example/gauger/gauger/engine/PageRankSettings" (34 : Nat) "com/example/gauger/gauger/engine/PageRankSettings$Builder" "scale" "Lcom/example/gauger/gauger/engine/Scale;") a0 Z = true := hw _ (List.mem_of_getElem? (i := 69) rfl)
theorem wd70 {a0 : Array Value} {Z : State} (hw : ∀ d ∈ tables_1, d.before a0 Z = true) : Jvm.Cond.before (Jvm.Cond.fieldLink "com/example/gauger/gauger/engine/PageRankSettings" (38 : Nat) "com/example/gauger/gauger/engine/PageRankSettings" "scale" "Lcom/example/gauger/gauger/engine/Scale;") a0 Z = true := hw _ (List.mem_of_getElem? (i := 70) rfl)
theorem wd71 {a0 : Array Value} {Z : State} (hw : ∀ d ∈ tables_1, d.before a0 Z = true) : Jvm.Cond.before (Jvm.Cond.laysFinal "com/example/gauger/gauger/engine/PageRankSettings" "com/example/gauger/gauger/engine/PageRankSettings" "scale" "Lcom/example/gauger/gauger/engine/Scale;") a0 Z = true := hw _ (List.mem_of_getElem? (i := 71) rfl)
theorem wd72 {a0 : Array Value} {Z : State} (hw : ∀ d ∈ tables_1, d.before a0 Z = true) : Jvm.Cond.before (Jvm.Cond.fieldRef "com/example/gauger/gauger/engine/PageRankSettings" (39 : Nat) "com/example/gauger/gauger/engine/PageRankSettings$Builder" "dangling" "Lcom/example/gauger/gauger/engine/Dangling;") a0 Z = true := hw _ (List.mem_of_getElem? (i := 72) rfl)
theorem wd73 {a0 : Array Value} {Z : State} (hw : ∀ d ∈ tables_1, d.before a0 Z = true) : Jvm.Cond.before (Jvm.Cond.fieldLink "com/example/gauger/gauger/engine/PageRankSettings" (43 : Nat) "com/example/gauger/gauger/engine/PageRankSettings" "dangling" "Lcom/example/gauger/gauger/engine/Dangling;") a0 Z = true := hw _ (List.mem_of_getElem? (i := 73) rfl)
theorem wd74 {a0 : Array Value} {Z : State} (hw : ∀ d ∈ tables_1, d.before a0 Z = true) : Jvm.Cond.before (Jvm.Cond.laysFinal "com/example/gauger/gauger/engine/PageRankSettings" "com/example/gauger/gauger/engine/PageRankSettings" "dangling" "Lcom/example/gauger/gauger/engine/Dangling;") a0 Z = true := hw _ (List.mem_of_getElem? (i := 74) rfl)
theorem wd75 {a0 : Array Value} {Z : State} (hw : ∀ d ∈ tables_1, d.before a0 Z = true) : Jvm.Cond.before (Jvm.Cond.fieldRef "com/example/gauger/gauger/engine/PageRankSettings" (44 : Nat) "com/example/gauger/gauger/engine/PageRankSettings$Builder" "personal" "Ljava/util/Set;") a0 Z = true := hw _ (List.mem_of_getElem? (i := 75) rfl)
theorem wd76 {a0 : Array Value} {Z : State} (hw : ∀ d ∈ tables_1, d.before a0 Z = true) : Jvm.Cond.before (Jvm.Cond.fieldLink "com/example/gauger/gauger/engine/PageRankSettings" (48 : Nat) "com/example/gauger/gauger/engine/PageRankSettings" "personal" "Ljava/util/Set;") a0 Z = true := hw _ (List.mem_of_getElem? (i := 76) rfl)
theorem wd77 {a0 : Array Value} {Z : State} (hw : ∀ d ∈ tables_1, d.before a0 Z = true) : Jvm.Cond.before (Jvm.Cond.laysFinal "com/example/gauger/gauger/engine/PageRankSettings" "com/example/gauger/gauger/engine/PageRankSettings" "personal" "Ljava/util/Set;") a0 Z = true := hw _ (List.mem_of_getElem? (i := 77) rfl)
theorem wd78 {a0 : Array Value} {Z : State} (hw : ∀ d ∈ tables_1, d.before a0 Z = true) : Jvm.Cond.before (Jvm.Cond.methodLink "com/example/gauger/gauger/engine/BuilderMaxPassesPinLaw" (14 : Nat) ({ cls := "com/example/gauger/gauger/engine/PageRankSettings$Builder", name := "maxPasses", desc := "(I)Lcom/example/gauger/gauger/engine/PageRankSettings$Builder;" } : Jvm.MethodName)) a0 Z = true := hw _ (List.mem_of_getElem? (i := 78) rfl)
theorem wd79 {a0 : Array Value} {Z : State} (hw : ∀ d ∈ tables_1, d.before a0 Z = true) : Jvm.Cond.before (Jvm.Cond.declares ({ cls := "com/example/gauger/gauger/engine/PageRankSettings$Builder", name := "maxPasses", desc := "(I)Lcom/example/gauger/gauger/engine/PageRankSettings$Builder;" } : Jvm.MethodName)) a0 Z = true := hw _ (List.mem_of_getElem? (i := 79) rfl)
theorem wd80 {a0 : Array Value} {Z : State} (hw : ∀ d ∈ tables_1, d.before a0 Z = true) : Jvm.Cond.before (Jvm.Cond.instanceMethod ({ cls := "com/example/gauger/gauger/engine/PageRankSettings$Builder", name := "maxPasses", desc := "(I)Lcom/example/gauger/gauger/engine/PageRankSettings$Builder;" } : Jvm.MethodName)) a0 Z = true := hw _ (List.mem_of_getElem? (i := 80) rfl)
theorem wd81 {a0 : Array Value} {Z : State} (hw : ∀ d ∈ tables_1, d.before a0 Z = true) : Jvm.Cond.before (Jvm.Cond.selects "com/example/gauger/gauger/engine/PageRankSettings$Builder" ({ cls := "com/example/gauger/gauger/engine/PageRankSettings$Builder", name := "maxPasses", desc := "(I)Lcom/example/gauger/gauger/engine/PageRankSettings$Builder;" } : Jvm.MethodName) ({ cls := "com/example/gauger/gauger/engine/PageRankSettings$Builder", name := "maxPasses", desc := "(I)Lcom/example/gauger/gauger/engine/PageRankSettings$Builder;" } : Jvm.MethodName)) a0 Z = true := hw _ (List.mem_of_getElem? (i := 81) rfl)
theorem wd82 {a0 : Array Value} {Z : State} (hw : ∀ d ∈ tables_1, d.before a0 Z = true) : Jvm.Cond.before (Jvm.Cond.code ({ cls := "com/example/gauger/gauger/engine/PageRankSettings$Builder", name := "maxPasses", desc := "(I)Lcom/example/gauger/gauger/engine/PageRankSettings$Builder;" } : Jvm.MethodName) prog_10_method_5_code (2 : Nat) (Option.some (Jvm.ClassFile.FieldType.object "com/example/gauger/gauger/engine/PageRankSettings$Builder"))) a0 Z = true := hw _ (List.mem_of_getElem? (i := 82) rfl)
theorem wd83 {a0 : Array Value} {Z : State} (hw : ∀ d ∈ tables_1, d.before a0 Z = true) : Jvm.Cond.before (Jvm.Cond.methodLink "com/example/gauger/gauger/engine/BuilderMaxPassesPinLaw" (18 : Nat) ({ cls := "com/example/gauger/gauger/engine/PageRankSettings", name := "maxPasses", desc := "()I" } : Jvm.MethodName)) a0 Z = true := hw _ (List.mem_of_getElem? (i := 83) rfl)
theorem wd84 {a0 : Array Value} {Z : State} (hw : ∀ d ∈ tables_1, d.before a0 Z = true) : Jvm.Cond.before (Jvm.Cond.declares ({ cls := "com/example/gauger/gauger/engine/PageRankSettings", name := "maxPasses", desc := "()I" } : Jvm.MethodName)) a0 Z = true := hw _ (List.mem_of_getElem? (i := 84) rfl)
theorem wd85 {a0 : Array Value} {Z : State} (hw : ∀ d ∈ tables_1, d.before a0 Z = true) : Jvm.Cond.before (Jvm.Cond.instanceMethod ({ cls := "com/example/gauger/gauger/engine/PageRankSettings", name := "maxPasses", desc := "()I" } : Jvm.MethodName)) a0 Z = true := hw _ (List.mem_of_getElem? (i := 85) rfl)
theorem wd86 {a0 : Array Value} {Z : State} (hw : ∀ d ∈ tables_1, d.before a0 Z = true) : Jvm.Cond.before (Jvm.Cond.selects "com/example/gauger/gauger/engine/PageRankSettings" ({ cls := "com/example/gauger/gauger/engine/PageRankSettings", name := "maxPasses", desc := "()I" } : Jvm.MethodName) ({ cls := "com/example/gauger/gauger/engine/PageRankSettings", name := "maxPasses", desc := "()I" } : Jvm.MethodName)) a0 Z = true := hw _ (List.mem_of_getElem? (i := 86) rfl)
theorem wd87 {a0 : Array Value} {Z : State} (hw : ∀ d ∈ tables_1, d.before a0 Z = true) : Jvm.Cond.before (Jvm.Cond.code ({ cls := "com/example/gauger/gauger/engine/PageRankSettings", name := "maxPasses", desc := "()I" } : Jvm.MethodName) prog_9_method_5_code (1 : Nat) (Option.some Jvm.ClassFile.FieldType.int)) a0 Z = true := hw _ (List.mem_of_getElem? (i := 87) rfl)
theorem wd88 {a0 : Array Value} {Z : State} (hw : ∀ d ∈ tables_1, d.before a0 Z = true) : Jvm.Cond.before (Jvm.Cond.methodLink "com/example/gauger/gauger/engine/BuilderMaxPassesPinLaw" (23 : Nat) ({ cls := "com/example/gauger/gauger/engine/PageRankSettings", name := "damping", desc := "()D" } : Jvm.MethodName)) a0 Z = true := hw _ (List.mem_of_getElem? (i := 88) rfl)
theorem wd89 {a0 : Array Value} {Z : State} (hw : ∀ d ∈ tables_1, d.before a0 Z = true) : Jvm.Cond.before (Jvm.Cond.declares ({ cls := "com/example/gauger/gauger/engine/PageRankSettings", name := "damping", desc := "()D" } : Jvm.MethodName)) a0 Z = true := hw _ (List.mem_of_getElem? (i := 89) rfl)
theorem wd90 {a0 : Array Value} {Z : State} (hw : ∀ d ∈ tables_1, d.before a0 Z = true) : Jvm.Cond.before (Jvm.Cond.instanceMethod ({ cls := "com/example/gauger/gauger/engine/PageRankSettings", name := "damping", desc := "()D" } : Jvm.MethodName)) a0 Z = true := hw _ (List.mem_of_getElem? (i := 90) rfl)
theorem wd91 {a0 : Array Value} {Z : State} (hw : ∀ d ∈ tables_1, d.before a0 Z = true) : Jvm.Cond.before (Jvm.Cond.selects "com/example/gauger/gauger/engine/PageRankSettings" ({ cls := "com/example/gauger/gauger/engine/PageRankSettings", name := "damping", desc := "()D" } : Jvm.MethodName) ({ cls := "com/example/gauger/gauger/engine/PageRankSettings", name := "damping", desc := "()D" } : Jvm.MethodName)) a0 Z = true := hw _ (List.mem_of_getElem? (i := 91) rfl)
theorem wd92 {a0 : Array Value} {Z : State} (hw : ∀ d ∈ tables_1, d.before a0 Z = true) : Jvm.Cond.before (Jvm.Cond.code ({ cls := "com/example/gauger/gauger/engine/PageRankSettings", name := "damping", desc := "()D" } : Jvm.MethodName) prog_9_method_2_code (1 : Nat) (Option.some Jvm.ClassFile.FieldType.double)) a0 Z = true := hw _ (List.mem_of_getElem? (i := 92) rfl)
theorem wd93 {a0 : Array Value} {Z : State} (hw : ∀ d ∈ tables_1, d.before a0 Z = true) : Jvm.Cond.before (Jvm.Cond.methodLink "com/example/gauger/gauger/engine/BuilderMaxPassesPinLaw" (27 : Nat) ({ cls := "com/example/gauger/gauger/engine/PageRankSettings", name := "start", desc := "()D" } : Jvm.MethodName)) a0 Z = true := hw _ (List.mem_of_getElem? (i := 93) rfl)
theorem wd94 {a0 : Array Value} {Z : State} (hw : ∀ d ∈ tables_1, d.before a0 Z = true) : Jvm.Cond.before (Jvm.Cond.declares ({ cls := "com/example/gauger/gauger/engine/PageRankSettings", name := "start", desc := "()D" } : Jvm.MethodName)) a0 Z = true := hw _ (List.mem_of_getElem? (i := 94) rfl)
theorem wd95 {a0 : Array Value} {Z : State} (hw : ∀ d ∈ tables_1, d.before a0 Z = true) : Jvm.Cond.before (Jvm.Cond.instanceMethod ({ cls := "com/example/gauger/gauger/engine/PageRankSettings", name := "start", desc := "()D" } : Jvm.MethodName)) a0 Z = true := hw _ (List.mem_of_getElem? (i := 95) rfl)
theorem wd96 {a0 : Array Value} {Z : State} (hw : ∀ d ∈ tables_1, d.before a0 Z = true) : Jvm.Cond.before (Jvm.Cond.selects "com/example/gauger/gauger/engine/PageRankSettings" ({ cls := "com/example/gauger/gauger/engine/PageRankSettings", name := "start", desc := "()D" } : Jvm.MethodName) ({ cls := "com/example/gauger/gauger/engine/PageRankSettings", name := "start", desc := "()D" } : Jvm.MethodName)) a0 Z = true := hw _ (List.mem_of_getElem? (i := 96) rfl)
theorem wd97 {a0 : Array Value} {Z : State} (hw : ∀ d ∈ tables_1, d.before a0 Z = true) : Jvm.Cond.before (Jvm.Cond.code ({ cls := "com/example/gauger/gauger/engine/PageRankSettings", name := "start", desc := "()D" } : Jvm.MethodName) prog_9_method_3_code (1 : Nat) (Option.some Jvm.ClassFile.FieldType.double)) a0 Z = true := hw _ (List.mem_of_getElem? (i := 97) rfl)
theorem wd98 {a0 : Array Value} {Z : State} (hw : ∀ d ∈ tables_1, d.before a0 Z = true) : Jvm.Cond.before (Jvm.Cond.methodLink "com/example/gauger/gauger/engine/BuilderMaxPassesPinLaw" (30 : Nat) ({ cls := "com/example/gauger/gauger/engine/PageRankSettings", name := "tolerance", desc := "()D" } : Jvm.MethodName)) a0 Z = true := hw _ (List.mem_of_getElem? (i := 98) rfl)
theorem wd99 {a0 : Array Value} {Z : State} (hw : ∀ d ∈ tables_1, d.before a0 Z = true) : Jvm.Cond.before (Jvm.Cond.declares ({ cls := "com/example/gauger/gauger/engine/PageRankSettings", name := "tolerance", desc := "()D" } : Jvm.MethodName)) a0 Z = true := hw _ (List.mem_of_getElem? (i := 99) rfl)
theorem wd100 {a0 : Array Value} {Z : State} (hw : ∀ d ∈ tables_1, d.before a0 Z = true) : Jvm.Cond.before (Jvm.Cond.instanceMethod ({ cls := "com/example/gauger/gauger/engine/PageRankSettings", name := "tolerance", desc := "()D" } : Jvm.MethodName)) a0 Z = true := hw _ (List.mem_of_getElem? (i := 100) rfl)
theorem wd101 {a0 : Array Value} {Z : State} (hw : ∀ d ∈ tables_1, d.before a0 Z = true) : Jvm.Cond.before (Jvm.Cond.selects "com/example/gauger/gauger/engine/PageRankSettings" ({ cls := "com/example/gauger/gauger/engine/PageRankSettings", name := "tolerance", desc := "()D" } : Jvm.MethodName) ({ cls := "com/example/gauger/gauger/engine/PageRankSettings", name := "tolerance", desc := "()D" } : Jvm.MethodName)) a0 Z = true := hw _ (List.mem_of_getElem? (i := 101) rfl)
theorem wd102 {a0 : Array Value} {Z : State} (hw : ∀ d ∈ tables_1, d.before a0 Z = true) : Jvm.Cond.before (Jvm.Cond.code ({ cls := "com/example/gauger/gauger/engine/PageRankSettings", name := "tolerance", desc := "()D" } : Jvm.MethodName) prog_9_method_4_code (1 : Nat) (Option.some Jvm.ClassFile.FieldType.double)) a0 Z = true := hw _ (List.mem_of_getElem? (i := 102) rfl)
theorem wd103 {a0 : Array Value} {Z : State} (hw : ∀ d ∈ tables_1, d.before a0 Z = true) : Jvm.Cond.before (Jvm.Cond.methodLink "com/example/gauger/gauger/engine/BuilderMaxPassesPinLaw" (33 : Nat) ({ cls := "com/example/gauger/gauger/engine/PageRankSettings", name := "updates", desc := "()Lcom/example/gauger/gauger/engine/Updates;" } : Jvm.MethodName)) a0 Z = true := hw _ (List.mem_of_getElem? (i := 103) rfl)
theorem wd104 {a0 : Array Value} {Z : State} (hw : ∀ d ∈ tables_1, d.before a0 Z = true) : Jvm.Cond.before (Jvm.Cond.declares ({ cls := "com/example/gauger/gauger/engine/PageRankSettings", name := "updates", desc := "()Lcom/example/gauger/gauger/engine/Updates;" } : Jvm.MethodName)) a0 Z = true := hw _ (List.mem_of_getElem? (i := 104) rfl)
theorem wd105 {a0 : Array Value} {Z : State} (hw : ∀ d ∈ tables_1, d.before a0 Z = true) : Jvm.Cond.before (Jvm.Cond.instanceMethod ({ cls := "com/example/gauger/gauger/engine/PageRankSettings", name := "updates", desc := "()Lcom/example/gauger/gauger/engine/Updates;" } : Jvm.MethodName)) a0 Z = true := hw _ (List.mem_of_getElem? (i := 105) rfl)
theorem wd106 {a0 : Array Value} {Z : State} (hw : ∀ d ∈ tables_1, d.before a0 Z = true) : Jvm.Cond.before (Jvm.Cond.selects "com/example/gauger/gauger/engine/PageRankSettings" ({ cls := "com/example/gauger/gauger/engine/PageRankSettings", name := "updates", desc := "()Lcom/example/gauger/gauger/engine/Updates;" } : Jvm.MethodName) ({ cls := "com/example/gauger/gauger/engine/PageRankSettings", name := "updates", desc := "()Lcom/example/gauger/gauger/engine/Updates;" } : Jvm.MethodName)) a0 Z = true := hw _ (List.mem_of_getElem? (i := 106) rfl)
theorem wd107 {a0 : Array Value} {Z : State} (hw : ∀ d ∈ tables_1, d.before a0 Z = true) : Jvm.Cond.before (Jvm.Cond.code ({ cls := "com/example/gauger/gauger/engine/PageRankSettings", name := "updates", desc := "()Lcom/example/gauger/gauger/engine/Updates;" } : Jvm.MethodName) prog_9_method_6_code (1 : Nat) (Option.some (Jvm.ClassFile.FieldType.object "com/example/gauger/gauger/engine/Updates"))) a0 Z = true := hw _ (List.mem_of_getElem? (i := 107) rfl)
theorem wd108 {a0 : Array Value} {Z : State} (hw : ∀ d ∈ tables_1, d.before a0 Z = true) : Jvm.Cond.before (Jvm.Cond.methodLink "com/example/gauger/gauger/engine/BuilderMaxPassesPinLaw" (37 : Nat) ({ cls := "com/example/gauger/gauger/engine/PageRankSettings", name := "scale", desc := "()Lcom/example/gauger/gauger/engine/Scale;" } : Jvm.MethodName)) a0 Z = true := hw _ (List.mem_of_getElem? (i := 108) rfl)
theorem wd109 {a0 : Array Value} {Z : State} (hw : ∀ d ∈ tables_1, d.before a0 Z = true) : Jvm.Cond.before (Jvm.Cond.declares ({ cls := "com/example/gauger/gauger/engine/PageRankSettings", name := "scale", desc := "()Lcom/example/gauger/gauger/engine/Scale;" } : Jvm.MethodName)) a0 Z = true := hw _ (List.mem_of_getElem? (i := 109) rfl)
theorem wd110 {a0 : Array Value} {Z : State} (hw : ∀ d ∈ tables_1, d.before a0 Z = true) : Jvm.Cond.before (Jvm.Cond.instanceMethod ({ cls := "com/example/gauger/gauger/engine/PageRankSettings", name := "scale", desc := "()Lcom/example/gauger/gauger/engine/Scale;" } : Jvm.MethodName)) a0 Z = true := hw _ (List.mem_of_getElem? (i := 110) rfl)
theorem wd111 {a0 : Array Value} {Z : State} (hw : ∀ d ∈ tables_1, d.before a0 Z = true) : Jvm.Cond.before (Jvm.Cond.selects "com/example/gauger/gauger/engine/PageRankSettings" ({ cls := "com/example/gauger/gauger/engine/PageRankSettings", name := "scale", desc := "()Lcom/example/gauger/gauger/engine/Scale;" } : Jvm.MethodName) ({ cls := "com/example/gauger/gauger/engine/PageRankSettings", name := "scale", desc := "()Lcom/example/gauger/gauger/engine/Scale;" } : Jvm.MethodName)) a0 Z = true := hw _ (List.mem_of_getElem? (i := 111) rfl)
theorem wd112 {a0 : Array Value} {Z : State} (hw : ∀ d ∈ tables_1, d.before a0 Z = true) : Jvm.Cond.before (Jvm.Cond.code ({ cls := "com/example/gauger/gauger/engine/PageRankSettings", name := "scale", desc := "()Lcom/example/gauger/gauger/engine/Scale;" } : Jvm.MethodName) prog_9_method_7_code (1 : Nat) (Option.some (Jvm.ClassFile.FieldType.object "com/example/gauger/gauger/engine/Scale"))) a0 Z = true := hw _ (List.mem_of_getElem? (i := 112) rfl)
theorem wd113 {a0 : Array Value} {Z : State} (hw : ∀ d ∈ tables_1, d.before a0 Z = true) : Jvm.Cond.before (Jvm.Cond.methodLink "com/example/gauger/gauger/engine/BuilderMaxPassesPinLaw" (41 : Nat) ({ cls := "com/example/gauger/gauger/engine/PageRankSettings", name := "dangling", desc := "()Lcom/example/gauger/gauger/engine/Dangling;" } : Jvm.MethodName)) a0 Z = true := hw _ (List.mem_of_getElem? (i := 113) rfl)
theorem wd114 {a0 : Array Value} {Z : State} (hw : ∀ d ∈ tables_1, d.before a0 Z = true) : Jvm.Cond.before (Jvm.Cond.declares ({ cls := "com/example/gauger/gauger/engine/PageRankSettings", name := "dangling", desc := "()Lcom/example/gauger/gauger/engine/Dangling;" } : Jvm.MethodName)) a0 Z = true := hw _ (List.mem_of_getElem? (i := 114) rfl)
theorem wd115 {a0 : Array Value} {Z : State} (hw : ∀ d ∈ tables_1, d.before a0 Z = true) : Jvm.Cond.before (Jvm.Cond.instanceMethod ({ cls := "com/example/gauger/gauger/engine/PageRankSettings", name := "dangling", desc := "()Lcom/example/gauger/gauger/engine/Dangling;" } : Jvm.MethodName)) a0 Z = true := hw _ (List.mem_of_getElem? (i := 115) rfl)
theorem wd116 {a0 : Array Value} {Z : State} (hw : ∀ d ∈ tables_1, d.before a0 Z = true) : Jvm.Cond.before (Jvm.Cond.selects "com/example/gauger/gauger/engine/PageRankSettings" ({ cls := "com/example/gauger/gauger/engine/PageRankSettings", name := "dangling", desc := "()Lcom/example/gauger/gauger/engine/Dangling;" } : Jvm.MethodName) ({ cls := "com/example/gauger/gauger/engine/PageRankSettings", name := "dangling", desc := "()Lcom/example/gauger/gauger/engine/Dangling;" } : Jvm.MethodName)) a0 Z = true := hw _ (List.mem_of_getElem? (i := 116) rfl)
theorem wd117 {a0 : Array Value} {Z : State} (hw : ∀ d ∈ tables_1, d.before a0 Z = true) : Jvm.Cond.before (Jvm.Cond.code ({ cls := "com/example/gauger/gauger/engine/PageRankSettings", name := "dangling", desc := "()Lcom/example/gauger/gauger/engine/Dangling;" } : Jvm.MethodName) prog_9_method_8_code (1 : Nat) (Option.some (Jvm.ClassFile.FieldType.object "com/example/gauger/gauger/engine/Dangling"))) a0 Z = true := hw _ (List.mem_of_getElem? (i := 117) rfl)
theorem wd118 {a0 : Array Value} {Z : State} (hw : ∀ d ∈ tables_1, d.before a0 Z = true) : Jvm.Cond.before (Jvm.Cond.methodLink "com/example/gauger/gauger/engine/BuilderMaxPassesPinLaw" (45 : Nat) ({ cls := "com/example/gauger/gauger/engine/PageRankSettings", name := "personal", desc := "()Ljava/util/Set;" } : Jvm.MethodName)) a0 Z = true := hw _ (List.mem_of_getElem? (i := 118) rfl)
theorem wd119 {a0 : Array Value} {Z : State} (hw : ∀ d ∈ tables_1, d.before a0 Z = true) : Jvm.Cond.before (Jvm.Cond.declares ({ cls := "com/example/gauger/gauger/engine/PageRankSettings", name := "personal", desc := "()Ljava/util/Set;" } : Jvm.MethodName)) a0 Z = true := hw _ (List.mem_of_getElem? (i := 119) rfl)
theorem wd120 {a0 : Array Value} {Z : State} (hw : ∀ d ∈ tables_1, d.before a0 Z = true) : Jvm.Cond.before (Jvm.Cond.instanceMethod ({ cls := "com/example/gauger/gauger/engine/PageRankSettings", name := "personal", desc := "()Ljava/util/Set;" } : Jvm.MethodName)) a0 Z = true := hw _ (List.mem_of_getElem? (i := 120) rfl)
theorem wd121 {a0 : Array Value} {Z : State} (hw : ∀ d ∈ tables_1, d.before a0 Z = true) : Jvm.Cond.before (Jvm.Cond.selects "com/example/gauger/gauger/engine/PageRankSettings" ({ cls := "com/example/gauger/gauger/engine/PageRankSettings", name := "personal", desc := "()Ljava/util/Set;" } : Jvm.MethodName) ({ cls := "com/example/gauger/gauger/engine/PageRankSettings", name := "personal", desc := "()Ljava/util/Set;" } : Jvm.MethodName)) a0 Z = true := hw _ (List.mem_of_getElem? (i := 121) rfl)
theorem wd122 {a0 : Array Value} {Z : State} (hw : ∀ d ∈ tables_1, d.before a0 Z = true) : Jvm.Cond.before (Jvm.Cond.code ({ cls := "com/example/gauger/gauger/engine/PageRankSettings", name := "personal", desc := "()Ljava/util/Set;" } : Jvm.MethodName) prog_9_method_9_code (1 : Nat) (Option.some (Jvm.ClassFile.FieldType.object "java/util/Set"))) a0 Z = true := hw _ (List.mem_of_getElem? (i := 122) rfl)
theorem sn_PageRankSettings_Builder_start_damping {a0 : Array Value} {Z : State} (hw : ∀ d ∈ tables_1, d.before a0 Z = true) : Jvm.RoadKit.slotOf Z "com/example/gauger/gauger/engine/PageRankSettings$Builder" "start" "D" ≠ Jvm.RoadKit.slotOf Z "com/example/gauger/gauger/engine/PageRankSettings$Builder" "damping" "D" := slot_ne (C := "com/example/gauger/gauger/engine/PageRankSettings$Builder") (a0 := a0) (t := .double) (t' := .double) (Or.inl (wd13 hw)) (Or.inl (wd11 hw)) (by decide) (by decide) (by decide)
theorem sn_PageRankSettings_Builder_tolerance_damping {a0 : Array Value} {Z : State} (hw : ∀ d ∈ tables_1, d.before a0 Z = true) : Jvm.RoadKit.slotOf Z "com/example/gauger/gauger/engine/PageRankSettings$Builder" "tolerance" "D" ≠ Jvm.RoadKit.slotOf Z "com/example/gauger/gauger/engine/PageRankSettings$Builder" "damping" "D" := slot_ne (C := "com/example/gauger/gauger/engine/PageRankSettings$Builder") (a0 := a0) (t := .double) (t' := .double) (Or.inl (wd16 hw)) (Or.inl (wd11 hw)) (by decide) (by decide) (by decide)
theorem sn_PageRankSettings_Builder_maxPasses_damping {a0 : Array Value} {Z : State} (hw : ∀ d ∈ tables_1, d.before a0 Z = true) : Jvm.RoadKit.slotOf Z "com/example/gauger/gauger/engine/PageRankSettings$Builder" "maxPasses" "I" ≠ Jvm.RoadKit.slotOf Z "com/example/gauger/gauger/engine/PageRankSettings$Builder" "damping" "D" := slot_ne (C := "com/example/gauger/gauger/engine/PageRankSettings$Builder") (a0 := a0) (t := .int) (t' := .double) (Or.inl (wd18 hw)) (Or.inl (wd11 hw)) (by decide) (by decide) (by decide)
theorem sn_PageRankSettings_Builder_updates_damping {a0 : Array Value} {Z : State} (hw : ∀ d ∈ tables_1, d.before a0 Z = true) : Jvm.RoadKit.slotOf Z "com/example/gauger/gauger/engine/PageRankSettings$Builder" "updates" "Lcom/example/gauger/gauger/engine/Updates;" ≠ Jvm.RoadKit.slotOf Z "com/example/gauger/gauger/engine/PageRankSettings$Builder" "damping" "D" := slot_ne (C := "com/example/gauger/gauger/engine/PageRankSettings$Builder") (a0 := a0) (t := (.object "com/example/gauger/gauger/engine/Updates")) (t' := .double) (Or.inl (wd23 hw)) (Or.inl (wd11 hw)) (by decide) (by decide) (by decide)
theorem sn_PageRankSettings_Builder_scale_damping {a0 : Array Value} {Z : State} (hw : ∀ d ∈ tables_1, d.before a0 Z = true) : Jvm.RoadKit.slotOf Z "com/example/gauger/gauger/engine/PageRankSettings$Builder" "scale" "Lcom/example/gauger/gauger/engine/Scale;" ≠ Jvm.RoadKit.slotOf Z "com/example/gauger/gauger/engine/PageRankSettings$Builder" "damping" "D" := slot_ne (C := "com/example/gauger/gauger/engine/PageRankSettings$Builder") (a0 := a0) (t := (.object "com/example/gauger/gauger/engine/Scale")) (t' := .double) (Or.inl (wd28 hw)) (Or.inl (wd11 hw)) (by decide) (by decide) (by decide)
theorem sn_PageRankSettings_Builder_dangling_damping {a0 : Array Value} {Z : State} (hw : ∀ d ∈ tables_1, d.before a0 Z = true) : Jvm.RoadKit.slotOf Z "com/example/gauger/gauger/engine/PageRankSettings$Builder" "dangling" "Lcom/example/gauger/gauger/engine/Dangling;" ≠ Jvm.RoadKit.slotOf Z "com/example/gauger/gauger/engine/PageRankSettings$Builder" "damping" "D" := slot_ne (C := "com/example/gauger/gauger/engine/PageRankSettings$Builder") (a0 := a0) (t := (.object "com/example/gauger/gauger/engine/Dangling")) (t' := .double) (Or.inl (wd33 hw)) (Or.inl (wd11 hw)) (by decide) (by decide) (by decide)
theorem sn_PageRankSettings_Builder_personal_damping {a0 : Array Value} {Z : State} (hw : ∀ d ∈ tables_1, d.before a0 Z = true) : Jvm.RoadKit.slotOf Z "com/example/gauger/gauger/engine/PageRankSettings$Builder" "personal" "Ljava/util/Set;" ≠ Jvm.RoadKit.slotOf Z "com/example/gauger/gauger/engine/PageRankSettings$Builder" "damping" "D" := slot_ne (C := "com/example/gauger/gauger/engine/PageRankSettings$Builder") (a0 := a0) (t := (.object "java/util/Set")) (t' := .double) (Or.inl (wd41 hw)) (Or.inl (wd11 hw)) (by decide) (by decide) (by decide)
theorem sn_PageRankSettings_Builder_damping_start {a0 : Array Value} {Z : State} (hw : ∀ d ∈ tables_1, d.before a0 Z = true) : Jvm.RoadKit.slotOf Z "com/example/gauger/gauger/engine/PageRankSettings$Builder" "damping" "D" ≠ Jvm.RoadKit.slotOf Z "com/example/gauger/gauger/engine/PageRankSettings$Builder" "start" "D" := slot_ne (C := "com/example/gauger/gauger/engine/PageRankSettings$Builder") (a0 := a0) (t := .double) (t' := .double) (Or.inl (wd11 hw)) (Or.inl (wd13 hw)) (by decide) (by decide) (by decide)
theorem sn_PageRankSettings_Builder_tolerance_start {a0 : Array Value} {Z : State} (hw : ∀ d ∈ tables_1, d.before a0 Z = true) : Jvm.RoadKit.slotOf Z "com/example/gauger/gauger/engine/PageRankSettings$Builder" "tolerance" "D" ≠ Jvm.RoadKit.slotOf Z "com/example/gauger/gauger/engine/PageRankSettings$Builder" "start" "D" := slot_ne (C := "com/example/gauger/gauger/engine/PageRankSettings$Builder") (a0 := a0) (t := .double) (t' := .double) (Or.inl (wd16 hw)) (Or.inl (wd13 hw)) (by decide) (by decide) (by decide)
theorem sn_PageRankSettings_Builder_maxPasses_start {a0 : Array Value} {Z : State} (hw : ∀ d ∈ tables_1, d.before a0 Z = true) : Jvm.RoadKit.slotOf Z "com/example/gauger/gauger/engine/PageRankSettings$Builder" "maxPasses" "I" ≠ Jvm.RoadKit.slotOf Z "com/example/gauger/gauger/engine/PageRankSettings$Builder" "start" "D" := slot_ne (C := "com/example/gauger/gauger/engine/PageRankSettings$Builder") (a0 := a0) (t := .int) (t' := .double) (Or.inl (wd18 hw)) (Or.inl (wd13 hw)) (by decide) (by decide) (by decide)
theorem sn_PageRankSettings_Builder_updates_start {a0 : Array Value} {Z : State} (hw : ∀ d ∈ tables_1, d.before a0 Z = true) : Jvm.RoadKit.slotOf Z "com/example/gauger/gauger/engine/PageRankSettings$Builder" "updates" "Lcom/example/gauger/gauger/engine/Updates;" ≠ Jvm.RoadKit.slotOf Z "com/example/gauger/gauger/engine/PageRankSettings$Builder" "start" "D" := slot_ne (C := "com/example/gauger/gauger/engine/PageRankSettings$Builder") (a0 := a0) (t := (.object "com/example/gauger/gauger/engine/Updates")) (t' := .double) (Or.inl (wd23 hw)) (Or.inl (wd13 hw)) (by decide) (by decide) (by decide)
theorem sn_PageRankSettings_Builder_scale_start {a0 : Array Value} {Z : State} (hw : ∀ d ∈ tables_1, d.before a0 Z = true) : Jvm.RoadKit.slotOf Z "com/example/gauger/gauger/engine/PageRankSettings$Builder" "scale" "Lcom/example/gauger/gauger/engine/Scale;" ≠ Jvm.RoadKit.slotOf Z "com/example/gauger/gauger/engine/PageRankSettings$Builder" "start" "D" := slot_ne (C := "com/example/gauger/gauger/engine/PageRankSettings$Builder") (a0 := a0) (t := (.object "com/example/gauger/gauger/engine/Scale")) (t' := .double) (Or.inl (wd28 hw)) (Or.inl (wd13 hw)) (by decide) (by decide) (by decide)
theorem sn_PageRankSettings_Builder_dangling_start {a0 : Array Value} {Z : State} (hw : ∀ d ∈ tables_1, d.before a0 Z = true) : Jvm.RoadKit.slotOf Z "com/example/gauger/gauger/engine/PageRankSettings$Builder" "dangling" "Lcom/example/gauger/gauger/engine/Dangling;" ≠ Jvm.RoadKit.slotOf Z "com/example/gauger/gauger/engine/PageRankSettings$Builder" "start" "D" := slot_ne (C := "com/example/gauger/gauger/engine/PageRankSettings$Builder") (a0 := a0) (t := (.object "com/example/gauger/gauger/engine/Dangling")) (t' := .double) (Or.inl (wd33 hw)) (Or.inl (wd13 hw)) (by decide) (by decide) (by decide)
theorem sn_PageRankSettings_Builder_personal_start {a0 : Array Value} {Z : State} (hw : ∀ d ∈ tables_1, d.before a0 Z = true) : Jvm.RoadKit.slotOf Z "com/example/gauger/gauger/engine/PageRankSettings$Builder" "personal" "Ljava/util/Set;" ≠ Jvm.RoadKit.slotOf Z "com/example/gauger/gauger/engine/PageRankSettings$Builder" "start" "D" := slot_ne (C := "com/example/gauger/gauger/engine/PageRankSettings$Builder") (a0 := a0) (t := (.object "java/util/Set")) (t' := .double) (Or.inl (wd41 hw)) (Or.inl (wd13 hw)) (by decide) (by decide) (by decide)
theorem sn_PageRankSettings_Builder_damping_tolerance {a0 : Array Value} {Z : State} (hw : ∀ d ∈ tables_1, d.before a0 Z = true) : Jvm.RoadKit.slotOf Z "com/example/gauger/gauger/engine/PageRankSettings$Builder" "damping" "D" ≠ Jvm.RoadKit.slotOf Z "com/example/gauger/gauger/engine/PageRankSettings$Builder" "tolerance" "D" := slot_ne (C := "com/example/gauger/gauger/engine/PageRankSettings$Builder") (a0 := a0) (t := .double) (t' := .double) (Or.inl (wd11 hw)) (Or.inl (wd16 hw)) (by decide) (by decide) (by decide)
theorem sn_PageRankSettings_Builder_start_tolerance {a0 : Array Value} {Z : State} (hw : ∀ d ∈ tables_1, d.before a0 Z = true) : Jvm.RoadKit.slotOf Z "com/example/gauger/gauger/engine/PageRankSettings$Builder" "start" "D" ≠ Jvm.RoadKit.slotOf Z "com/example/gauger/gauger/engine/PageRankSettings$Builder" "tolerance" "D" := slot_ne (C := "com/example/gauger/gauger/engine/PageRankSettings$Builder") (a0 := a0) (t := .double) (t' := .double) (Or.inl (wd13 hw)) (Or.inl (wd16 hw)) (by decide) (by decide) (by decide)
theorem sn_PageRankSettings_Builder_maxPasses_tolerance {a0 : Array Value} {Z : State} (hw : ∀ d ∈ tables_1, d.before a0 Z = true) : Jvm.RoadKit.slotOf Z "com/example/gauger/gauger/engine/PageRankSettings$Builder" "maxPasses" "I" ≠ Jvm.RoadKit.slotOf Z "com/example/gauger/gauger/engine/PageRankSettings$Builder" "tolerance" "D" := slot_ne (C := "com/example/gauger/gauger/engine/PageRankSettings$Builder") (a0 := a0) (t := .int) (t' := .double) (Or.inl (wd18 hw)) (Or.inl (wd16 hw)) (by decide) (by decide) (by decide)
theorem sn_PageRankSettings_Builder_updates_tolerance {a0 : Array Value} {Z : State} (hw : ∀ d ∈ tables_1, d.before a0 Z = true) : Jvm.RoadKit.slotOf Z "com/example/gauger/gauger/engine/PageRankSettings$Builder" "updates" "Lcom/example/gauger/gauger/engine/Updates;" ≠ Jvm.RoadKit.slotOf Z "com/example/gauger/gauger/engine/PageRankSettings$Builder" "tolerance" "D" := slot_ne (C := "com/example/gauger/gauger/engine/PageRankSettings$Builder") (a0 := a0) (t := (.object "com/example/gauger/gauger/engine/Updates")) (t' := .double) (Or.inl (wd23 hw)) (Or.inl (wd16 hw)) (by decide) (by decide) (by decide)
theorem sn_PageRankSettings_Builder_scale_tolerance {a0 : Array Value} {Z : State} (hw : ∀ d ∈ tables_1, d.before a0 Z = true) : Jvm.RoadKit.slotOf Z "com/example/gauger/gauger/engine/PageRankSettings$Builder" "scale" "Lcom/example/gauger/gauger/engine/Scale;" ≠ Jvm.RoadKit.slotOf Z "com/example/gauger/gauger/engine/PageRankSettings$Builder" "tolerance" "D" := slot_ne (C := "com/example/gauger/gauger/engine/PageRankSettings$Builder") (a0 := a0) (t := (.object "com/example/gauger/gauger/engine/Scale")) (t' := .double) (Or.inl (wd28 hw)) (Or.inl (wd16 hw)) (by decide) (by decide) (by decide)
theorem sn_PageRankSettings_Builder_dangling_tolerance {a0 : Array Value} {Z : State} (hw : ∀ d ∈ tables_1, d.before a0 Z = true) : Jvm.RoadKit.slotOf Z "com/example/gauger/gauger/engine/PageRankSettings$Builder" "dangling" "Lcom/example/gauger/gauger/engine/Dangling;" ≠ Jvm.RoadKit.slotOf Z "com/example/gauger/gauger/engine/PageRankSettings$Builder" "tolerance" "D" := slot_ne (C := "com/example/gauger/gauger/engine/PageRankSettings$Builder") (a0 := a0) (t := (.object "com/example/gauger/gauger/engine/Dangling")) (t' := .double) (Or.inl (wd33 hw)) (Or.inl (wd16 hw)) (by decide) (by decide) (by decide)
theorem sn_PageRankSettings_Builder_personal_tolerance {a0 : Array Value} {Z : State} (hw : ∀ d ∈ tables_1, d.before a0 Z = true) : Jvm.RoadKit.slotOf Z "com/example/gauger/gauger/engine/PageRankSettings$Builder" "personal" "Ljava/util/Set;" ≠ Jvm.RoadKit.slotOf Z "com/example/gauger/gauger/engine/PageRankSettings$Builder" "tolerance" "D" := slot_ne (C := "com/example/gauger/gauger/engine/PageRankSettings$Builder") (a0 := a0) (t := (.object "java/util/Set")) (t' := .double) (Or.inl (wd41 hw)) (Or.inl (wd16 hw)) (by decide) (by decide) (by decide)
theorem sn_PageRankSettings_Builder_damping_maxPasses {a0 : Array Value} {Z : State} (hw : ∀ d ∈ tables_1, d.before a0 Z = true) : Jvm.RoadKit.slotOf Z "com/example/gauger/gauger/engine/PageRankSettings$Builder" "damping" "D" ≠ Jvm.RoadKit.slotOf Z "com/example/gauger/gauger/engine/PageRankSettings$Builder" "maxPasses" "I" := slot_ne (C := "com/example/gauger/gauger/engine/PageRankSettings$Builder") (a0 := a0) (t := .double) (t' := .int) (Or.inl (wd11 hw)) (Or.inl (wd18 hw)) (by decide) (by decide) (by decide)
theorem sn_PageRankSettings_Builder_start_maxPasses {a0 : Array Value} {Z : State} (hw : ∀ d ∈ tables_1, d.before a0 Z = true) : Jvm.RoadKit.slotOf Z "com/example/gauger/gauger/engine/PageRankSettings$Builder" "start" "D" ≠ Jvm.RoadKit.slotOf Z "com/example/gauger/gauger/engine/PageRankSettings$Builder" "maxPasses" "I" := slot_ne (C := "com/example/gauger/gauger/engine/PageRankSettings$Builder") (a0 := a0) (t := .double) (t' := .int) (Or.inl (wd13 hw)) (Or.inl (wd18 hw)) (by decide) (by decide) (by decide)
theorem sn_PageRankSettings_Builder_tolerance_maxPasses {a0 : Array Value} {Z : State} (hw : ∀ d ∈ tables_1, d.before a0 Z = true) : Jvm.RoadKit.slotOf Z "com/example/gauger/gauger/engine/PageRankSettings$Builder" "tolerance" "D" ≠ Jvm.RoadKit.slotOf Z "com/example/gauger/gauger/engine/PageRankSettings$Builder" "maxPasses" "I" := slot_ne (C := "com/example/gauger/gauger/engine/PageRankSettings$Builder") (a0 := a0) (t := .double) (t' := .int) (Or.inl (wd16 hw)) (Or.inl (wd18 hw)) (by decide) (by decide) (by decide)
theorem sn_PageRankSettings_Builder_updates_maxPasses {a0 : Array Value} {Z : State} (hw : ∀ d ∈ tables_1, d.before a0 Z = true) : Jvm.RoadKit.slotOf Z "com/example/gauger/gauger/engine/PageRankSettings$Builder" "updates" "Lcom/example/gauger/gauger/engine/Updates;" ≠ Jvm.RoadKit.slotOf Z "com/example/gauger/gauger/engine/PageRankSettings$Builder" "maxPasses" "I" := slot_ne (C := "com/example/gauger/gauger/engine/PageRankSettings$Builder") (a0 := a0) (t := (.object "com/example/gauger/gauger/engine/Updates")) (t' := .int) (Or.inl (wd23 hw)) (Or.inl (wd18 hw)) (by decide) (by decide) (by decide)
theorem sn_PageRankSettings_Builder_scale_maxPasses {a0 : Array Value} {Z : State} (hw : ∀ d ∈ tables_1, d.before a0 Z = true) : Jvm.RoadKit.slotOf Z "com/example/gauger/gauger/engine/PageRankSettings$Builder" "scale" "Lcom/example/gauger/gauger/engine/Scale;" ≠ Jvm.RoadKit.slotOf Z "com/example/gauger/gauger/engine/PageRankSettings$Builder" "maxPasses" "I" := slot_ne (C := "com/example/gauger/gauger/engine/PageRankSettings$Builder") (a0 := a0) (t := (.object "com/example/gauger/gauger/engine/Scale")) (t' := .int) (Or.inl (wd28 hw)) (Or.inl (wd18 hw)) (by decide) (by decide) (by decide)
theorem sn_PageRankSettings_Builder_dangling_maxPasses {a0 : Array Value} {Z : State} (hw : ∀ d ∈ tables_1, d.before a0 Z = true) : Jvm.RoadKit.slotOf Z "com/example/gauger/gauger/engine/PageRankSettings$Builder" "dangling" "Lcom/example/gauger/gauger/engine/Dangling;" ≠ Jvm.RoadKit.slotOf Z "com/example/gauger/gauger/engine/PageRankSettings$Builder" "maxPasses" "I" := slot_ne (C := "com/example/gauger/gauger/engine/PageRankSettings$Builder") (a0 := a0) (t := (.object "com/example/gauger/gauger/engine/Dangling")) (t' := .int) (Or.inl (wd33 hw)) (Or.inl (wd18 hw)) (by decide) (by decide) (by decide)
theorem sn_PageRankSettings_Builder_personal_maxPasses {a0 : Array Value} {Z : State} (hw : ∀ d ∈ tables_1, d.before a0 Z = true) : Jvm.RoadKit.slotOf Z "com/example/gauger/gauger/engine/PageRankSettings$Builder" "personal" "Ljava/util/Set;" ≠ Jvm.RoadKit.slotOf Z "com/example/gauger/gauger/engine/PageRankSettings$Builder" "maxPasses" "I" := slot_ne (C := "com/example/gauger/gauger/engine/PageRankSettings$Builder") (a0 := a0) (t := (.object "java/util/Set")) (t' := .int) (Or.inl (wd41 hw)) (Or.inl (wd18 hw)) (by decide) (by decide) (by decide)
theorem sn_PageRankSettings_Builder_damping_updates {a0 : Array Value} {Z : State} (hw : ∀ d ∈ tables_1, d.before a0 Z = true) : Jvm.RoadKit.slotOf Z "com/example/gauger/gauger/engine/PageRankSettings$Builder" "damping" "D" ≠ Jvm.RoadKit.slotOf Z "com/example/gauger/gauger/engine/PageRankSettings$Builder" "updates" "Lcom/example/gauger/gauger/engine/Updates;" := slot_ne (C := "com/example/gauger/gauger/engine/PageRankSettings$Builder") (a0 := a0) (t := .double) (t' := (.object "com/example/gauger/gauger/engine/Updates")) (Or.inl (wd11 hw)) (Or.inl (wd23 hw)) (by decide) (by decide) (by decide)
theorem sn_PageRankSettings_Builder_start_updates {a0 : Array Value} {Z : State} (hw : ∀ d ∈ tables_1, d.before a0 Z = true) : Jvm.RoadKit.slotOf Z "com/example/gauger/gauger/engine/PageRankSettings$Builder" "start" "D" ≠ Jvm.RoadKit.slotOf Z "com/example/gauger/gauger/engine/PageRankSettings$Builder" "updates" "Lcom/example/gauger/gauger/engine/Updates;" := slot_ne (C := "com/example/gauger/gauger/engine/PageRankSettings$Builder") (a0 := a0) (t := .double) (t' := (.object "com/example/gauger/gauger/engine/Updates")) (Or.inl (wd13 hw)) (Or.inl (wd23 hw)) (by decide) (by decide) (by decide)
theorem sn_PageRankSettings_Builder_tolerance_updates {a0 : Array Value} {Z : State} (hw : ∀ d ∈ tables_1, d.before a0 Z = true) : Jvm.RoadKit.slotOf Z "com/example/gauger/gauger/engine/PageRankSettings$Builder" "tolerance" "D" ≠ Jvm.RoadKit.slotOf Z "com/example/gauger/gauger/engine/PageRankSettings$Builder" "updates" "Lcom/example/gauger/gauger/engine/Updates;" := slot_ne (C := "com/example/gauger/gauger/engine/PageRankSettings$Builder") (a0 := a0) (t := .double) (t' := (.object "com/example/gauger/gauger/engine/Updates")) (Or.inl (wd16 hw)) (Or.inl (wd23 hw)) (by decide) (by decide) (by decide)
theorem sn_PageRankSettings_Builder_maxPasses_updates {a0 : Array Value} {Z : State} (hw : ∀ d ∈ tables_1, d.before a0 Z = true) : Jvm.RoadKit.slotOf Z "com/example/gauger/gauger/engine/PageRankSettings$Builder" "maxPasses" "I" ≠ Jvm.RoadKit.slotOf Z "com/example/gauger/gauger/engine/PageRankSettings$Builder" "updates" "Lcom/example/gauger/gauger/engine/Updates;" := slot_ne (C := "com/example/gauger/gauger/engine/PageRankSettings$Builder") (a0 := a0) (t := .int) (t' := (.object "com/example/gauger/gauger/engine/Updates")) (Or.inl (wd18 hw)) (Or.inl (wd23 hw)) (by decide) (by decide) (by decide)
theorem sn_PageRankSettings_Builder_scale_updates {a0 : Array Value} {Z : State} (hw : ∀ d ∈ tables_1, d.before a0 Z = true) : Jvm.RoadKit.slotOf Z "com/example/gauger/gauger/engine/PageRankSettings$Builder" "scale" "Lcom/example/gauger/gauger/engine/Scale;" ≠ Jvm.RoadKit.slotOf Z "com/example/gauger/gauger/engine/PageRankSettings$Builder" "updates" "Lcom/example/gauger/gauger/engine/Updates;" := slot_ne (C := "com/example/gauger/gauger/engine/PageRankSettings$Builder") (a0 := a0) (t := (.object "com/example/gauger/gauger/engine/Scale")) (t' := (.object "com/example/gauger/gauger/engine/Updates")) (Or.inl (wd28 hw)) (Or.inl (wd23 hw)) (by decide) (by decide) (by decide)
theorem sn_PageRankSettings_Builder_dangling_updates {a0 : Array Value} {Z : State} (hw : ∀ d ∈ tables_1, d.before a0 Z = true) : Jvm.RoadKit.slotOf Z "com/example/gauger/gauger/engine/PageRankSettings$Builder" "dangling" "Lcom/example/gauger/gauger/engine/Dangling;" ≠ Jvm.RoadKit.slotOf Z "com/example/gauger/gauger/engine/PageRankSettings$Builder" "updates" "Lcom/example/gauger/gauger/engine/Updates;" := slot_ne (C := "com/example/gauger/gauger/engine/PageRankSettings$Builder") (a0 := a0) (t := (.object "com/example/gauger/gauger/engine/Dangling")) (t' := (.object "com/example/gauger/gauger/engine/Updates")) (Or.inl (wd33 hw)) (Or.inl (wd23 hw)) (by decide) (by decide) (by decide)
theorem sn_PageRankSettings_Builder_personal_updates {a0 : Array Value} {Z : State} (hw : ∀ d ∈ tables_1, d.before a0 Z = true) : Jvm.RoadKit.slotOf Z "com/example/gauger/gauger/engine/PageRankSettings$Builder" "personal" "Ljava/util/Set;" ≠ Jvm.RoadKit.slotOf Z "com/example/gauger/gauger/engine/PageRankSettings$Builder" "updates" "Lcom/example/gauger/gauger/engine/Updates;" := slot_ne (C := "com/example/gauger/gauger/engine/PageRankSettings$Builder") (a0 := a0) (t := (.object "java/util/Set")) (t' := (.object "com/example/gauger/gauger/engine/Updates")) (Or.inl (wd41 hw)) (Or.inl (wd23 hw)) (by decide) (by decide) (by decide)
theorem sn_PageRankSettings_Builder_damping_scale {a0 : Array Value} {Z : State} (hw : ∀ d ∈ tables_1, d.before a0 Z = true) : Jvm.RoadKit.slotOf Z "com/example/gauger/gauger/engine/PageRankSettings$Builder" "damping" "D" ≠ Jvm.RoadKit.slotOf Z "com/example/gauger/gauger/engine/PageRankSettings$Builder" "scale" "Lcom/example/gauger/gauger/engine/Scale;" := slot_ne (C := "com/example/gauger/gauger/engine/PageRankSettings$Builder") (a0 := a0) (t := .double) (t' := (.object "com/example/gauger/gauger/engine/Scale")) (Or.inl (wd11 hw)) (Or.inl (wd28 hw)) (by decide) (by decide) (by decide)
theorem sn_PageRankSettings_Builder_start_scale {a0 : Array Value} {Z : State} (hw : ∀ d ∈ tables_1, d.before a0 Z = true) : Jvm.RoadKit.slotOf Z "com/example/gauger/gauger/engine/PageRankSettings$Builder" "start" "D" ≠ Jvm.RoadKit.slotOf Z "com/example/gauger/gauger/engine/PageRankSettings$Builder" "scale" "Lcom/example/gauger/gauger/engine/Scale;" := slot_ne (C := "com/example/gauger/gauger/engine/PageRankSettings$Builder") (a0 := a0) (t := .double) (t' := (.object "com/example/gauger/gauger/engine/Scale")) (Or.inl (wd13 hw)) (Or.inl (wd28 hw)) (by decide) (by decide) (by decide)
theorem sn_PageRankSettings_Builder_tolerance_scale {a0 : Array Value} {Z : State} (hw : ∀ d ∈ tables_1, d.before a0 Z = true) : Jvm.RoadKit.slotOf Z "com/example/gauger/gauger/engine/PageRankSettings$Builder" "tolerance" "D" ≠ Jvm.RoadKit.slotOf Z "com/example/gauger/gauger/engine/PageRankSettings$Builder" "scale" "Lcom/example/gauger/gauger/engine/Scale;" := slot_ne (C := "com/example/gauger/gauger/engine/PageRankSettings$Builder") (a0 := a0) (t := .double) (t' := (.object "com/example/gauger/gauger/engine/Scale")) (Or.inl (wd16 hw)) (Or.inl (wd28 hw)) (by decide) (by decide) (by decide)
theorem sn_PageRankSettings_Builder_maxPasses_scale {a0 : Array Value} {Z : State} (hw : ∀ d ∈ tables_1, d.before a0 Z = true) : Jvm.RoadKit.slotOf Z "com/example/gauger/gauger/engine/PageRankSettings$Builder" "maxPasses" "I" ≠ Jvm.RoadKit.slotOf Z "com/example/gauger/gauger/engine/PageRankSettings$Builder" "scale" "Lcom/example/gauger/gauger/engine/Scale;" := slot_ne (C := "com/example/gauger/gauger/engine/PageRankSettings$Builder") (a0 := a0) (t := .int) (t' := (.object "com/example/gauger/gauger/engine/Scale")) (Or.inl (wd18 hw)) (Or.inl (wd28 hw)) (by decide) (by decide) (by decide)
theorem sn_PageRankSettings_Builder_updates_scale {a0 : Array Value} {Z : State} (hw : ∀ d ∈ tables_1, d.before a0 Z = true) : Jvm.RoadKit.slotOf Z "com/example/gauger/gauger/engine/PageRankSettings$Builder" "updates" "Lcom/example/gauger/gauger/engine/Updates;" ≠ Jvm.RoadKit.slotOf Z "com/example/gauger/gauger/engine/PageRankSettings$Builder" "scale" "Lcom/example/gauger/gauger/engine/Scale;" := slot_ne (C := "com/example/gauger/gauger/engine/PageRankSettings$Builder") (a0 := a0) (t := (.object "com/example/gauger/gauger/engine/Updates")) (t' := (.object "com/example/gauger/gauger/engine/Scale")) (Or.inl (wd23 hw)) (Or.inl (wd28 hw)) (by decide) (by decide) (by decide)
theorem sn_PageRankSettings_Builder_dangling_scale {a0 : Array Value} {Z : State} (hw : ∀ d ∈ tables_1, d.before a0 Z = true) : Jvm.RoadKit.slotOf Z "com/example/gauger/gauger/engine/PageRankSettings$Builder" "dangling" "Lcom/example/gauger/gauger/engine/Dangling;" ≠ Jvm.RoadKit.slotOf Z "com/example/gauger/gauger/engine/PageRankSettings$Builder" "scale" "Lcom/example/gauger/gauger/engine/Scale;" := slot_ne (C := "com/example/gauger/gauger/engine/PageRankSettings$Builder") (a0 := a0) (t := (.object "com/example/gauger/gauger/engine/Dangling")) (t' := (.object "com/example/gauger/gauger/engine/Scale")) (Or.inl (wd33 hw)) (Or.inl (wd28 hw)) (by decide) (by decide) (by decide)
theorem sn_PageRankSettings_Builder_personal_scale {a0 : Array Value} {Z : State} (hw : ∀ d ∈ tables_1, d.before a0 Z = true) : Jvm.RoadKit.slotOf Z "com/example/gauger/gauger/engine/PageRankSettings$Builder" "personal" "Ljava/util/Set;" ≠ Jvm.RoadKit.slotOf Z "com/example/gauger/gauger/engine/PageRankSettings$Builder" "scale" "Lcom/example/gauger/gauger/engine/Scale;" := slot_ne (C := "com/example/gauger/gauger/engine/PageRankSettings$Builder") (a0 := a0) (t := (.object "java/util/Set")) (t' := (.object "com/example/gauger/gauger/engine/Scale")) (Or.inl (wd41 hw)) (Or.inl (wd28 hw)) (by decide) (by decide) (by decide)
theorem sn_PageRankSettings_Builder_damping_dangling {a0 : Array Value} {Z : State} (hw : ∀ d ∈ tables_1, d.before a0 Z = true) : Jvm.RoadKit.slotOf Z "com/example/gauger/gauger/engine/PageRankSettings$Builder" "damping" "D" ≠ Jvm.RoadKit.slotOf Z "com/example/gauger/gauger/engine/PageRankSettings$Builder" "dangling" "Lcom/example/gauger/gauger/engine/Dangling;" := slot_ne (C := "com/example/gauger/gauger/engine/PageRankSettings$Builder") (a0 := a0) (t := .double) (t' := (.object "com/example/gauger/gauger/engine/Dangling")) (Or.inl (wd11 hw)) (Or.inl (wd33 hw)) (by decide) (by decide) (by decide)
theorem sn_PageRankSettings_Builder_start_dangling {a0 : Array Value} {Z : State} (hw : ∀ d ∈ tables_1, d.before a0 Z = true) : Jvm.RoadKit.slotOf Z "com/example/gauger/gauger/engine/PageRankSettings$Builder" "start" "D" ≠ Jvm.RoadKit.slotOf Z "com/example/gauger/gauger/engine/PageRankSettings$Builder" "dangling" "Lcom/example/gauger/gauger/engine/Dangling;" := slot_ne (C := "com/example/gauger/gauger/engine/PageRankSettings$Builder") (a0 := a0) (t := .double) (t' := (.object "com/example/gauger/gauger/engine/Dangling")) (Or.inl (wd13 hw)) (Or.inl (wd33 hw)) (by decide) (by decide) (by decide)
theorem sn_PageRankSettings_Builder_tolerance_dangling {a0 : Array Value} {Z : State} (hw : ∀ d ∈ tables_1, d.before a0 Z = true) : Jvm.RoadKit.slotOf Z "com/example/gauger/gauger/engine/PageRankSettings$Builder" "tolerance" "D" ≠ Jvm.RoadKit.slotOf Z "com/example/gauger/gauger/engine/PageRankSettings$Builder" "dangling" "Lcom/example/gauger/gauger/engine/Dangling;" := slot_ne (C := "com/example/gauger/gauger/engine/PageRankSettings$Builder") (a0 := a0) (t := .double) (t' := (.object "com/example/gauger/gauger/engine/Dangling")) (Or.inl (wd16 hw)) (Or.inl (wd33 hw)) (by decide) (by decide) (by decide)
theorem sn_PageRankSettings_Builder_maxPasses_dangling {a0 : Array Value} {Z : State} (hw : ∀ d ∈ tables_1, d.before a0 Z = true) : Jvm.RoadKit.slotOf Z "com/example/gauger/gauger/engine/PageRankSettings$Builder" "maxPasses" "I" ≠ Jvm.RoadKit.slotOf Z "com/example/gauger/gauger/engine/PageRankSettings$Builder" "dangling" "Lcom/example/gauger/gauger/engine/Dangling;" := slot_ne (C := "com/example/gauger/gauger/engine/PageRankSettings$Builder") (a0 := a0) (t := .int) (t' := (.object "com/example/gauger/gauger/engine/Dangling")) (Or.inl (wd18 hw)) (Or.inl (wd33 hw)) (by decide) (by decide) (by decide)
theorem sn_PageRankSettings_Builder_updates_dangling {a0 : Array Value} {Z : State} (hw : ∀ d ∈ tables_1, d.before a0 Z = true) : Jvm.RoadKit.slotOf Z "com/example/gauger/gauger/engine/PageRankSettings$Builder" "updates" "Lcom/example/gauger/gauger/engine/Updates;" ≠ Jvm.RoadKit.slotOf Z "com/example/gauger/gauger/engine/PageRankSettings$Builder" "dangling" "Lcom/example/gauger/gauger/engine/Dangling;" := slot_ne (C := "com/example/gauger/gauger/engine/PageRankSettings$Builder") (a0 := a0) (t := (.object "com/example/gauger/gauger/engine/Updates")) (t' := (.object "com/example/gauger/gauger/engine/Dangling")) (Or.inl (wd23 hw)) (Or.inl (wd33 hw)) (by decide) (by decide) (by decide)
theorem sn_PageRankSettings_Builder_scale_dangling {a0 : Array Value} {Z : State} (hw : ∀ d ∈ tables_1, d.before a0 Z = true) : Jvm.RoadKit.slotOf Z "com/example/gauger/gauger/engine/PageRankSettings$Builder" "scale" "Lcom/example/gauger/gauger/engine/Scale;" ≠ Jvm.RoadKit.slotOf Z "com/example/gauger/gauger/engine/PageRankSettings$Builder" "dangling" "Lcom/example/gauger/gauger/engine/Dangling;" := slot_ne (C := "com/example/gauger/gauger/engine/PageRankSettings$Builder") (a0 := a0) (t := (.object "com/example/gauger/gauger/engine/Scale")) (t' := (.object "com/example/gauger/gauger/engine/Dangling")) (Or.inl (wd28 hw)) (Or.inl (wd33 hw)) (by decide) (by decide) (by decide)
theorem sn_PageRankSettings_Builder_personal_dangling {a0 : Array Value} {Z : State} (hw : ∀ d ∈ tables_1, d.before a0 Z = true) : Jvm.RoadKit.slotOf Z "com/example/gauger/gauger/engine/PageRankSettings$Builder" "personal" "Ljava/util/Set;" ≠ Jvm.RoadKit.slotOf Z "com/example/gauger/gauger/engine/PageRankSettings$Builder" "dangling" "Lcom/example/gauger/gauger/engine/Dangling;" := slot_ne (C := "com/example/gauger/gauger/engine/PageRankSettings$Builder") (a0 := a0) (t := (.object "java/util/Set")) (t' := (.object "com/example/gauger/gauger/engine/Dangling")) (Or.inl (wd41 hw)) (Or.inl (wd33 hw)) (by decide) (by decide) (by decide)
theorem sn_PageRankSettings_Builder_damping_personal {a0 : Array Value} {Z : State} (hw : ∀ d ∈ tables_1, d.before a0 Z = true) : Jvm.RoadKit.slotOf Z "com/example/gauger/gauger/engine/PageRankSettings$Builder" "damping" "D" ≠ Jvm.RoadKit.slotOf Z "com/example/gauger/gauger/engine/PageRankSettings$Builder" "personal" "Ljava/util/Set;" := slot_ne (C := "com/example/gauger/gauger/engine/PageRankSettings$Builder") (a0 := a0) (t := .double) (t' := (.object "java/util/Set")) (Or.inl (wd11 hw)) (Or.inl (wd41 hw)) (by decide) (by decide) (by decide)
theorem sn_PageRankSettings_Builder_start_personal {a0 : Array Value} {Z : State} (hw : ∀ d ∈ tables_1, d.before a0 Z = true) : Jvm.RoadKit.slotOf Z "com/example/gauger/gauger/engine/PageRankSettings$Builder" "start" "D" ≠ Jvm.RoadKit.slotOf Z "com/example/gauger/gauger/engine/PageRankSettings$Builder" "personal" "Ljava/util/Set;" := slot_ne (C := "com/example/gauger/gauger/engine/PageRankSettings$Builder") (a0 := a0) (t := .double) (t' := (.object "java/util/Set")) (Or.inl (wd13 hw)) (Or.inl (wd41 hw)) (by decide) (by decide) (by decide)
theorem sn_PageRankSettings_Builder_tolerance_personal {a0 : Array Value} {Z : State} (hw : ∀ d ∈ tables_1, d.before a0 Z = true) : Jvm.RoadKit.slotOf Z "com/example/gauger/gauger/engine/PageRankSettings$Builder" "tolerance" "D" ≠ Jvm.RoadKit.slotOf Z "com/example/gauger/gauger/engine/PageRankSettings$Builder" "personal" "Ljava/util/Set;" := slot_ne (C := "com/example/gauger/gauger/engine/PageRankSettings$Builder") (a0 := a0) (t := .double) (t' := (.object "java/util/Set")) (Or.inl (wd16 hw)) (Or.inl (wd41 hw)) (by decide) (by decide) (by decide)
theorem sn_PageRankSettings_Builder_maxPasses_personal {a0 : Array Value} {Z : State} (hw : ∀ d ∈ tables_1, d.before a0 Z = true) : Jvm.RoadKit.slotOf Z "com/example/gauger/gauger/engine/PageRankSettings$Builder" "maxPasses" "I" ≠ Jvm.RoadKit.slotOf Z "com/example/gauger/gauger/engine/PageRankSettings$Builder" "personal" "Ljava/util/Set;" := slot_ne (C := "com/example/gauger/gauger/engine/PageRankSettings$Builder") (a0 := a0) (t := .int) (t' := (.object "java/util/Set")) (Or.inl (wd18 hw)) (Or.inl (wd41 hw)) (by decide) (by decide) (by decide)
theorem sn_PageRankSettings_Builder_updates_personal {a0 : Array Value} {Z : State} (hw : ∀ d ∈ tables_1, d.before a0 Z = true) : Jvm.RoadKit.slotOf Z "com/example/gauger/gauger/engine/PageRankSettings$Builder" "updates" "Lcom/example/gauger/gauger/engine/Updates;" ≠ Jvm.RoadKit.slotOf Z "com/example/gauger/gauger/engine/PageRankSettings$Builder" "personal" "Ljava/util/Set;" := slot_ne (C := "com/example/gauger/gauger/engine/PageRankSettings$Builder") (a0 := a0) (t := (.object "com/example/gauger/gauger/engine/Updates")) (t' := (.object "java/util/Set")) (Or.inl (wd23 hw)) (Or.inl (wd41 hw)) (by decide) (by decide) (by decide)
theorem sn_PageRankSettings_Builder_scale_personal {a0 : Array Value} {Z : State} (hw : ∀ d ∈ tables_1, d.before a0 Z = true) : Jvm.RoadKit.slotOf Z "com/example/gauger/gauger/engine/PageRankSettings$Builder" "scale" "Lcom/example/gauger/gauger/engine/Scale;" ≠ Jvm.RoadKit.slotOf Z "com/example/gauger/gauger/engine/PageRankSettings$Builder" "personal" "Ljava/util/Set;" := slot_ne (C := "com/example/gauger/gauger/engine/PageRankSettings$Builder") (a0 := a0) (t := (.object "com/example/gauger/gauger/engine/Scale")) (t' := (.object "java/util/Set")) (Or.inl (wd28 hw)) (Or.inl (wd41 hw)) (by decide) (by decide) (by decide)
theorem sn_PageRankSettings_Builder_dangling_personal {a0 : Array Value} {Z : State} (hw : ∀ d ∈ tables_1, d.before a0 Z = true) : Jvm.RoadKit.slotOf Z "com/example/gauger/gauger/engine/PageRankSettings$Builder" "dangling" "Lcom/example/gauger/gauger/engine/Dangling;" ≠ Jvm.RoadKit.slotOf Z "com/example/gauger/gauger/engine/PageRankSettings$Builder" "personal" "Ljava/util/Set;" := slot_ne (C := "com/example/gauger/gauger/engine/PageRankSettings$Builder") (a0 := a0) (t := (.object "com/example/gauger/gauger/engine/Dangling")) (t' := (.object "java/util/Set")) (Or.inl (wd33 hw)) (Or.inl (wd41 hw)) (by decide) (by decide) (by decide)
theorem sn_PageRankSettings_start_damping {a0 : Array Value} {Z : State} (hw : ∀ d ∈ tables_1, d.before a0 Z = true) : Jvm.RoadKit.slotOf Z "com/example/gauger/gauger/engine/PageRankSettings" "start" "D" ≠ Jvm.RoadKit.slotOf Z "com/example/gauger/gauger/engine/PageRankSettings" "damping" "D" := slot_ne (C := "com/example/gauger/gauger/engine/PageRankSettings") (a0 := a0) (t := .double) (t' := .double) (Or.inr (wd59 hw)) (Or.inr (wd56 hw)) (by decide) (by decide) (by decide)
theorem sn_PageRankSettings_tolerance_damping {a0 : Array Value} {Z : State} (hw : ∀ d ∈ tables_1, d.before a0 Z = true) : Jvm.RoadKit.slotOf Z "com/example/gauger/gauger/engine/PageRankSettings" "tolerance" "D" ≠ Jvm.RoadKit.slotOf Z "com/example/gauger/gauger/engine/PageRankSettings" "damping" "D" := slot_ne (C := "com/example/gauger/gauger/engine/PageRankSettings") (a0 := a0) (t := .double) (t' := .double) (Or.inr (wd62 hw)) (Or.inr (wd56 hw)) (by decide) (by decide) (by decide)
theorem sn_PageRankSettings_maxPasses_damping {a0 : Array Value} {Z : State} (hw : ∀ d ∈ tables_1, d.before a0 Z = true) : Jvm.RoadKit.slotOf Z "com/example/gauger/gauger/engine/PageRankSettings" "maxPasses" "I" ≠ Jvm.RoadKit.slotOf Z "com/example/gauger/gauger/engine/PageRankSettings" "damping" "D" := slot_ne (C := "com/example/gauger/gauger/engine/PageRankSettings") (a0 := a0) (t := .int) (t' := .double) (Or.inr (wd65 hw)) (Or.inr (wd56 hw)) (by decide) (by decide) (by decide)
theorem sn_PageRankSettings_updates_damping {a0 : Array Value} {Z : State} (hw : ∀ d ∈ tables_1, d.before a0 Z = true) : Jvm.RoadKit.slotOf Z "com/example/gauger/gauger/engine/PageRankSettings" "updates" "Lcom/example/gauger/gauger/engine/Updates;" ≠ Jvm.RoadKit.slotOf Z "com/example/gauger/gauger/engine/PageRankSettings" "damping" "D" := slot_ne (C := "com/example/gauger/gauger/engine/PageRankSettings") (a0 := a0) (t := (.object "com/example/gauger/gauger/engine/Updates")) (t' := .double) (Or.inr (wd68 hw)) (Or.inr (wd56 hw)) (by decide) (by decide) (by decide)
theorem sn_PageRankSettings_scale_damping {a0 : Array Value} {Z : State} (hw : ∀ d ∈ tables_1, d.before a0 Z = true) : Jvm.RoadKit.slotOf Z "com/example/gauger/gauger/engine/PageRankSettings" "scale" "Lcom/example/gauger/gauger/engine/Scale;" ≠ Jvm.RoadKit.slotOf Z "com/example/gauger/gauger/engine/PageRankSettings" "damping" "D" := slot_ne (C := "com/example/gauger/gauger/engine/PageRankSettings") (a0 := a0) (t := (.object "com/example/gauger/gauger/engine/Scale")) (t' := .double) (Or.inr (wd71 hw)) (Or.inr (wd56 hw)) (by decide) (by decide) (by decide)
theorem sn_PageRankSettings_dangling_damping {a0 : Array Value} {Z : State} (hw : ∀ d ∈ tables_1, d.before a0 Z = true) : Jvm.RoadKit.slotOf Z "com/example/gauger/gauger/engine/PageRankSettings" "dangling" "Lcom/example/gauger/gauger/engine/Dangling;" ≠ Jvm.RoadKit.slotOf Z "com/example/gauger/gauger/engine/PageRankSettings" "damping" "D" := slot_ne (C := "com/example/gauger/gauger/engine/PageRankSettings") (a0 := a0) (t := (.object "com/example/gauger/gauger/engine/Dangling")) (t' := .double) (Or.inr (wd74 hw)) (Or.inr (wd56 hw)) (by decide) (by decide) (by decide)
theorem sn_PageRankSettings_personal_damping {a0 : Array Value} {Z : State} (hw : ∀ d ∈ tables_1, d.before a0 Z = true) : Jvm.RoadKit.slotOf Z "com/example/gauger/gauger/engine/PageRankSettings" "personal" "Ljava/util/Set;" ≠ Jvm.RoadKit.slotOf Z "com/example/gauger/gauger/engine/PageRankSettings" "damping" "D" := slot_ne (C := "com/example/gauger/gauger/engine/PageRankSettings") (a0 := a0) (t := (.object "java/util/Set")) (t' := .double) (Or.inr (wd77 hw)) (Or.inr (wd56 hw)) (by decide) (by decide) (by decide)
theorem sn_PageRankSettings_damping_start {a0 : Array Value} {Z : State} (hw : ∀ d ∈ tables_1, d.before a0 Z = true) : Jvm.RoadKit.slotOf Z "com/example/gauger/gauger/engine/PageRankSettings" "damping" "D" ≠ Jvm.RoadKit.slotOf Z "com/example/gauger/gauger/engine/PageRankSettings" "start" "D" := slot_ne (C := "com/example/gauger/gauger/engine/PageRankSettings") (a0 := a0) (t := .double) (t' := .double) (Or.inr (wd56 hw)) (Or.inr (wd59 hw)) (by decide) (by decide) (by decide)
theorem sn_PageRankSettings_tolerance_start {a0 : Array Value} {Z : State} (hw : ∀ d ∈ tables_1, d.before a0 Z = true) : Jvm.RoadKit.slotOf Z "com/example/gauger/gauger/engine/PageRankSettings" "tolerance" "D" ≠ Jvm.RoadKit.slotOf Z "com/example/gauger/gauger/engine/PageRankSettings" "start" "D" := slot_ne (C := "com/example/gauger/gauger/engine/PageRankSettings") (a0 := a0) (t := .double) (t' := .double) (Or.inr (wd62 hw)) (Or.inr (wd59 hw)) (by decide) (by decide) (by decide)
theorem sn_PageRankSettings_maxPasses_start {a0 : Array Value} {Z : State} (hw : ∀ d ∈ tables_1, d.before a0 Z = true) : Jvm.RoadKit.slotOf Z "com/example/gauger/gauger/engine/PageRankSettings" "maxPasses" "I" ≠ Jvm.RoadKit.slotOf Z "com/example/gauger/gauger/engine/PageRankSettings" "start" "D" := slot_ne (C := "com/example/gauger/gauger/engine/PageRankSettings") (a0 := a0) (t := .int) (t' := .double) (Or.inr (wd65 hw)) (Or.inr (wd59 hw)) (by decide) (by decide) (by decide)
theorem sn_PageRankSettings_updates_start {a0 : Array Value} {Z : State} (hw : ∀ d ∈ tables_1, d.before a0 Z = true) : Jvm.RoadKit.slotOf Z "com/example/gauger/gauger/engine/PageRankSettings" "updates" "Lcom/example/gauger/gauger/engine/Updates;" ≠ Jvm.RoadKit.slotOf Z "com/example/gauger/gauger/engine/PageRankSettings" "start" "D" := slot_ne (C := "com/example/gauger/gauger/engine/PageRankSettings") (a0 := a0) (t := (.object "com/example/gauger/gauger/engine/Updates")) (t' := .double) (Or.inr (wd68 hw)) (Or.inr (wd59 hw)) (by decide) (by decide) (by decide)
theorem sn_PageRankSettings_scale_start {a0 : Array Value} {Z : State} (hw : ∀ d ∈ tables_1, d.before a0 Z = true) : Jvm.RoadKit.slotOf Z "com/example/gauger/gauger/engine/PageRankSettings" "scale" "Lcom/example/gauger/gauger/engine/Scale;" ≠ Jvm.RoadKit.slotOf Z "com/example/gauger/gauger/engine/PageRankSettings" "start" "D" := slot_ne (C := "com/example/gauger/gauger/engine/PageRankSettings") (a0 := a0) (t := (.object "com/example/gauger/gauger/engine/Scale")) (t' := .double) (Or.inr (wd71 hw)) (Or.inr (wd59 hw)) (by decide) (by decide) (by decide)
theorem sn_PageRankSettings_dangling_start {a0 : Array Value} {Z : State} (hw : ∀ d ∈ tables_1, d.before a0 Z = true) : Jvm.RoadKit.slotOf Z "com/example/gauger/gauger/engine/PageRankSettings" "dangling" "Lcom/example/gauger/gauger/engine/Dangling;" ≠ Jvm.RoadKit.slotOf Z "com/example/gauger/gauger/engine/PageRankSettings" "start" "D" := slot_ne (C := "com/example/gauger/gauger/engine/PageRankSettings") (a0 := a0) (t := (.object "com/example/gauger/gauger/engine/Dangling")) (t' := .double) (Or.inr (wd74 hw)) (Or.inr (wd59 hw)) (by decide) (by decide) (by decide)
theorem sn_PageRankSettings_personal_start {a0 : Array Value} {Z : State} (hw : ∀ d ∈ tables_1, d.before a0 Z = true) : Jvm.RoadKit.slotOf Z "com/example/gauger/gauger/engine/PageRankSettings" "personal" "Ljava/util/Set;" ≠ Jvm.RoadKit.slotOf Z "com/example/gauger/gauger/engine/PageRankSettings" "start" "D" := slot_ne (C := "com/example/gauger/gauger/engine/PageRankSettings") (a0 := a0) (t := (.object "java/util/Set")) (t' := .double) (Or.inr (wd77 hw)) (Or.inr (wd59 hw)) (by decide) (by decide) (by decide)
theorem sn_PageRankSettings_damping_tolerance {a0 : Array Value} {Z : State} (hw : ∀ d ∈ tables_1, d.before a0 Z = true) : Jvm.RoadKit.slotOf Z "com/example/gauger/gauger/engine/PageRankSettings" "damping" "D" ≠ Jvm.RoadKit.slotOf Z "com/example/gauger/gauger/engine/PageRankSettings" "tolerance" "D" := slot_ne (C := "com/example/gauger/gauger/engine/PageRankSettings") (a0 := a0) (t := .double) (t' := .double) (Or.inr (wd56 hw)) (Or.inr (wd62 hw)) (by decide) (by decide) (by decide)
theorem sn_PageRankSettings_start_tolerance {a0 : Array Value} {Z : State} (hw : ∀ d ∈ tables_1, d.before a0 Z = true) : Jvm.RoadKit.slotOf Z "com/example/gauger/gauger/engine/PageRankSettings" "start" "D" ≠ Jvm.RoadKit.slotOf Z "com/example/gauger/gauger/engine/PageRankSettings" "tolerance" "D" := slot_ne (C := "com/example/gauger/gauger/engine/PageRankSettings") (a0 := a0) (t := .double) (t' := .double) (Or.inr (wd59 hw)) (Or.inr (wd62 hw)) (by decide) (by decide) (by decide)
theorem sn_PageRankSettings_maxPasses_tolerance {a0 : Array Value} {Z : State} (hw : ∀ d ∈ tables_1, d.before a0 Z = true) : Jvm.RoadKit.slotOf Z "com/example/gauger/gauger/engine/PageRankSettings" "maxPasses" "I" ≠ Jvm.RoadKit.slotOf Z "com/example/gauger/gauger/engine/PageRankSettings" "tolerance" "D" := slot_ne (C := "com/example/gauger/gauger/engine/PageRankSettings") (a0 := a0) (t := .int) (t' := .double) (Or.inr (wd65 hw)) (Or.inr (wd62 hw)) (by decide) (by decide) (by decide)
theorem sn_PageRankSettings_updates_tolerance {a0 : Array Value} {Z : State} (hw : ∀ d ∈ tables_1, d.before a0 Z = true) : Jvm.RoadKit.slotOf Z "com/example/gauger/gauger/engine/PageRankSettings" "updates" "Lcom/example/gauger/gauger/engine/Updates;" ≠ Jvm.RoadKit.slotOf Z "com/example/gauger/gauger/engine/PageRankSettings" "tolerance" "D" := slot_ne (C := "com/example/gauger/gauger/engine/PageRankSettings") (a0 := a0) (t := (.object "com/example/gauger/gauger/engine/Updates")) (t' := .double) (Or.inr (wd68 hw)) (Or.inr (wd62 hw)) (by decide) (by decide) (by decide)
theorem sn_PageRankSettings_scale_tolerance {a0 : Array Value} {Z : State} (hw : ∀ d ∈ tables_1, d.before a0 Z = true) : Jvm.RoadKit.slotOf Z "com/example/gauger/gauger/engine/PageRankSettings" "scale" "Lcom/example/gauger/gauger/engine/Scale;" ≠ Jvm.RoadKit.slotOf Z "com/example/gauger/gauger/engine/PageRankSettings" "tolerance" "D" := slot_ne (C := "com/example/gauger/gauger/engine/PageRankSettings") (a0 := a0) (t := (.object "com/example/gauger/gauger/engine/Scale")) (t' := .double) (Or.inr (wd71 hw)) (Or.inr (wd62 hw)) (by decide) (by decide) (by decide)
theorem sn_PageRankSettings_dangling_tolerance {a0 : Array Value} {Z : State} (hw : ∀ d ∈ tables_1, d.before a0 Z = true) : Jvm.RoadKit.slotOf Z "com/example/gauger/gauger/engine/PageRankSettings" "dangling" "Lcom/example/gauger/gauger/engine/Dangling;" ≠ Jvm.RoadKit.slotOf Z "com/example/gauger/gauger/engine/PageRankSettings" "tolerance" "D" := slot_ne (C := "com/example/gauger/gauger/engine/PageRankSettings") (a0 := a0) (t := (.object "com/example/gauger/gauger/engine/Dangling")) (t' := .double) (Or.inr (wd74 hw)) (Or.inr (wd62 hw)) (by decide) (by decide) (by decide)
theorem sn_PageRankSettings_personal_tolerance {a0 : Array Value} {Z : State} (hw : ∀ d ∈ tables_1, d.before a0 Z = true) : Jvm.RoadKit.slotOf Z "com/example/gauger/gauger/engine/PageRankSettings" "personal" "Ljava/util/Set;" ≠ Jvm.RoadKit.slotOf Z "com/example/gauger/gauger/engine/PageRankSettings" "tolerance" "D" := slot_ne (C := "com/example/gauger/gauger/engine/PageRankSettings") (a0 := a0) (t := (.object "java/util/Set")) (t' := .double) (Or.inr (wd77 hw)) (Or.inr (wd62 hw)) (by decide) (by decide) (by decide)
theorem sn_PageRankSettings_damping_maxPasses {a0 : Array Value} {Z : State} (hw : ∀ d ∈ tables_1, d.before a0 Z = true) : Jvm.RoadKit.slotOf Z "com/example/gauger/gauger/engine/PageRankSettings" "damping" "D" ≠ Jvm.RoadKit.slotOf Z "com/example/gauger/gauger/engine/PageRankSettings" "maxPasses" "I" := slot_ne (C := "com/example/gauger/gauger/engine/PageRankSettings") (a0 := a0) (t := .double) (t' := .int) (Or.inr (wd56 hw)) (Or.inr (wd65 hw)) (by decide) (by decide) (by decide)
theorem sn_PageRankSettings_start_maxPasses {a0 : Array Value} {Z : State} (hw : ∀ d ∈ tables_1, d.before a0 Z = true) : Jvm.RoadKit.slotOf Z "com/example/gauger/gauger/engine/PageRankSettings" "start" "D" ≠ Jvm.RoadKit.slotOf Z "com/example/gauger/gauger/engine/PageRankSettings" "maxPasses" "I" := slot_ne (C := "com/example/gauger/gauger/engine/PageRankSettings") (a0 := a0) (t := .double) (t' := .int) (Or.inr (wd59 hw)) (Or.inr (wd65 hw)) (by decide) (by decide) (by decide)
theorem sn_PageRankSettings_tolerance_maxPasses {a0 : Array Value} {Z : State} (hw : ∀ d ∈ tables_1, d.before a0 Z = true) : Jvm.RoadKit.slotOf Z "com/example/gauger/gauger/engine/PageRankSettings" "tolerance" "D" ≠ Jvm.RoadKit.slotOf Z "com/example/gauger/gauger/engine/PageRankSettings" "maxPasses" "I" := slot_ne (C := "com/example/gauger/gauger/engine/PageRankSettings") (a0 := a0) (t := .double) (t' := .int) (Or.inr (wd62 hw)) (Or.inr (wd65 hw)) (by decide) (by decide) (by decide)
theorem sn_PageRankSettings_updates_maxPasses {a0 : Array Value} {Z : State} (hw : ∀ d ∈ tables_1, d.before a0 Z = true) : Jvm.RoadKit.slotOf Z "com/example/gauger/gauger/engine/PageRankSettings" "updates" "Lcom/example/gauger/gauger/engine/Updates;" ≠ Jvm.RoadKit.slotOf Z "com/example/gauger/gauger/engine/PageRankSettings" "maxPasses" "I" := slot_ne (C := "com/example/gauger/gauger/engine/PageRankSettings") (a0 := a0) (t := (.object "com/example/gauger/gauger/engine/Updates")) (t' := .int) (Or.inr (wd68 hw)) (Or.inr (wd65 hw)) (by decide) (by decide) (by decide)
theorem sn_PageRankSettings_scale_maxPasses {a0 : Array Value} {Z : State} (hw : ∀ d ∈ tables_1, d.before a0 Z = true) : Jvm.RoadKit.slotOf Z "com/example/gauger/gauger/engine/PageRankSettings" "scale" "Lcom/example/gauger/gauger/engine/Scale;" ≠ Jvm.RoadKit.slotOf Z "com/example/gauger/gauger/engine/PageRankSettings" "maxPasses" "I" := slot_ne (C := "com/example/gauger/gauger/engine/PageRankSettings") (a0 := a0) (t := (.object "com/example/gauger/gauger/engine/Scale")) (t' := .int) (Or.inr (wd71 hw)) (Or.inr (wd65 hw)) (by decide) (by decide) (by decide)
theorem sn_PageRankSettings_dangling_maxPasses {a0 : Array Value} {Z : State} (hw : ∀ d ∈ tables_1, d.before a0 Z = true) : Jvm.RoadKit.slotOf Z "com/example/gauger/gauger/engine/PageRankSettings" "dangling" "Lcom/example/gauger/gauger/engine/Dangling;" ≠ Jvm.RoadKit.slotOf Z "com/example/gauger/gauger/engine/PageRankSettings" "maxPasses" "I" := slot_ne (C := "com/example/gauger/gauger/engine/PageRankSettings") (a0 := a0) (t := (.object "com/example/gauger/gauger/engine/Dangling")) (t' := .int) (Or.inr (wd74 hw)) (Or.inr (wd65 hw)) (by decide) (by decide) (by decide)
theorem sn_PageRankSettings_personal_maxPasses {a0 : Array Value} {Z : State} (hw : ∀ d ∈ tables_1, d.before a0 Z = true) : Jvm.RoadKit.slotOf Z "com/example/gauger/gauger/engine/PageRankSettings" "personal" "Ljava/util/Set;" ≠ Jvm.RoadKit.slotOf Z "com/example/gauger/gauger/engine/PageRankSettings" "maxPasses" "I" := slot_ne (C := "com/example/gauger/gauger/engine/PageRankSettings") (a0 := a0) (t := (.object "java/util/Set")) (t' := .int) (Or.inr (wd77 hw)) (Or.inr (wd65 hw)) (by decide) (by decide) (by decide)
theorem sn_PageRankSettings_damping_updates {a0 : Array Value} {Z : State} (hw : ∀ d ∈ tables_1, d.before a0 Z = true) : Jvm.RoadKit.slotOf Z "com/example/gauger/gauger/engine/PageRankSettings" "damping" "D" ≠ Jvm.RoadKit.slotOf Z "com/example/gauger/gauger/engine/PageRankSettings" "updates" "Lcom/example/gauger/gauger/engine/Updates;" := slot_ne (C := "com/example/gauger/gauger/engine/PageRankSettings") (a0 := a0) (t := .double) (t' := (.object "com/example/gauger/gauger/engine/Updates")) (Or.inr (wd56 hw)) (Or.inr (wd68 hw)) (by decide) (by decide) (by decide)
theorem sn_PageRankSettings_start_updates {a0 : Array Value} {Z : State} (hw : ∀ d ∈ tables_1, d.before a0 Z = true) : Jvm.RoadKit.slotOf Z "com/example/gauger/gauger/engine/PageRankSettings" "start" "D" ≠ Jvm.RoadKit.slotOf Z "com/example/gauger/gauger/engine/PageRankSettings" "updates" "Lcom/example/gauger/gauger/engine/Updates;" := slot_ne (C := "com/example/gauger/gauger/engine/PageRankSettings") (a0 := a0) (t := .double) (t' := (.object "com/example/gauger/gauger/engine/Updates")) (Or.inr (wd59 hw)) (Or.inr (wd68 hw)) (by decide) (by decide) (by decide)
theorem sn_PageRankSettings_tolerance_updates {a0 : Array Value} {Z : State} (hw : ∀ d ∈ tables_1, d.before a0 Z = true) : Jvm.RoadKit.slotOf Z "com/example/gauger/gauger/engine/PageRankSettings" "tolerance" "D" ≠ Jvm.RoadKit.slotOf Z "com/example/gauger/gauger/engine/PageRankSettings" "updates" "Lcom/example/gauger/gauger/engine/Updates;" := slot_ne (C := "com/example/gauger/gauger/engine/PageRankSettings") (a0 := a0) (t := .double) (t' := (.object "com/example/gauger/gauger/engine/Updates")) (Or.inr (wd62 hw)) (Or.inr (wd68 hw)) (by decide) (by decide) (by decide)
theorem sn_PageRankSettings_maxPasses_updates {a0 : Array Value} {Z : State} (hw : ∀ d ∈ tables_1, d.before a0 Z = true) : Jvm.RoadKit.slotOf Z "com/example/gauger/gauger/engine/PageRankSettings" "maxPasses" "I" ≠ Jvm.RoadKit.slotOf Z "com/example/gauger/gauger/engine/PageRankSettings" "updates" "Lcom/example/gauger/gauger/engine/Updates;" := slot_ne (C := "com/example/gauger/gauger/engine/PageRankSettings") (a0 := a0) (t := .int) (t' := (.object "com/example/gauger/gauger/engine/Updates")) (Or.inr (wd65 hw)) (Or.inr (wd68 hw)) (by decide) (by decide) (by decide)
theorem sn_PageRankSettings_scale_updates {a0 : Array Value} {Z : State} (hw : ∀ d ∈ tables_1, d.before a0 Z = true) : Jvm.RoadKit.slotOf Z "com/example/gauger/gauger/engine/PageRankSettings" "scale" "Lcom/example/gauger/gauger/engine/Scale;" ≠ Jvm.RoadKit.slotOf Z "com/example/gauger/gauger/engine/PageRankSettings" "updates" "Lcom/example/gauger/gauger/engine/Updates;" := slot_ne (C := "com/example/gauger/gauger/engine/PageRankSettings") (a0 := a0) (t := (.object "com/example/gauger/gauger/engine/Scale")) (t' := (.object "com/example/gauger/gauger/engine/Updates")) (Or.inr (wd71 hw)) (Or.inr (wd68 hw)) (by decide) (by decide) (by decide)
theorem sn_PageRankSettings_dangling_updates {a0 : Array Value} {Z : State} (hw : ∀ d ∈ tables_1, d.before a0 Z = true) : Jvm.RoadKit.slotOf Z "com/example/gauger/gauger/engine/PageRankSettings" "dangling" "Lcom/example/gauger/gauger/engine/Dangling;" ≠ Jvm.RoadKit.slotOf Z "com/example/gauger/gauger/engine/PageRankSettings" "updates" "Lcom/example/gauger/gauger/engine/Updates;" := slot_ne (C := "com/example/gauger/gauger/engine/PageRankSettings") (a0 := a0) (t := (.object "com/example/gauger/gauger/engine/Dangling")) (t' := (.object "com/example/gauger/gauger/engine/Updates")) (Or.inr (wd74 hw)) (Or.inr (wd68 hw)) (by decide) (by decide) (by decide)
theorem sn_PageRankSettings_personal_updates {a0 : Array Value} {Z : State} (hw : ∀ d ∈ tables_1, d.before a0 Z = true) : Jvm.RoadKit.slotOf Z "com/example/gauger/gauger/engine/PageRankSettings" "personal" "Ljava/util/Set;" ≠ Jvm.RoadKit.slotOf Z "com/example/gauger/gauger/engine/PageRankSettings" "updates" "Lcom/example/gauger/gauger/engine/Updates;" := slot_ne (C := "com/example/gauger/gauger/engine/PageRankSettings") (a0 := a0) (t := (.object "java/util/Set")) (t' := (.object "com/example/gauger/gauger/engine/Updates")) (Or.inr (wd77 hw)) (Or.inr (wd68 hw)) (by decide) (by decide) (by decide)
theorem sn_PageRankSettings_damping_scale {a0 : Array Value} {Z : State} (hw : ∀ d ∈ tables_1, d.before a0 Z = true) : Jvm.RoadKit.slotOf Z "com/example/gauger/gauger/engine/PageRankSettings" "damping" "D" ≠ Jvm.RoadKit.slotOf Z "com/example/gauger/gauger/engine/PageRankSettings" "scale" "Lcom/example/gauger/gauger/engine/Scale;" := slot_ne (C := "com/example/gauger/gauger/engine/PageRankSettings") (a0 := a0) (t := .double) (t' := (.object "com/example/gauger/gauger/engine/Scale")) (Or.inr (wd56 hw)) (Or.inr (wd71 hw)) (by decide) (by decide) (by decide)
theorem sn_PageRankSettings_start_scale {a0 : Array Value} {Z : State} (hw : ∀ d ∈ tables_1, d.before a0 Z = true) : Jvm.RoadKit.slotOf Z "com/example/gauger/gauger/engine/PageRankSettings" "start" "D" ≠ Jvm.RoadKit.slotOf Z "com/example/gauger/gauger/engine/PageRankSettings" "scale" "Lcom/example/gauger/gauger/engine/Scale;" := slot_ne (C := "com/example/gauger/gauger/engine/PageRankSettings") (a0 := a0) (t := .double) (t' := (.object "com/example/gauger/gauger/engine/Scale")) (Or.inr (wd59 hw)) (Or.inr (wd71 hw)) (by decide) (by decide) (by decide)
theorem sn_PageRankSettings_tolerance_scale {a0 : Array Value} {Z : State} (hw : ∀ d ∈ tables_1, d.before a0 Z = true) : Jvm.RoadKit.slotOf Z "com/example/gauger/gauger/engine/PageRankSettings" "tolerance" "D" ≠ Jvm.RoadKit.slotOf Z "com/example/gauger/gauger/engine/PageRankSettings" "scale" "Lcom/example/gauger/gauger/engine/Scale;" := slot_ne (C := "com/example/gauger/gauger/engine/PageRankSettings") (a0 := a0) (t := .double) (t' := (.object "com/example/gauger/gauger/engine/Scale")) (Or.inr (wd62 hw)) (Or.inr (wd71 hw)) (by decide) (by decide) (by decide)
theorem sn_PageRankSettings_maxPasses_scale {a0 : Array Value} {Z : State} (hw : ∀ d ∈ tables_1, d.before a0 Z = true) : Jvm.RoadKit.slotOf Z "com/example/gauger/gauger/engine/PageRankSettings" "maxPasses" "I" ≠ Jvm.RoadKit.slotOf Z "com/example/gauger/gauger/engine/PageRankSettings" "scale" "Lcom/example/gauger/gauger/engine/Scale;" := slot_ne (C := "com/example/gauger/gauger/engine/PageRankSettings") (a0 := a0) (t := .int) (t' := (.object "com/example/gauger/gauger/engine/Scale")) (Or.inr (wd65 hw)) (Or.inr (wd71 hw)) (by decide) (by decide) (by decide)
theorem sn_PageRankSettings_updates_scale {a0 : Array Value} {Z : State} (hw : ∀ d ∈ tables_1, d.before a0 Z = true) : Jvm.RoadKit.slotOf Z "com/example/gauger/gauger/engine/PageRankSettings" "updates" "Lcom/example/gauger/gauger/engine/Updates;" ≠ Jvm.RoadKit.slotOf Z "com/example/gauger/gauger/engine/PageRankSettings" "scale" "Lcom/example/gauger/gauger/engine/Scale;" := slot_ne (C := "com/example/gauger/gauger/engine/PageRankSettings") (a0 := a0) (t := (.object "com/example/gauger/gauger/engine/Updates")) (t' := (.object "com/example/gauger/gauger/engine/Scale")) (Or.inr (wd68 hw)) (Or.inr (wd71 hw)) (by decide) (by decide) (by decide)
theorem sn_PageRankSettings_dangling_scale {a0 : Array Value} {Z : State} (hw : ∀ d ∈ tables_1, d.before a0 Z = true) : Jvm.RoadKit.slotOf Z "com/example/gauger/gauger/engine/PageRankSettings" "dangling" "Lcom/example/gauger/gauger/engine/Dangling;" ≠ Jvm.RoadKit.slotOf Z "com/example/gauger/gauger/engine/PageRankSettings" "scale" "Lcom/example/gauger/gauger/engine/Scale;" := slot_ne (C := "com/example/gauger/gauger/engine/PageRankSettings") (a0 := a0) (t := (.object "com/example/gauger/gauger/engine/Dangling")) (t' := (.object "com/example/gauger/gauger/engine/Scale")) (Or.inr (wd74 hw)) (Or.inr (wd71 hw)) (by decide) (by decide) (by decide)
theorem sn_PageRankSettings_personal_scale {a0 : Array Value} {Z : State} (hw : ∀ d ∈ tables_1, d.before a0 Z = true) : Jvm.RoadKit.slotOf Z "com/example/gauger/gauger/engine/PageRankSettings" "personal" "Ljava/util/Set;" ≠ Jvm.RoadKit.slotOf Z "com/example/gauger/gauger/engine/PageRankSettings" "scale" "Lcom/example/gauger/gauger/engine/Scale;" := slot_ne (C := "com/example/gauger/gauger/engine/PageRankSettings") (a0 := a0) (t := (.object "java/util/Set")) (t' := (.object "com/example/gauger/gauger/engine/Scale")) (Or.inr (wd77 hw)) (Or.inr (wd71 hw)) (by decide) (by decide) (by decide)
theorem sn_PageRankSettings_damping_dangling {a0 : Array Value} {Z : State} (hw : ∀ d ∈ tables_1, d.before a0 Z = true) : Jvm.RoadKit.slotOf Z "com/example/gauger/gauger/engine/PageRankSettings" "damping" "D" ≠ Jvm.RoadKit.slotOf Z "com/example/gauger/gauger/engine/PageRankSettings" "dangling" "Lcom/example/gauger/gauger/engine/Dangling;" := slot_ne (C := "com/example/gauger/gauger/engine/PageRankSettings") (a0 := a0) (t := .double) (t' := (.object "com/example/gauger/gauger/engine/Dangling")) (Or.inr (wd56 hw)) (Or.inr (wd74 hw)) (by decide) (by decide) (by decide)
theorem sn_PageRankSettings_start_dangling {a0 : Array Value} {Z : State} (hw : ∀ d ∈ tables_1, d.before a0 Z = true) : Jvm.RoadKit.slotOf Z "com/example/gauger/gauger/engine/PageRankSettings" "start" "D" ≠ Jvm.RoadKit.slotOf Z "com/example/gauger/gauger/engine/PageRankSettings" "dangling" "Lcom/example/gauger/gauger/engine/Dangling;" := slot_ne (C := "com/example/gauger/gauger/engine/PageRankSettings") (a0 := a0) (t := .double) (t' := (.object "com/example/gauger/gauger/engine/Dangling")) (Or.inr (wd59 hw)) (Or.inr (wd74 hw)) (by decide) (by decide) (by decide)
theorem sn_PageRankSettings_tolerance_dangling {a0 : Array Value} {Z : State} (hw : ∀ d ∈ tables_1, d.before a0 Z = true) : Jvm.RoadKit.slotOf Z "com/example/gauger/gauger/engine/PageRankSettings" "tolerance" "D" ≠ Jvm.RoadKit.slotOf Z "com/example/gauger/gauger/engine/PageRankSettings" "dangling" "Lcom/example/gauger/gauger/engine/Dangling;" := slot_ne (C := "com/example/gauger/gauger/engine/PageRankSettings") (a0 := a0) (t := .double) (t' := (.object "com/example/gauger/gauger/engine/Dangling")) (Or.inr (wd62 hw)) (Or.inr (wd74 hw)) (by decide) (by decide) (by decide)
theorem sn_PageRankSettings_maxPasses_dangling {a0 : Array Value} {Z : State} (hw : ∀ d ∈ tables_1, d.before a0 Z = true) : Jvm.RoadKit.slotOf Z "com/example/gauger/gauger/engine/PageRankSettings" "maxPasses" "I" ≠ Jvm.RoadKit.slotOf Z "com/example/gauger/gauger/engine/PageRankSettings" "dangling" "Lcom/example/gauger/gauger/engine/Dangling;" := slot_ne (C := "com/example/gauger/gauger/engine/PageRankSettings") (a0 := a0) (t := .int) (t' := (.object "com/example/gauger/gauger/engine/Dangling")) (Or.inr (wd65 hw)) (Or.inr (wd74 hw)) (by decide) (by decide) (by decide)
theorem sn_PageRankSettings_updates_dangling {a0 : Array Value} {Z : State} (hw : ∀ d ∈ tables_1, d.before a0 Z = true) : Jvm.RoadKit.slotOf Z "com/example/gauger/gauger/engine/PageRankSettings" "updates" "Lcom/example/gauger/gauger/engine/Updates;" ≠ Jvm.RoadKit.slotOf Z "com/example/gauger/gauger/engine/PageRankSettings" "dangling" "Lcom/example/gauger/gauger/engine/Dangling;" := slot_ne (C := "com/example/gauger/gauger/engine/PageRankSettings") (a0 := a0) (t := (.object "com/example/gauger/gauger/engine/Updates")) (t' := (.object "com/example/gauger/gauger/engine/Dangling")) (Or.inr (wd68 hw)) (Or.inr (wd74 hw)) (by decide) (by decide) (by decide)
theorem sn_PageRankSettings_scale_dangling {a0 : Array Value} {Z : State} (hw : ∀ d ∈ tables_1, d.before a0 Z = true) : Jvm.RoadKit.slotOf Z "com/example/gauger/gauger/engine/PageRankSettings" "scale" "Lcom/example/gauger/gauger/engine/Scale;" ≠ Jvm.RoadKit.slotOf Z "com/example/gauger/gauger/engine/PageRankSettings" "dangling" "Lcom/example/gauger/gauger/engine/Dangling;" := slot_ne (C := "com/example/gauger/gauger/engine/PageRankSettings") (a0 := a0) (t := (.object "com/example/gauger/gauger/engine/Scale")) (t' := (.object "com/example/gauger/gauger/engine/Dangling")) (Or.inr (wd71 hw)) (Or.inr (wd74 hw)) (by decide) (by decide) (by decide)
theorem sn_PageRankSettings_personal_dangling {a0 : Array Value} {Z : State} (hw : ∀ d ∈ tables_1, d.before a0 Z = true) : Jvm.RoadKit.slotOf Z "com/example/gauger/gauger/engine/PageRankSettings" "personal" "Ljava/util/Set;" ≠ Jvm.RoadKit.slotOf Z "com/example/gauger/gauger/engine/PageRankSettings" "dangling" "Lcom/example/gauger/gauger/engine/Dangling;" := slot_ne (C := "com/example/gauger/gauger/engine/PageRankSettings") (a0 := a0) (t := (.object "java/util/Set")) (t' := (.object "com/example/gauger/gauger/engine/Dangling")) (Or.inr (wd77 hw)) (Or.inr (wd74 hw)) (by decide) (by decide) (by decide)
theorem sn_PageRankSettings_damping_personal {a0 : Array Value} {Z : State} (hw : ∀ d ∈ tables_1, d.before a0 Z = true) : Jvm.RoadKit.slotOf Z "com/example/gauger/gauger/engine/PageRankSettings" "damping" "D" ≠ Jvm.RoadKit.slotOf Z "com/example/gauger/gauger/engine/PageRankSettings" "personal" "Ljava/util/Set;" := slot_ne (C := "com/example/gauger/gauger/engine/PageRankSettings") (a0 := a0) (t := .double) (t' := (.object "java/util/Set")) (Or.inr (wd56 hw)) (Or.inr (wd77 hw)) (by decide) (by decide) (by decide)
theorem sn_PageRankSettings_start_personal {a0 : Array Value} {Z : State} (hw : ∀ d ∈ tables_1, d.before a0 Z = true) : Jvm.RoadKit.slotOf Z "com/example/gauger/gauger/engine/PageRankSettings" "start" "D" ≠ Jvm.RoadKit.slotOf Z "com/example/gauger/gauger/engine/PageRankSettings" "personal" "Ljava/util/Set;" := slot_ne (C := "com/example/gauger/gauger/engine/PageRankSettings") (a0 := a0) (t := .double) (t' := (.object "java/util/Set")) (Or.inr (wd59 hw)) (Or.inr (wd77 hw)) (by decide) (by decide) (by decide)
theorem sn_PageRankSettings_tolerance_personal {a0 : Array Value} {Z : State} (hw : ∀ d ∈ tables_1, d.before a0 Z = true) : Jvm.RoadKit.slotOf Z "com/example/gauger/gauger/engine/PageRankSettings" "tolerance" "D" ≠ Jvm.RoadKit.slotOf Z "com/example/gauger/gauger/engine/PageRankSettings" "personal" "Ljava/util/Set;" := slot_ne (C := "com/example/gauger/gauger/engine/PageRankSettings") (a0 := a0) (t := .double) (t' := (.object "java/util/Set")) (Or.inr (wd62 hw)) (Or.inr (wd77 hw)) (by decide) (by decide) (by decide)
theorem sn_PageRankSettings_maxPasses_personal {a0 : Array Value} {Z : State} (hw : ∀ d ∈ tables_1, d.before a0 Z = true) : Jvm.RoadKit.slotOf Z "com/example/gauger/gauger/engine/PageRankSettings" "maxPasses" "I" ≠ Jvm.RoadKit.slotOf Z "com/example/gauger/gauger/engine/PageRankSettings" "personal" "Ljava/util/Set;" := slot_ne (C := "com/example/gauger/gauger/engine/PageRankSettings") (a0 := a0) (t := .int) (t' := (.object "java/util/Set")) (Or.inr (wd65 hw)) (Or.inr (wd77 hw)) (by decide) (by decide) (by decide)
theorem sn_PageRankSettings_updates_personal {a0 : Array Value} {Z : State} (hw : ∀ d ∈ tables_1, d.before a0 Z = true) : Jvm.RoadKit.slotOf Z "com/example/gauger/gauger/engine/PageRankSettings" "updates" "Lcom/example/gauger/gauger/engine/Updates;" ≠ Jvm.RoadKit.slotOf Z "com/example/gauger/gauger/engine/PageRankSettings" "personal" "Ljava/util/Set;" := slot_ne (C := "com/example/gauger/gauger/engine/PageRankSettings") (a0 := a0) (t := (.object "com/example/gauger/gauger/engine/Updates")) (t' := (.object "java/util/Set")) (Or.inr (wd68 hw)) (Or.inr (wd77 hw)) (by decide) (by decide) (by decide)
theorem sn_PageRankSettings_scale_personal {a0 : Array Value} {Z : State} (hw : ∀ d ∈ tables_1, d.before a0 Z = true) : Jvm.RoadKit.slotOf Z "com/example/gauger/gauger/engine/PageRankSettings" "scale" "Lcom/example/gauger/gauger/engine/Scale;" ≠ Jvm.RoadKit.slotOf Z "com/example/gauger/gauger/engine/PageRankSettings" "personal" "Ljava/util/Set;" := slot_ne (C := "com/example/gauger/gauger/engine/PageRankSettings") (a0 := a0) (t := (.object "com/example/gauger/gauger/engine/Scale")) (t' := (.object "java/util/Set")) (Or.inr (wd71 hw)) (Or.inr (wd77 hw)) (by decide) (by decide) (by decide)
theorem sn_PageRankSettings_dangling_personal {a0 : Array Value} {Z : State} (hw : ∀ d ∈ tables_1, d.before a0 Z = true) : Jvm.RoadKit.slotOf Z "com/example/gauger/gauger/engine/PageRankSettings" "dangling" "Lcom/example/gauger/gauger/engine/Dangling;" ≠ Jvm.RoadKit.slotOf Z "com/example/gauger/gauger/engine/PageRankSettings" "personal" "Ljava/util/Set;" := slot_ne (C := "com/example/gauger/gauger/engine/PageRankSettings") (a0 := a0) (t := (.object "com/example/gauger/gauger/engine/Dangling")) (t' := (.object "java/util/Set")) (Or.inr (wd74 hw)) (Or.inr (wd77 hw)) (by decide) (by decide) (by decide)
theorem pd0 : parseMethodDescriptor "()Ljava/util/Set;" = some ⟨[], some (.object "java/util/Set")⟩ := by decide +kernel
theorem pd1 : parseMethodDescriptor "(Lcom/example/gauger/gauger/engine/PageRankSettings$Builder;)V" = some ⟨[(.object "com/example/gauger/gauger/engine/PageRankSettings$Builder")], none⟩ := by decide +kernel
theorem pd2 : parseMethodDescriptor "()V" = some ⟨[], none⟩ := by decide +kernel
theorem pd3 : parseMethodDescriptor "()Lcom/example/gauger/gauger/engine/PageRankSettings;" = some ⟨[], some (.object "com/example/gauger/gauger/engine/PageRankSettings")⟩ := by decide +kernel
theorem pd4 : parseMethodDescriptor "(I)Lcom/example/gauger/gauger/engine/PageRankSettings$Builder;" = some ⟨[.int], some (.object "com/example/gauger/gauger/engine/PageRankSettings$Builder")⟩ := by decide +kernel
theorem pd5 : parseMethodDescriptor "()I" = some ⟨[], some .int⟩ := by decide +kernel
theorem pd6 : parseMethodDescriptor "()D" = some ⟨[], some .double⟩ := by decide +kernel
theorem pd7 : parseMethodDescriptor "()Lcom/example/gauger/gauger/engine/Updates;" = some ⟨[], some (.object "com/example/gauger/gauger/engine/Updates")⟩ := by decide +kernel
theorem pd8 : parseMethodDescriptor "()Lcom/example/gauger/gauger/engine/Scale;" = some ⟨[], some (.object "com/example/gauger/gauger/engine/Scale")⟩ := by decide +kernel
theorem pd9 : parseMethodDescriptor "()Lcom/example/gauger/gauger/engine/Dangling;" = some ⟨[], some (.object "com/example/gauger/gauger/engine/Dangling")⟩ := by decide +kernel
theorem pn0 : plainName "java/util/Set" = true := by first | (simp [plainName, overriddenIn]; done) | decide +kernel
theorem pn1 : plainName "com/example/gauger/gauger/engine/PageRankSettings$Builder" = true := by first | (simp [plainName, overriddenIn]; done) | decide +kernel
theorem pn2 : plainName "com/example/gauger/gauger/engine/PageRankSettings" = true := by first | (simp [plainName, overriddenIn]; done) | decide +kernel
theorem pn3 : plainName "com/example/gauger/gauger/engine/BuilderMaxPassesPinLaw" = true := by first | (simp [plainName, overriddenIn]; done) | decide +kernel
set_option maxRecDepth 65536 in
set_option maxHeartbeats 40000000 in
theorem c_setof (l : Launch) (Z : State) (a0 : Array Value) (hw : ∀ d ∈ tables_1, d.before a0 Z = true) (ws : List Jvm.Cond) (u4 : Addr) (h0 : Heap) (n0 : Nat) (Z0 : n0 ≤ h0.size) (S_u4 : Sta Z Z.heap "java/util/ImmutableCollections" "EMPTY_SET" "Ljava/util/ImmutableCollections$SetN;" (.ref u4)) (O0 : Old Z n0 h0) :
    Ctr l Z (⟨"java/util/Set", "of", "()Ljava/util/Set;"⟩ : MethodName) jdk_96_method_17_code 0 (some (.object "java/util/Set")) ws ({ frames := 0, cells := 0, slots := 0, locals := 0 } : Room) n0 #[] h0 (fun v h => v = some (.ref u4) ∧ h0 = h) := by
  refine ctr (own := "java/util/Set") (nm := "of") rfl rfl (Ls := #[]) (plainFor_of_name pn0) (fun m => by first | (simp [entryFrame, mkF, argsToLocals, Value.category]; done) | rfl) ?_
  intro p e s m below meth c K eh
  refine gets K (wd38 hw) Via.refl (Sta.ext O0.2 S_u4) d_jdk_96_method_17_0 (pc' := 3) rfl ?_
  refine retA K (t := (.object "java/util/Set")) rfl rfl rfl d_jdk_96_method_17_3 (Nat.le_of_ble_eq_true rfl) (Nat.le_of_ble_eq_true rfl) ?_
  exact ⟨rfl, rfl⟩
set_option maxRecDepth 65536 in
set_option maxHeartbeats 40000000 in
theorem c_binit (l : Launch) (Z : State) (a0 : Array Value) (hw : ∀ d ∈ tables_1, d.before a0 Z = true) (ws : List Jvm.Cond) (a1 u1 u2 u3 u4 : Addr) (h0 : Heap) (n0 : Nat) (Z0 : n0 ≤ h0.size) (S_u1 : Sta Z Z.heap "com/example/gauger/gauger/engine/Updates" "AFTER_PASS" "Lcom/example/gauger/gauger/engine/Updates;" (.ref u1)) (S_u2 : Sta Z Z.heap "com/example/gauger/gauger/engine/Scale" "N" "Lcom/example/gauger/gauger/engine/Scale;" (.ref u2)) (S_u3 : Sta Z Z.heap "com/example/gauger/gauger/engine/Dangling" "KEEP" "Lcom/example/gauger/gauger/engine/Dangling;" (.ref u3)) (S_u4 : Sta Z Z.heap "java/util/ImmutableCollections" "EMPTY_SET" "Ljava/util/ImmutableCollections$SetN;" (.ref u4)) (O0 : Old Z n0 h0) (E1 : Exa Z h0 a1 "com/example/gauger/gauger/engine/PageRankSettings$Builder") (ge_a1 : n0 ≤ a1) (G_damping : Fld Z h0 a1 "com/example/gauger/gauger/engine/PageRankSettings$Builder" "damping" "D" (.double (0 : UInt64))) (G_start : Fld Z h0 a1 "com/example/gauger/gauger/engine/PageRankSettings$Builder" "start" "D" (.double (0 : UInt64))) (G_tolerance : Fld Z h0 a1 "com/example/gauger/gauger/engine/PageRankSettings$Builder" "tolerance" "D" (.double (0 : UInt64))) (G_maxPasses : Fld Z h0 a1 "com/example/gauger/gauger/engine/PageRankSettings$Builder" "maxPasses" "I" (.int (0 : Int32))) (G_updates : Fld Z h0 a1 "com/example/gauger/gauger/engine/PageRankSettings$Builder" "updates" "Lcom/example/gauger/gauger/engine/Updates;" .null) (G_scale : Fld Z h0 a1 "com/example/gauger/gauger/engine/PageRankSettings$Builder" "scale" "Lcom/example/gauger/gauger/engine/Scale;" .null) (G_dangling : Fld Z h0 a1 "com/example/gauger/gauger/engine/PageRankSettings$Builder" "dangling" "Lcom/example/gauger/gauger/engine/Dangling;" .null) (G_personal : Fld Z h0 a1 "com/example/gauger/gauger/engine/PageRankSettings$Builder" "personal" "Ljava/util/Set;" .null) :
    Ctr l Z (⟨"com/example/gauger/gauger/engine/PageRankSettings$Builder", "<init>", "()V"⟩ : MethodName) prog_10_method_1_code 1 none ws ({ frames := 1, cells := 0, slots := 0, locals := 12 } : Room) n0 #[(.ref a1)] h0 (fun v h => v = none ∧ Keep h0 h [a1] ∧ Fld Z h a1 "com/example/gauger/gauger/engine/PageRankSettings$Builder" "damping" "D" (.double (4605831338911806259 : UInt64)) ∧ Fld Z h a1 "com/example/gauger/gauger/engine/PageRankSettings$Builder" "start" "D" (.double (4607182418800017408 : UInt64)) ∧ Fld Z h a1 "com/example/gauger/gauger/engine/PageRankSettings$Builder" "tolerance" "D" (.double (4427486594234968593 : UInt64)) ∧ Fld Z h a1 "com/example/gauger/gauger/engine/PageRankSettings$Builder" "maxPasses" "I" (.int (1000 : Int32)) ∧ Fld Z h a1 "com/example/gauger/gauger/engine/PageRankSettings$Builder" "updates" "Lcom/example/gauger/gauger/engine/Updates;" (.ref u1) ∧ Fld Z h a1 "com/example/gauger/gauger/engine/PageRankSettings$Builder" "scale" "Lcom/example/gauger/gauger/engine/Scale;" (.ref u2) ∧ Fld Z h a1 "com/example/gauger/gauger/engine/PageRankSettings$Builder" "dangling" "Lcom/example/gauger/gauger/engine/Dangling;" (.ref u3) ∧ Fld Z h a1 "com/example/gauger/gauger/engine/PageRankSettings$Builder" "personal" "Ljava/util/Set;" (.ref u4)) := by
  refine ctr (own := "com/example/gauger/gauger/engine/PageRankSettings$Builder") (nm := "<init>") rfl rfl (Ls := #[.val (.ref a1)]) (plainFor_of_name pn1) (fun m => by first | (simp [entryFrame, mkF, argsToLocals, Value.category]; done) | rfl) ?_
  intro p e s m below meth c K eh
  have P0 := Keep.refl h0 [a1]
  refine aloadN K d_prog_10_method_1_0 rfl rfl (pc' := 1) rfl ?_
  refine initObj K (wd6 hw) (wd7 hw) (wd8 hw) d_prog_10_method_1_1 rfl (Nat.le_of_ble_eq_true rfl) (Nat.le_of_ble_eq_true rfl) (pc' := 4) rfl ?_
  refine aloadN K d_prog_10_method_1_4 rfl rfl (pc' := 5) rfl ?_
  refine ldc2D K (wd9 hw) d_prog_10_method_1_5 (pc' := 8) rfl ?_
  refine putf K (wd10 hw) Via.refl G_damping E1 (Or.inl (wd11 hw)) (wd1 hw) (ty := .double) (by decide) rfl rfl ge_a1 d_prog_10_method_1_8 (pc' := 11) rfl ?_
  intro h1 W1
  have F1_start_a1 := (Fld.other W1 G_start (Or.inr (sn_PageRankSettings_Builder_start_damping hw)))
  have F1_tolerance_a1 := (Fld.other W1 G_tolerance (Or.inr (sn_PageRankSettings_Builder_tolerance_damping hw)))
  have F1_maxPasses_a1 := (Fld.other W1 G_maxPasses (Or.inr (sn_PageRankSettings_Builder_maxPasses_damping hw)))
  have F1_updates_a1 := (Fld.other W1 G_updates (Or.inr (sn_PageRankSettings_Builder_updates_damping hw)))
  have F1_scale_a1 := (Fld.other W1 G_scale (Or.inr (sn_PageRankSettings_Builder_scale_damping hw)))
  have F1_dangling_a1 := (Fld.other W1 G_dangling (Or.inr (sn_PageRankSettings_Builder_dangling_damping hw)))
  have F1_personal_a1 := (Fld.other W1 G_personal (Or.inr (sn_PageRankSettings_Builder_personal_damping hw)))
  have X1_a1 := (Exa.wr W1 E1)
  have O1 := (O0.wr W1 ge_a1)
  have P1 := (P0.wr W1 (Or.inl (List.mem_of_getElem? (i := 0) rfl)))
  have F1_damping_a1 := Fld.same W1 G_damping
  refine aloadN K d_prog_10_method_1_11 rfl rfl (pc' := 12) rfl ?_
  refine dconst1 K d_prog_10_method_1_12 (v := (4607182418800017408 : UInt64)) rfl (pc' := 13) rfl ?_
  refine putf K (wd12 hw) Via.refl F1_start_a1 X1_a1 (Or.inl (wd13 hw)) (wd1 hw) (ty := .double) (by decide) rfl rfl ge_a1 d_prog_10_method_1_13 (pc' := 16) rfl ?_
  intro h2 W2
  have F2_damping_a1 := (Fld.other W2 F1_damping_a1 (Or.inr (sn_PageRankSettings_Builder_damping_start hw)))
  have F2_tolerance_a1 := (Fld.other W2 F1_tolerance_a1 (Or.inr (sn_PageRankSettings_Builder_tolerance_start hw)))
  have F2_maxPasses_a1 := (Fld.other W2 F1_maxPasses_a1 (Or.inr (sn_PageRankSettings_Builder_maxPasses_start hw)))
  have F2_updates_a1 := (Fld.other W2 F1_updates_a1 (Or.inr (sn_PageRankSettings_Builder_updates_start hw)))
  have F2_scale_a1 := (Fld.other W2 F1_scale_a1 (Or.inr (sn_PageRankSettings_Builder_scale_start hw)))
  have F2_dangling_a1 := (Fld.other W2 F1_dangling_a1 (Or.inr (sn_PageRankSettings_Builder_dangling_start hw)))
  have F2_personal_a1 := (Fld.other W2 F1_personal_a1 (Or.inr (sn_PageRankSettings_Builder_personal_start hw)))
  have X2_a1 := (Exa.wr W2 X1_a1)
  have O2 := (O1.wr W2 ge_a1)
  have P2 := (P1.wr W2 (Or.inl (List.mem_of_getElem? (i := 0) rfl)))
  have F2_start_a1 := Fld.same W2 F1_start_a1
  refine aloadN K d_prog_10_method_1_16 rfl rfl (pc' := 17) rfl ?_
  refine ldc2D K (wd14 hw) d_prog_10_method_1_17 (pc' := 20) rfl ?_
  refine putf K (wd15 hw) Via.refl F2_tolerance_a1 X2_a1 (Or.inl (wd16 hw)) (wd1 hw) (ty := .double) (by decide) rfl rfl ge_a1 d_prog_10_method_1_20 (pc' := 23) rfl ?_
  intro h3 W3
  have F3_damping_a1 := (Fld.other W3 F2_damping_a1 (Or.inr (sn_PageRankSettings_Builder_damping_tolerance hw)))
  have F3_start_a1 := (Fld.other W3 F2_start_a1 (Or.inr (sn_PageRankSettings_Builder_start_tolerance hw)))
  have F3_maxPasses_a1 := (Fld.other W3 F2_maxPasses_a1 (Or.inr (sn_PageRankSettings_Builder_maxPasses_tolerance hw)))
  have F3_updates_a1 := (Fld.other W3 F2_updates_a1 (Or.inr (sn_PageRankSettings_Builder_updates_tolerance hw)))
  have F3_scale_a1 := (Fld.other W3 F2_scale_a1 (Or.inr (sn_PageRankSettings_Builder_scale_tolerance hw)))
  have F3_dangling_a1 := (Fld.other W3 F2_dangling_a1 (Or.inr (sn_PageRankSettings_Builder_dangling_tolerance hw)))
  have F3_personal_a1 := (Fld.other W3 F2_personal_a1 (Or.inr (sn_PageRankSettings_Builder_personal_tolerance hw)))
  have X3_a1 := (Exa.wr W3 X2_a1)
  have O3 := (O2.wr W3 ge_a1)
  have P3 := (P2.wr W3 (Or.inl (List.mem_of_getElem? (i := 0) rfl)))
  have F3_tolerance_a1 := Fld.same W3 F2_tolerance_a1
  refine aloadN K d_prog_10_method_1_23 rfl rfl (pc' := 24) rfl ?_
  refine sipush K (1000 : Int32) d_prog_10_method_1_24 (by decide) (pc' := 27) rfl ?_
  refine putf K (wd17 hw) Via.refl F3_maxPasses_a1 X3_a1 (Or.inl (wd18 hw)) (wd1 hw) (ty := .int) (by decide) rfl rfl ge_a1 d_prog_10_method_1_27 (pc' := 30) rfl ?_
  intro h4 W4
  have F4_damping_a1 := (Fld.other W4 F3_damping_a1 (Or.inr (sn_PageRankSettings_Builder_damping_maxPasses hw)))
  have F4_start_a1 := (Fld.other W4 F3_start_a1 (Or.inr (sn_PageRankSettings_Builder_start_maxPasses hw)))
  have F4_tolerance_a1 := (Fld.other W4 F3_tolerance_a1 (Or.inr (sn_PageRankSettings_Builder_tolerance_maxPasses hw)))
  have F4_updates_a1 := (Fld.other W4 F3_updates_a1 (Or.inr (sn_PageRankSettings_Builder_updates_maxPasses hw)))
  have F4_scale_a1 := (Fld.other W4 F3_scale_a1 (Or.inr (sn_PageRankSettings_Builder_scale_maxPasses hw)))
  have F4_dangling_a1 := (Fld.other W4 F3_dangling_a1 (Or.inr (sn_PageRankSettings_Builder_dangling_maxPasses hw)))
  have F4_personal_a1 := (Fld.other W4 F3_personal_a1 (Or.inr (sn_PageRankSettings_Builder_personal_maxPasses hw)))
  have X4_a1 := (Exa.wr W4 X3_a1)
  have O4 := (O3.wr W4 ge_a1)
  have P4 := (P3.wr W4 (Or.inl (List.mem_of_getElem? (i := 0) rfl)))
  have F4_maxPasses_a1 := Fld.same W4 F3_maxPasses_a1
  refine aloadN K d_prog_10_method_1_30 rfl rfl (pc' := 31) rfl ?_
  refine gets K (wd19 hw) Via.refl (Sta.ext O4.2 S_u1) d_prog_10_method_1_31 (pc' := 34) rfl ?_
  refine putf K (wd22 hw) Via.refl F4_updates_a1 X4_a1 (Or.inl (wd23 hw)) (wd1 hw) (ty := (.object "com/example/gauger/gauger/engine/Updates")) (by decide) rfl rfl ge_a1 d_prog_10_method_1_34 (pc' := 37) rfl ?_
  intro h5 W5
  have F5_damping_a1 := (Fld.other W5 F4_damping_a1 (Or.inr (sn_PageRankSettings_Builder_damping_updates hw)))
  have F5_start_a1 := (Fld.other W5 F4_start_a1 (Or.inr (sn_PageRankSettings_Builder_start_updates hw)))
  have F5_tolerance_a1 := (Fld.other W5 F4_tolerance_a1 (Or.inr (sn_PageRankSettings_Builder_tolerance_updates hw)))
  have F5_maxPasses_a1 := (Fld.other W5 F4_maxPasses_a1 (Or.inr (sn_PageRankSettings_Builder_maxPasses_updates hw)))
  have F5_scale_a1 := (Fld.other W5 F4_scale_a1 (Or.inr (sn_PageRankSettings_Builder_scale_updates hw)))
  have F5_dangling_a1 := (Fld.other W5 F4_dangling_a1 (Or.inr (sn_PageRankSettings_Builder_dangling_updates hw)))
  have F5_personal_a1 := (Fld.other W5 F4_personal_a1 (Or.inr (sn_PageRankSettings_Builder_personal_updates hw)))
  have X5_a1 := (Exa.wr W5 X4_a1)
  have O5 := (O4.wr W5 ge_a1)
  have P5 := (P4.wr W5 (Or.inl (List.mem_of_getElem? (i := 0) rfl)))
  have F5_updates_a1 := Fld.same W5 F4_updates_a1
  refine aloadN K d_prog_10_method_1_37 rfl rfl (pc' := 38) rfl ?_
  refine gets K (wd24 hw) Via.refl (Sta.ext O5.2 S_u2) d_prog_10_method_1_38 (pc' := 41) rfl ?_
  refine putf K (wd27 hw) Via.refl F5_scale_a1 X5_a1 (Or.inl (wd28 hw)) (wd1 hw) (ty := (.object "com/example/gauger/gauger/engine/Scale")) (by decide) rfl rfl ge_a1 d_prog_10_method_1_41 (pc' := 44) rfl ?_
  intro h6 W6
  have F6_damping_a1 := (Fld.other W6 F5_damping_a1 (Or.inr (sn_PageRankSettings_Builder_damping_scale hw)))
  have F6_start_a1 := (Fld.other W6 F5_start_a1 (Or.inr (sn_PageRankSettings_Builder_start_scale hw)))
  have F6_tolerance_a1 := (Fld.other W6 F5_tolerance_a1 (Or.inr (sn_PageRankSettings_Builder_tolerance_scale hw)))
  have F6_maxPasses_a1 := (Fld.other W6 F5_maxPasses_a1 (Or.inr (sn_PageRankSettings_Builder_maxPasses_scale hw)))
  have F6_updates_a1 := (Fld.other W6 F5_updates_a1 (Or.inr (sn_PageRankSettings_Builder_updates_scale hw)))
  have F6_dangling_a1 := (Fld.other W6 F5_dangling_a1 (Or.inr (sn_PageRankSettings_Builder_dangling_scale hw)))
  have F6_personal_a1 := (Fld.other W6 F5_personal_a1 (Or.inr (sn_PageRankSettings_Builder_personal_scale hw)))
  have X6_a1 := (Exa.wr W6 X5_a1)
  have O6 := (O5.wr W6 ge_a1)
  have P6 := (P5.wr W6 (Or.inl (List.mem_of_getElem? (i := 0) rfl)))
  have F6_scale_a1 := Fld.same W6 F5_scale_a1
  refine aloadN K d_prog_10_method_1_44 rfl rfl (pc' := 45) rfl ?_
  refine gets K (wd29 hw) Via.refl (Sta.ext O6.2 S_u3) d_prog_10_method_1_45 (pc' := 48) rfl ?_
  refine putf K (wd32 hw) Via.refl F6_dangling_a1 X6_a1 (Or.inl (wd33 hw)) (wd1 hw) (ty := (.object "com/example/gauger/gauger/engine/Dangling")) (by decide) rfl rfl ge_a1 d_prog_10_method_1_48 (pc' := 51) rfl ?_
  intro h7 W7
  have F7_damping_a1 := (Fld.other W7 F6_damping_a1 (Or.inr (sn_PageRankSettings_Builder_damping_dangling hw)))
  have F7_start_a1 := (Fld.other W7 F6_start_a1 (Or.inr (sn_PageRankSettings_Builder_start_dangling hw)))
  have F7_tolerance_a1 := (Fld.other W7 F6_tolerance_a1 (Or.inr (sn_PageRankSettings_Builder_tolerance_dangling hw)))
  have F7_maxPasses_a1 := (Fld.other W7 F6_maxPasses_a1 (Or.inr (sn_PageRankSettings_Builder_maxPasses_dangling hw)))
  have F7_updates_a1 := (Fld.other W7 F6_updates_a1 (Or.inr (sn_PageRankSettings_Builder_updates_dangling hw)))
  have F7_scale_a1 := (Fld.other W7 F6_scale_a1 (Or.inr (sn_PageRankSettings_Builder_scale_dangling hw)))
  have F7_personal_a1 := (Fld.other W7 F6_personal_a1 (Or.inr (sn_PageRankSettings_Builder_personal_dangling hw)))
  have X7_a1 := (Exa.wr W7 X6_a1)
  have O7 := (O6.wr W7 ge_a1)
  have P7 := (P6.wr W7 (Or.inl (List.mem_of_getElem? (i := 0) rfl)))
  have F7_dangling_a1 := Fld.same W7 F6_dangling_a1
  refine aloadN K d_prog_10_method_1_51 rfl rfl (pc' := 52) rfl ?_
  refine callStatic K (y := (⟨"java/util/Set", "of", "()Ljava/util/Set;"⟩ : MethodName)) (argsL := []) (S := [(.ref a1)]) (wd34 hw) (wd35 hw) (wd36 hw) (wd37 hw) (by decide) (c_setof l Z a0 hw [] u4 h7 n0 (Nat.le_trans Z0 P7.1) S_u4 O7) (lenOf pd0 rfl) d_prog_10_method_1_52 rfl (Nat.le_of_ble_eq_true rfl) (Nat.le_of_ble_eq_true rfl) (Nat.le_of_ble_eq_true rfl) (Nat.le_of_ble_eq_true rfl) rfl (pc' := 55) rfl ?_
  rintro v8 h8 ⟨rfl, rfl⟩
  show Go _ _ _ _ _ _ _ _ _ _ _ h7 0 0 (mkF m 55 #[.val (.ref a1)] [(.ref u4), (.ref a1)]) _
  refine putf K (wd40 hw) Via.refl F7_personal_a1 X7_a1 (Or.inl (wd41 hw)) (wd1 hw) (ty := (.object "java/util/Set")) (by decide) rfl rfl ge_a1 d_prog_10_method_1_55 (pc' := 58) rfl ?_
  intro h9 W9
  have F9_damping_a1 := (Fld.other W9 F7_damping_a1 (Or.inr (sn_PageRankSettings_Builder_damping_personal hw)))
  have F9_start_a1 := (Fld.other W9 F7_start_a1 (Or.inr (sn_PageRankSettings_Builder_start_personal hw)))
  have F9_tolerance_a1 := (Fld.other W9 F7_tolerance_a1 (Or.inr (sn_PageRankSettings_Builder_tolerance_personal hw)))
  have F9_maxPasses_a1 := (Fld.other W9 F7_maxPasses_a1 (Or.inr (sn_PageRankSettings_Builder_maxPasses_personal hw)))
  have F9_updates_a1 := (Fld.other W9 F7_updates_a1 (Or.inr (sn_PageRankSettings_Builder_updates_personal hw)))
  have F9_scale_a1 := (Fld.other W9 F7_scale_a1 (Or.inr (sn_PageRankSettings_Builder_scale_personal hw)))
  have F9_dangling_a1 := (Fld.other W9 F7_dangling_a1 (Or.inr (sn_PageRankSettings_Builder_dangling_personal hw)))
  have X9_a1 := (Exa.wr W9 X7_a1)
  have O9 := (O7.wr W9 ge_a1)
  have P9 := (P7.wr W9 (Or.inl (List.mem_of_getElem? (i := 0) rfl)))
  have F9_personal_a1 := Fld.same W9 F7_personal_a1
  refine retV K rfl d_prog_10_method_1_58 (Nat.le_of_ble_eq_true rfl) (Nat.le_of_ble_eq_true rfl) ?_
  exact ⟨rfl, P9, F9_damping_a1, F9_start_a1, F9_tolerance_a1, F9_maxPasses_a1, F9_updates_a1, F9_scale_a1, F9_dangling_a1, F9_personal_a1⟩
set_option maxRecDepth 65536 in
set_option maxHeartbeats 40000000 in
theorem c_pinit (l : Launch) (Z : State) (a0 : Array Value) (hw : ∀ d ∈ tables_1, d.before a0 Z = true) (ws : List Jvm.Cond) (a1 b1 : Addr) (d_damping d_start d_tolerance : UInt64) (i_maxPasses : Int32) (r_updates r_scale r_dangling r_personal : Addr) (h0 : Heap) (n0 : Nat) (Z0 : n0 ≤ h0.size) (E1 : Exa Z h0 a1 "com/example/gauger/gauger/engine/PageRankSettings") (ge_a1 : n0 ≤ a1) (ne_b1_a1 : b1 ≠ a1) (G_damping : Fld Z h0 a1 "com/example/gauger/gauger/engine/PageRankSettings" "damping" "D" (.double (0 : UInt64))) (G_start : Fld Z h0 a1 "com/example/gauger/gauger/engine/PageRankSettings" "start" "D" (.double (0 : UInt64))) (G_tolerance : Fld Z h0 a1 "com/example/gauger/gauger/engine/PageRankSettings" "tolerance" "D" (.double (0 : UInt64))) (G_maxPasses : Fld Z h0 a1 "com/example/gauger/gauger/engine/PageRankSettings" "maxPasses" "I" (.int (0 : Int32))) (G_updates : Fld Z h0 a1 "com/example/gauger/gauger/engine/PageRankSettings" "updates" "Lcom/example/gauger/gauger/engine/Updates;" .null) (G_scale : Fld Z h0 a1 "com/example/gauger/gauger/engine/PageRankSettings" "scale" "Lcom/example/gauger/gauger/engine/Scale;" .null) (G_dangling : Fld Z h0 a1 "com/example/gauger/gauger/engine/PageRankSettings" "dangling" "Lcom/example/gauger/gauger/engine/Dangling;" .null) (G_personal : Fld Z h0 a1 "com/example/gauger/gauger/engine/PageRankSettings" "personal" "Ljava/util/Set;" .null) (B_damping : Fld Z h0 b1 "com/example/gauger/gauger/engine/PageRankSettings$Builder" "damping" "D" (.double d_damping)) (B_start : Fld Z h0 b1 "com/example/gauger/gauger/engine/PageRankSettings$Builder" "start" "D" (.double d_start)) (B_tolerance : Fld Z h0 b1 "com/example/gauger/gauger/engine/PageRankSettings$Builder" "tolerance" "D" (.double d_tolerance)) (B_maxPasses : Fld Z h0 b1 "com/example/gauger/gauger/engine/PageRankSettings$Builder" "maxPasses" "I" (.int i_maxPasses)) (B_updates : Fld Z h0 b1 "com/example/gauger/gauger/engine/PageRankSettings$Builder" "updates" "Lcom/example/gauger/gauger/engine/Updates;" (.ref r_updates)) (B_scale : Fld Z h0 b1 "com/example/gauger/gauger/engine/PageRankSettings$Builder" "scale" "Lcom/example/gauger/gauger/engine/Scale;" (.ref r_scale)) (B_dangling : Fld Z h0 b1 "com/example/gauger/gauger/engine/PageRankSettings$Builder" "dangling" "Lcom/example/gauger/gauger/engine/Dangling;" (.ref r_dangling)) (B_personal : Fld Z h0 b1 "com/example/gauger/gauger/engine/PageRankSettings$Builder" "personal" "Ljava/util/Set;" (.ref r_personal)) :
    Ctr l Z (⟨"com/example/gauger/gauger/engine/PageRankSettings", "<init>", "(Lcom/example/gauger/gauger/engine/PageRankSettings$Builder;)V"⟩ : MethodName) prog_9_method_1_code 2 none ws ({ frames := 1, cells := 0, slots := 0, locals := 12 } : Room) n0 #[(.ref a1), (.ref b1)] h0 (fun v h => v = none ∧ Keep h0 h [a1] ∧ Fld Z h a1 "com/example/gauger/gauger/engine/PageRankSettings" "damping" "D" (.double d_damping) ∧ Fld Z h a1 "com/example/gauger/gauger/engine/PageRankSettings" "start" "D" (.double d_start) ∧ Fld Z h a1 "com/example/gauger/gauger/engine/PageRankSettings" "tolerance" "D" (.double d_tolerance) ∧ Fld Z h a1 "com/example/gauger/gauger/engine/PageRankSettings" "maxPasses" "I" (.int i_maxPasses) ∧ Fld Z h a1 "com/example/gauger/gauger/engine/PageRankSettings" "updates" "Lcom/example/gauger/gauger/engine/Updates;" (.ref r_updates) ∧ Fld Z h a1 "com/example/gauger/gauger/engine/PageRankSettings" "scale" "Lcom/example/gauger/gauger/engine/Scale;" (.ref r_scale) ∧ Fld Z h a1 "com/example/gauger/gauger/engine/PageRankSettings" "dangling" "Lcom/example/gauger/gauger/engine/Dangling;" (.ref r_dangling) ∧ Fld Z h a1 "com/example/gauger/gauger/engine/PageRankSettings" "personal" "Ljava/util/Set;" (.ref r_personal)) := by
  refine ctr (own := "com/example/gauger/gauger/engine/PageRankSettings") (nm := "<init>") rfl rfl (Ls := #[.val (.ref a1), .val (.ref b1)]) (plainFor_of_name pn2) (fun m => by first | (simp [entryFrame, mkF, argsToLocals, Value.category]; done) | rfl) ?_
  intro p e s m below meth c K eh
  have P0 := Keep.refl h0 [a1]
  refine aloadN K d_prog_9_method_1_0 rfl rfl (pc' := 1) rfl ?_
  refine initObj K (wd53 hw) (wd7 hw) (wd8 hw) d_prog_9_method_1_1 rfl (Nat.le_of_ble_eq_true rfl) (Nat.le_of_ble_eq_true rfl) (pc' := 4) rfl ?_
  refine aloadN K d_prog_9_method_1_4 rfl rfl (pc' := 5) rfl ?_
  refine aloadN K d_prog_9_method_1_5 rfl rfl (pc' := 6) rfl ?_
  refine getfR K (wd54 hw) B_damping d_prog_9_method_1_6 (pc' := 9) rfl ?_
  refine putf K (wd55 hw) Via.refl G_damping E1 (Or.inr ⟨(wd56 hw), rfl, rfl⟩) (wd48 hw) (ty := .double) (by decide) rfl rfl ge_a1 d_prog_9_method_1_9 (pc' := 12) rfl ?_
  intro h10 W10
  have F10_start_a1 := (Fld.other W10 G_start (Or.inr (sn_PageRankSettings_start_damping hw)))
  have F10_tolerance_a1 := (Fld.other W10 G_tolerance (Or.inr (sn_PageRankSettings_tolerance_damping hw)))
  have F10_maxPasses_a1 := (Fld.other W10 G_maxPasses (Or.inr (sn_PageRankSettings_maxPasses_damping hw)))
  have F10_updates_a1 := (Fld.other W10 G_updates (Or.inr (sn_PageRankSettings_updates_damping hw)))
  have F10_scale_a1 := (Fld.other W10 G_scale (Or.inr (sn_PageRankSettings_scale_damping hw)))
  have F10_dangling_a1 := (Fld.other W10 G_dangling (Or.inr (sn_PageRankSettings_dangling_damping hw)))
  have F10_personal_a1 := (Fld.other W10 G_personal (Or.inr (sn_PageRankSettings_personal_damping hw)))
  have F10_damping_b1 := (Fld.other W10 B_damping (Or.inl ne_b1_a1))
  have F10_start_b1 := (Fld.other W10 B_start (Or.inl ne_b1_a1))
  have F10_tolerance_b1 := (Fld.other W10 B_tolerance (Or.inl ne_b1_a1))
  have F10_maxPasses_b1 := (Fld.other W10 B_maxPasses (Or.inl ne_b1_a1))
  have F10_updates_b1 := (Fld.other W10 B_updates (Or.inl ne_b1_a1))
  have F10_scale_b1 := (Fld.other W10 B_scale (Or.inl ne_b1_a1))
  have F10_dangling_b1 := (Fld.other W10 B_dangling (Or.inl ne_b1_a1))
  have F10_personal_b1 := (Fld.other W10 B_personal (Or.inl ne_b1_a1))
  have X10_a1 := (Exa.wr W10 E1)
  have P10 := (P0.wr W10 (Or.inl (List.mem_of_getElem? (i := 0) rfl)))
  have F10_damping_a1 := Fld.same W10 G_damping
  refine aloadN K d_prog_9_method_1_12 rfl rfl (pc' := 13) rfl ?_
  refine aloadN K d_prog_9_method_1_13 rfl rfl (pc' := 14) rfl ?_
  refine getfR K (wd57 hw) F10_start_b1 d_prog_9_method_1_14 (pc' := 17) rfl ?_
  refine putf K (wd58 hw) Via.refl F10_start_a1 X10_a1 (Or.inr ⟨(wd59 hw), rfl, rfl⟩) (wd48 hw) (ty := .double) (by decide) rfl rfl ge_a1 d_prog_9_method_1_17 (pc' := 20) rfl ?_
  intro h11 W11
  have F11_damping_a1 := (Fld.other W11 F10_damping_a1 (Or.inr (sn_PageRankSettings_damping_start hw)))
  have F11_tolerance_a1 := (Fld.other W11 F10_tolerance_a1 (Or.inr (sn_PageRankSettings_tolerance_start hw)))
  have F11_maxPasses_a1 := (Fld.other W11 F10_maxPasses_a1 (Or.inr (sn_PageRankSettings_maxPasses_start hw)))
  have F11_updates_a1 := (Fld.other W11 F10_updates_a1 (Or.inr (sn_PageRankSettings_updates_start hw)))
  have F11_scale_a1 := (Fld.other W11 F10_scale_a1 (Or.inr (sn_PageRankSettings_scale_start hw)))
  have F11_dangling_a1 := (Fld.other W11 F10_dangling_a1 (Or.inr (sn_PageRankSettings_dangling_start hw)))
  have F11_personal_a1 := (Fld.other W11 F10_personal_a1 (Or.inr (sn_PageRankSettings_personal_start hw)))
  have F11_damping_b1 := (Fld.other W11 F10_damping_b1 (Or.inl ne_b1_a1))
  have F11_start_b1 := (Fld.other W11 F10_start_b1 (Or.inl ne_b1_a1))
  have F11_tolerance_b1 := (Fld.other W11 F10_tolerance_b1 (Or.inl ne_b1_a1))
  have F11_maxPasses_b1 := (Fld.other W11 F10_maxPasses_b1 (Or.inl ne_b1_a1))
  have F11_updates_b1 := (Fld.other W11 F10_updates_b1 (Or.inl ne_b1_a1))
  have F11_scale_b1 := (Fld.other W11 F10_scale_b1 (Or.inl ne_b1_a1))
  have F11_dangling_b1 := (Fld.other W11 F10_dangling_b1 (Or.inl ne_b1_a1))
  have F11_personal_b1 := (Fld.other W11 F10_personal_b1 (Or.inl ne_b1_a1))
  have X11_a1 := (Exa.wr W11 X10_a1)
  have P11 := (P10.wr W11 (Or.inl (List.mem_of_getElem? (i := 0) rfl)))
  have F11_start_a1 := Fld.same W11 F10_start_a1
  refine aloadN K d_prog_9_method_1_20 rfl rfl (pc' := 21) rfl ?_
  refine aloadN K d_prog_9_method_1_21 rfl rfl (pc' := 22) rfl ?_
  refine getfR K (wd60 hw) F11_tolerance_b1 d_prog_9_method_1_22 (pc' := 25) rfl ?_
  refine putf K (wd61 hw) Via.refl F11_tolerance_a1 X11_a1 (Or.inr ⟨(wd62 hw), rfl, rfl⟩) (wd48 hw) (ty := .double) (by decide) rfl rfl ge_a1 d_prog_9_method_1_25 (pc' := 28) rfl ?_
  intro h12 W12
  have F12_damping_a1 := (Fld.other W12 F11_damping_a1 (Or.inr (sn_PageRankSettings_damping_tolerance hw)))
  have F12_start_a1 := (Fld.other W12 F11_start_a1 (Or.inr (sn_PageRankSettings_start_tolerance hw)))
  have F12_maxPasses_a1 := (Fld.other W12 F11_maxPasses_a1 (Or.inr (sn_PageRankSettings_maxPasses_tolerance hw)))
  have F12_updates_a1 := (Fld.other W12 F11_updates_a1 (Or.inr (sn_PageRankSettings_updates_tolerance hw)))
  have F12_scale_a1 := (Fld.other W12 F11_scale_a1 (Or.inr (sn_PageRankSettings_scale_tolerance hw)))
  have F12_dangling_a1 := (Fld.other W12 F11_dangling_a1 (Or.inr (sn_PageRankSettings_dangling_tolerance hw)))
  have F12_personal_a1 := (Fld.other W12 F11_personal_a1 (Or.inr (sn_PageRankSettings_personal_tolerance hw)))
  have F12_damping_b1 := (Fld.other W12 F11_damping_b1 (Or.inl ne_b1_a1))
  have F12_start_b1 := (Fld.other W12 F11_start_b1 (Or.inl ne_b1_a1))
  have F12_tolerance_b1 := (Fld.other W12 F11_tolerance_b1 (Or.inl ne_b1_a1))
  have F12_maxPasses_b1 := (Fld.other W12 F11_maxPasses_b1 (Or.inl ne_b1_a1))
  have F12_updates_b1 := (Fld.other W12 F11_updates_b1 (Or.inl ne_b1_a1))
  have F12_scale_b1 := (Fld.other W12 F11_scale_b1 (Or.inl ne_b1_a1))
  have F12_dangling_b1 := (Fld.other W12 F11_dangling_b1 (Or.inl ne_b1_a1))
  have F12_personal_b1 := (Fld.other W12 F11_personal_b1 (Or.inl ne_b1_a1))
  have X12_a1 := (Exa.wr W12 X11_a1)
  have P12 := (P11.wr W12 (Or.inl (List.mem_of_getElem? (i := 0) rfl)))
  have F12_tolerance_a1 := Fld.same W12 F11_tolerance_a1
  refine aloadN K d_prog_9_method_1_28 rfl rfl (pc' := 29) rfl ?_
  refine aloadN K d_prog_9_method_1_29 rfl rfl (pc' := 30) rfl ?_
  refine getfR K (wd63 hw) F12_maxPasses_b1 d_prog_9_method_1_30 (pc' := 33) rfl ?_
  refine putf K (wd64 hw) Via.refl F12_maxPasses_a1 X12_a1 (Or.inr ⟨(wd65 hw), rfl, rfl⟩) (wd48 hw) (ty := .int) (by decide) rfl rfl ge_a1 d_prog_9_method_1_33 (pc' := 36) rfl ?_
  intro h13 W13
  have F13_damping_a1 := (Fld.other W13 F12_damping_a1 (Or.inr (sn_PageRankSettings_damping_maxPasses hw)))
  have F13_start_a1 := (Fld.other W13 F12_start_a1 (Or.inr (sn_PageRankSettings_start_maxPasses hw)))
  have F13_tolerance_a1 := (Fld.other W13 F12_tolerance_a1 (Or.inr (sn_PageRankSettings_tolerance_maxPasses hw)))
  have F13_updates_a1 := (Fld.other W13 F12_updates_a1 (Or.inr (sn_PageRankSettings_updates_maxPasses hw)))
  have F13_scale_a1 := (Fld.other W13 F12_scale_a1 (Or.inr (sn_PageRankSettings_scale_maxPasses hw)))
  have F13_dangling_a1 := (Fld.other W13 F12_dangling_a1 (Or.inr (sn_PageRankSettings_dangling_maxPasses hw)))
  have F13_personal_a1 := (Fld.other W13 F12_personal_a1 (Or.inr (sn_PageRankSettings_personal_maxPasses hw)))
  have F13_damping_b1 := (Fld.other W13 F12_damping_b1 (Or.inl ne_b1_a1))
  have F13_start_b1 := (Fld.other W13 F12_start_b1 (Or.inl ne_b1_a1))
  have F13_tolerance_b1 := (Fld.other W13 F12_tolerance_b1 (Or.inl ne_b1_a1))
  have F13_maxPasses_b1 := (Fld.other W13 F12_maxPasses_b1 (Or.inl ne_b1_a1))
  have F13_updates_b1 := (Fld.other W13 F12_updates_b1 (Or.inl ne_b1_a1))
  have F13_scale_b1 := (Fld.other W13 F12_scale_b1 (Or.inl ne_b1_a1))
  have F13_dangling_b1 := (Fld.other W13 F12_dangling_b1 (Or.inl ne_b1_a1))
  have F13_personal_b1 := (Fld.other W13 F12_personal_b1 (Or.inl ne_b1_a1))
  have X13_a1 := (Exa.wr W13 X12_a1)
  have P13 := (P12.wr W13 (Or.inl (List.mem_of_getElem? (i := 0) rfl)))
  have F13_maxPasses_a1 := Fld.same W13 F12_maxPasses_a1
  refine aloadN K d_prog_9_method_1_36 rfl rfl (pc' := 37) rfl ?_
  refine aloadN K d_prog_9_method_1_37 rfl rfl (pc' := 38) rfl ?_
  refine getfR K (wd66 hw) F13_updates_b1 d_prog_9_method_1_38 (pc' := 41) rfl ?_
  refine putf K (wd67 hw) Via.refl F13_updates_a1 X13_a1 (Or.inr ⟨(wd68 hw), rfl, rfl⟩) (wd48 hw) (ty := (.object "com/example/gauger/gauger/engine/Updates")) (by decide) rfl rfl ge_a1 d_prog_9_method_1_41 (pc' := 44) rfl ?_
  intro h14 W14
  have F14_damping_a1 := (Fld.other W14 F13_damping_a1 (Or.inr (sn_PageRankSettings_damping_updates hw)))
  have F14_start_a1 := (Fld.other W14 F13_start_a1 (Or.inr (sn_PageRankSettings_start_updates hw)))
  have F14_tolerance_a1 := (Fld.other W14 F13_tolerance_a1 (Or.inr (sn_PageRankSettings_tolerance_updates hw)))
  have F14_maxPasses_a1 := (Fld.other W14 F13_maxPasses_a1 (Or.inr (sn_PageRankSettings_maxPasses_updates hw)))
  have F14_scale_a1 := (Fld.other W14 F13_scale_a1 (Or.inr (sn_PageRankSettings_scale_updates hw)))
  have F14_dangling_a1 := (Fld.other W14 F13_dangling_a1 (Or.inr (sn_PageRankSettings_dangling_updates hw)))
  have F14_personal_a1 := (Fld.other W14 F13_personal_a1 (Or.inr (sn_PageRankSettings_personal_updates hw)))
  have F14_damping_b1 := (Fld.other W14 F13_damping_b1 (Or.inl ne_b1_a1))
  have F14_start_b1 := (Fld.other W14 F13_start_b1 (Or.inl ne_b1_a1))
  have F14_tolerance_b1 := (Fld.other W14 F13_tolerance_b1 (Or.inl ne_b1_a1))
  have F14_maxPasses_b1 := (Fld.other W14 F13_maxPasses_b1 (Or.inl ne_b1_a1))
  have F14_updates_b1 := (Fld.other W14 F13_updates_b1 (Or.inl ne_b1_a1))
  have F14_scale_b1 := (Fld.other W14 F13_scale_b1 (Or.inl ne_b1_a1))
  have F14_dangling_b1 := (Fld.other W14 F13_dangling_b1 (Or.inl ne_b1_a1))
  have F14_personal_b1 := (Fld.other W14 F13_personal_b1 (Or.inl ne_b1_a1))
  have X14_a1 := (Exa.wr W14 X13_a1)
  have P14 := (P13.wr W14 (Or.inl (List.mem_of_getElem? (i := 0) rfl)))
  have F14_updates_a1 := Fld.same W14 F13_updates_a1
  refine aloadN K d_prog_9_method_1_44 rfl rfl (pc' := 45) rfl ?_
  refine aloadN K d_prog_9_method_1_45 rfl rfl (pc' := 46) rfl ?_
  refine getfR K (wd69 hw) F14_scale_b1 d_prog_9_method_1_46 (pc' := 49) rfl ?_
  refine putf K (wd70 hw) Via.refl F14_scale_a1 X14_a1 (Or.inr ⟨(wd71 hw), rfl, rfl⟩) (wd48 hw) (ty := (.object "com/example/gauger/gauger/engine/Scale")) (by decide) rfl rfl ge_a1 d_prog_9_method_1_49 (pc' := 52) rfl ?_
  intro h15 W15
  have F15_damping_a1 := (Fld.other W15 F14_damping_a1 (Or.inr (sn_PageRankSettings_damping_scale hw)))
  have F15_start_a1 := (Fld.other W15 F14_start_a1 (Or.inr (sn_PageRankSettings_start_scale hw)))
  have F15_tolerance_a1 := (Fld.other W15 F14_tolerance_a1 (Or.inr (sn_PageRankSettings_tolerance_scale hw)))
  have F15_maxPasses_a1 := (Fld.other W15 F14_maxPasses_a1 (Or.inr (sn_PageRankSettings_maxPasses_scale hw)))
  have F15_updates_a1 := (Fld.other W15 F14_updates_a1 (Or.inr (sn_PageRankSettings_updates_scale hw)))
  have F15_dangling_a1 := (Fld.other W15 F14_dangling_a1 (Or.inr (sn_PageRankSettings_dangling_scale hw)))
  have F15_personal_a1 := (Fld.other W15 F14_personal_a1 (Or.inr (sn_PageRankSettings_personal_scale hw)))
  have F15_damping_b1 := (Fld.other W15 F14_damping_b1 (Or.inl ne_b1_a1))
  have F15_start_b1 := (Fld.other W15 F14_start_b1 (Or.inl ne_b1_a1))
  have F15_tolerance_b1 := (Fld.other W15 F14_tolerance_b1 (Or.inl ne_b1_a1))
  have F15_maxPasses_b1 := (Fld.other W15 F14_maxPasses_b1 (Or.inl ne_b1_a1))
  have F15_updates_b1 := (Fld.other W15 F14_updates_b1 (Or.inl ne_b1_a1))
  have F15_scale_b1 := (Fld.other W15 F14_scale_b1 (Or.inl ne_b1_a1))
  have F15_dangling_b1 := (Fld.other W15 F14_dangling_b1 (Or.inl ne_b1_a1))
  have F15_personal_b1 := (Fld.other W15 F14_personal_b1 (Or.inl ne_b1_a1))
  have X15_a1 := (Exa.wr W15 X14_a1)
  have P15 := (P14.wr W15 (Or.inl (List.mem_of_getElem? (i := 0) rfl)))
  have F15_scale_a1 := Fld.same W15 F14_scale_a1
  refine aloadN K d_prog_9_method_1_52 rfl rfl (pc' := 53) rfl ?_
  refine aloadN K d_prog_9_method_1_53 rfl rfl (pc' := 54) rfl ?_
  refine getfR K (wd72 hw) F15_dangling_b1 d_prog_9_method_1_54 (pc' := 57) rfl ?_
  refine putf K (wd73 hw) Via.refl F15_dangling_a1 X15_a1 (Or.inr ⟨(wd74 hw), rfl, rfl⟩) (wd48 hw) (ty := (.object "com/example/gauger/gauger/engine/Dangling")) (by decide) rfl rfl ge_a1 d_prog_9_method_1_57 (pc' := 60) rfl ?_
  intro h16 W16
  have F16_damping_a1 := (Fld.other W16 F15_damping_a1 (Or.inr (sn_PageRankSettings_damping_dangling hw)))
  have F16_start_a1 := (Fld.other W16 F15_start_a1 (Or.inr (sn_PageRankSettings_start_dangling hw)))
  have F16_tolerance_a1 := (Fld.other W16 F15_tolerance_a1 (Or.inr (sn_PageRankSettings_tolerance_dangling hw)))
  have F16_maxPasses_a1 := (Fld.other W16 F15_maxPasses_a1 (Or.inr (sn_PageRankSettings_maxPasses_dangling hw)))
  have F16_updates_a1 := (Fld.other W16 F15_updates_a1 (Or.inr (sn_PageRankSettings_updates_dangling hw)))
  have F16_scale_a1 := (Fld.other W16 F15_scale_a1 (Or.inr (sn_PageRankSettings_scale_dangling hw)))
  have F16_personal_a1 := (Fld.other W16 F15_personal_a1 (Or.inr (sn_PageRankSettings_personal_dangling hw)))
  have F16_damping_b1 := (Fld.other W16 F15_damping_b1 (Or.inl ne_b1_a1))
  have F16_start_b1 := (Fld.other W16 F15_start_b1 (Or.inl ne_b1_a1))
  have F16_tolerance_b1 := (Fld.other W16 F15_tolerance_b1 (Or.inl ne_b1_a1))
  have F16_maxPasses_b1 := (Fld.other W16 F15_maxPasses_b1 (Or.inl ne_b1_a1))
  have F16_updates_b1 := (Fld.other W16 F15_updates_b1 (Or.inl ne_b1_a1))
  have F16_scale_b1 := (Fld.other W16 F15_scale_b1 (Or.inl ne_b1_a1))
  have F16_dangling_b1 := (Fld.other W16 F15_dangling_b1 (Or.inl ne_b1_a1))
  have F16_personal_b1 := (Fld.other W16 F15_personal_b1 (Or.inl ne_b1_a1))
  have X16_a1 := (Exa.wr W16 X15_a1)
  have P16 := (P15.wr W16 (Or.inl (List.mem_of_getElem? (i := 0) rfl)))
  have F16_dangling_a1 := Fld.same W16 F15_dangling_a1
  refine aloadN K d_prog_9_method_1_60 rfl rfl (pc' := 61) rfl ?_
  refine aloadN K d_prog_9_method_1_61 rfl rfl (pc' := 62) rfl ?_
  refine getfR K (wd75 hw) F16_personal_b1 d_prog_9_method_1_62 (pc' := 65) rfl ?_
  refine putf K (wd76 hw) Via.refl F16_personal_a1 X16_a1 (Or.inr ⟨(wd77 hw), rfl, rfl⟩) (wd48 hw) (ty := (.object "java/util/Set")) (by decide) rfl rfl ge_a1 d_prog_9_method_1_65 (pc' := 68) rfl ?_
  intro h17 W17
  have F17_damping_a1 := (Fld.other W17 F16_damping_a1 (Or.inr (sn_PageRankSettings_damping_personal hw)))
  have F17_start_a1 := (Fld.other W17 F16_start_a1 (Or.inr (sn_PageRankSettings_start_personal hw)))
  have F17_tolerance_a1 := (Fld.other W17 F16_tolerance_a1 (Or.inr (sn_PageRankSettings_tolerance_personal hw)))
  have F17_maxPasses_a1 := (Fld.other W17 F16_maxPasses_a1 (Or.inr (sn_PageRankSettings_maxPasses_personal hw)))
  have F17_updates_a1 := (Fld.other W17 F16_updates_a1 (Or.inr (sn_PageRankSettings_updates_personal hw)))
  have F17_scale_a1 := (Fld.other W17 F16_scale_a1 (Or.inr (sn_PageRankSettings_scale_personal hw)))
  have F17_dangling_a1 := (Fld.other W17 F16_dangling_a1 (Or.inr (sn_PageRankSettings_dangling_personal hw)))
  have F17_damping_b1 := (Fld.other W17 F16_damping_b1 (Or.inl ne_b1_a1))
  have F17_start_b1 := (Fld.other W17 F16_start_b1 (Or.inl ne_b1_a1))
  have F17_tolerance_b1 := (Fld.other W17 F16_tolerance_b1 (Or.inl ne_b1_a1))
  have F17_maxPasses_b1 := (Fld.other W17 F16_maxPasses_b1 (Or.inl ne_b1_a1))
  have F17_updates_b1 := (Fld.other W17 F16_updates_b1 (Or.inl ne_b1_a1))
  have F17_scale_b1 := (Fld.other W17 F16_scale_b1 (Or.inl ne_b1_a1))
  have F17_dangling_b1 := (Fld.other W17 F16_dangling_b1 (Or.inl ne_b1_a1))
  have F17_personal_b1 := (Fld.other W17 F16_personal_b1 (Or.inl ne_b1_a1))
  have X17_a1 := (Exa.wr W17 X16_a1)
  have P17 := (P16.wr W17 (Or.inl (List.mem_of_getElem? (i := 0) rfl)))
  have F17_personal_a1 := Fld.same W17 F16_personal_a1
  refine retV K rfl d_prog_9_method_1_68 (Nat.le_of_ble_eq_true rfl) (Nat.le_of_ble_eq_true rfl) ?_
  exact ⟨rfl, P17, F17_damping_a1, F17_start_a1, F17_tolerance_a1, F17_maxPasses_a1, F17_updates_a1, F17_scale_a1, F17_dangling_a1, F17_personal_a1⟩
set_option maxRecDepth 65536 in
set_option maxHeartbeats 40000000 in
theorem c_build (l : Launch) (Z : State) (a0 : Array Value) (hw : ∀ d ∈ tables_1, d.before a0 Z = true) (ws : List Jvm.Cond) (b1 : Addr) (d_damping d_start d_tolerance : UInt64) (i_maxPasses : Int32) (r_updates r_scale r_dangling r_personal : Addr) (h0 : Heap) (n0 : Nat) (Z0 : n0 ≤ h0.size) (B_damping : Fld Z h0 b1 "com/example/gauger/gauger/engine/PageRankSettings$Builder" "damping" "D" (.double d_damping)) (B_start : Fld Z h0 b1 "com/example/gauger/gauger/engine/PageRankSettings$Builder" "start" "D" (.double d_start)) (B_tolerance : Fld Z h0 b1 "com/example/gauger/gauger/engine/PageRankSettings$Builder" "tolerance" "D" (.double d_tolerance)) (B_maxPasses : Fld Z h0 b1 "com/example/gauger/gauger/engine/PageRankSettings$Builder" "maxPasses" "I" (.int i_maxPasses)) (B_updates : Fld Z h0 b1 "com/example/gauger/gauger/engine/PageRankSettings$Builder" "updates" "Lcom/example/gauger/gauger/engine/Updates;" (.ref r_updates)) (B_scale : Fld Z h0 b1 "com/example/gauger/gauger/engine/PageRankSettings$Builder" "scale" "Lcom/example/gauger/gauger/engine/Scale;" (.ref r_scale)) (B_dangling : Fld Z h0 b1 "com/example/gauger/gauger/engine/PageRankSettings$Builder" "dangling" "Lcom/example/gauger/gauger/engine/Dangling;" (.ref r_dangling)) (B_personal : Fld Z h0 b1 "com/example/gauger/gauger/engine/PageRankSettings$Builder" "personal" "Ljava/util/Set;" (.ref r_personal)) :
    Ctr l Z (⟨"com/example/gauger/gauger/engine/PageRankSettings$Builder", "build", "()Lcom/example/gauger/gauger/engine/PageRankSettings;"⟩ : MethodName) prog_10_method_10_code 1 (some (.object "com/example/gauger/gauger/engine/PageRankSettings")) ws ({ frames := 2, cells := 1, slots := 8, locals := 26 } : Room) n0 #[(.ref b1)] h0 (fun v h => v = some (.ref h0.size) ∧ Keep h0 h [] ∧ Exa Z h h0.size "com/example/gauger/gauger/engine/PageRankSettings" ∧ Fld Z h h0.size "com/example/gauger/gauger/engine/PageRankSettings" "damping" "D" (.double d_damping) ∧ Fld Z h h0.size "com/example/gauger/gauger/engine/PageRankSettings" "start" "D" (.double d_start) ∧ Fld Z h h0.size "com/example/gauger/gauger/engine/PageRankSettings" "tolerance" "D" (.double d_tolerance) ∧ Fld Z h h0.size "com/example/gauger/gauger/engine/PageRankSettings" "maxPasses" "I" (.int i_maxPasses) ∧ Fld Z h h0.size "com/example/gauger/gauger/engine/PageRankSettings" "updates" "Lcom/example/gauger/gauger/engine/Updates;" (.ref r_updates) ∧ Fld Z h h0.size "com/example/gauger/gauger/engine/PageRankSettings" "scale" "Lcom/example/gauger/gauger/engine/Scale;" (.ref r_scale) ∧ Fld Z h h0.size "com/example/gauger/gauger/engine/PageRankSettings" "dangling" "Lcom/example/gauger/gauger/engine/Dangling;" (.ref r_dangling) ∧ Fld Z h h0.size "com/example/gauger/gauger/engine/PageRankSettings" "personal" "Ljava/util/Set;" (.ref r_personal)) := by
  refine ctr (own := "com/example/gauger/gauger/engine/PageRankSettings$Builder") (nm := "build") rfl rfl (Ls := #[.val (.ref b1)]) (plainFor_of_name pn1) (fun m => by first | (simp [entryFrame, mkF, argsToLocals, Value.category]; done) | rfl) ?_
  intro p e s m below meth c K eh
  have P0 := Keep.refl h0 []
  refine newObj K (wd47 hw) (wd48 hw) (wd49 hw) d_prog_10_method_10_0 (by decide) (by decide) (pc' := 3) rfl ?_
  intro h18 b18 g18 E18 A18 D18
  have ne_b1_b18 : b1 ≠ b18 := Nat.ne_of_lt (Nat.lt_of_lt_of_eq (Fld.lt B_damping) g18.symm)
  have lt_b18 : h0.size ≤ b18 := Nat.le_trans P0.1 (Nat.le_of_eq g18.symm)
  have ge_b18 : n0 ≤ b18 := Nat.le_trans Z0 lt_b18
  have F18_damping_b1 := (Fld.ext E18 B_damping)
  have F18_start_b1 := (Fld.ext E18 B_start)
  have F18_tolerance_b1 := (Fld.ext E18 B_tolerance)
  have F18_maxPasses_b1 := (Fld.ext E18 B_maxPasses)
  have F18_updates_b1 := (Fld.ext E18 B_updates)
  have F18_scale_b1 := (Fld.ext E18 B_scale)
  have F18_dangling_b1 := (Fld.ext E18 B_dangling)
  have F18_personal_b1 := (Fld.ext E18 B_personal)
  have P18 := (P0.ext E18)
  have F18_damping_b18 : Fld Z h18 b18 "com/example/gauger/gauger/engine/PageRankSettings" "damping" "D" (.double (0 : UInt64)) := D18 (Or.inr (wd56 hw)) (ty := .double) (by decide)
  have F18_start_b18 : Fld Z h18 b18 "com/example/gauger/gauger/engine/PageRankSettings" "start" "D" (.double (0 : UInt64)) := D18 (Or.inr (wd59 hw)) (ty := .double) (by decide)
  have F18_tolerance_b18 : Fld Z h18 b18 "com/example/gauger/gauger/engine/PageRankSettings" "tolerance" "D" (.double (0 : UInt64)) := D18 (Or.inr (wd62 hw)) (ty := .double) (by decide)
  have F18_maxPasses_b18 : Fld Z h18 b18 "com/example/gauger/gauger/engine/PageRankSettings" "maxPasses" "I" (.int (0 : Int32)) := D18 (Or.inr (wd65 hw)) (ty := .int) (by decide)
  have F18_updates_b18 : Fld Z h18 b18 "com/example/gauger/gauger/engine/PageRankSettings" "updates" "Lcom/example/gauger/gauger/engine/Updates;" .null := D18 (Or.inr (wd68 hw)) (ty := (.object "com/example/gauger/gauger/engine/Updates")) (by decide)
  have F18_scale_b18 : Fld Z h18 b18 "com/example/gauger/gauger/engine/PageRankSettings" "scale" "Lcom/example/gauger/gauger/engine/Scale;" .null := D18 (Or.inr (wd71 hw)) (ty := (.object "com/example/gauger/gauger/engine/Scale")) (by decide)
  have F18_dangling_b18 : Fld Z h18 b18 "com/example/gauger/gauger/engine/PageRankSettings" "dangling" "Lcom/example/gauger/gauger/engine/Dangling;" .null := D18 (Or.inr (wd74 hw)) (ty := (.object "com/example/gauger/gauger/engine/Dangling")) (by decide)
  have F18_personal_b18 : Fld Z h18 b18 "com/example/gauger/gauger/engine/PageRankSettings" "personal" "Ljava/util/Set;" .null := D18 (Or.inr (wd77 hw)) (ty := (.object "java/util/Set")) (by decide)
  refine dup K d_prog_10_method_10_3 rfl (pc' := 4) rfl ?_
  refine aloadN K d_prog_10_method_10_4 rfl rfl (pc' := 5) rfl ?_
  refine callInitNest K (y := (⟨"com/example/gauger/gauger/engine/PageRankSettings", "<init>", "(Lcom/example/gauger/gauger/engine/PageRankSettings$Builder;)V"⟩ : MethodName)) (b := b18) (argsL := [(.ref b1)]) (S := [(.ref b18)]) rfl (wd50 hw) (wd51 hw) (wd49 hw) (wd52 hw) rfl (by decide) (c_pinit l Z a0 hw [] b18 b1 d_damping d_start d_tolerance i_maxPasses r_updates r_scale r_dangling r_personal h18 n0 (Nat.le_trans Z0 P18.1) A18 ge_b18 ne_b1_b18 F18_damping_b18 F18_start_b18 F18_tolerance_b18 F18_maxPasses_b18 F18_updates_b18 F18_scale_b18 F18_dangling_b18 F18_personal_b18 F18_damping_b1 F18_start_b1 F18_tolerance_b1 F18_maxPasses_b1 F18_updates_b1 F18_scale_b1 F18_dangling_b1 F18_personal_b1) (lenOf pd1 rfl) d_prog_10_method_10_5 rfl (Nat.le_of_ble_eq_true rfl) (Nat.le_of_ble_eq_true rfl) (Nat.le_of_ble_eq_true rfl) (Nat.le_of_ble_eq_true rfl) rfl (pc' := 8) rfl ?_
  rintro v19 h19 ⟨rfl, K19, Q19_damping, Q19_start, Q19_tolerance, Q19_maxPasses, Q19_updates, Q19_scale, Q19_dangling, Q19_personal⟩
  have F19_damping_b1 := (Fld.keep F18_damping_b1 K19 (ninS ne_b1_b18 (nin0)))
  have F19_start_b1 := (Fld.keep F18_start_b1 K19 (ninS ne_b1_b18 (nin0)))
  have F19_tolerance_b1 := (Fld.keep F18_tolerance_b1 K19 (ninS ne_b1_b18 (nin0)))
  have F19_maxPasses_b1 := (Fld.keep F18_maxPasses_b1 K19 (ninS ne_b1_b18 (nin0)))
  have F19_updates_b1 := (Fld.keep F18_updates_b1 K19 (ninS ne_b1_b18 (nin0)))
  have F19_scale_b1 := (Fld.keep F18_scale_b1 K19 (ninS ne_b1_b18 (nin0)))
  have F19_dangling_b1 := (Fld.keep F18_dangling_b1 K19 (ninS ne_b1_b18 (nin0)))
  have F19_personal_b1 := (Fld.keep F18_personal_b1 K19 (ninS ne_b1_b18 (nin0)))
  have X19_b18 := (Exa.keep A18 K19)
  have P19 := (P18.trans K19 (allS (Or.inr lt_b18) (all0)))
  show Go _ _ _ _ _ _ _ _ _ _ _ h19 1 8 (mkF m 8 #[.val (.ref b1)] [(.ref b18)]) _
  refine retA K (t := (.object "com/example/gauger/gauger/engine/PageRankSettings")) rfl rfl rfl d_prog_10_method_10_8 (Nat.le_of_ble_eq_true rfl) (Nat.le_of_ble_eq_true rfl) ?_
  subst g18
  exact ⟨rfl, P19, X19_b18, Q19_damping, Q19_start, Q19_tolerance, Q19_maxPasses, Q19_updates, Q19_scale, Q19_dangling, Q19_personal⟩
set_option maxRecDepth 65536 in
set_option maxHeartbeats 40000000 in
theorem c_set_maxPasses (l : Launch) (Z : State) (a0 : Array Value) (hw : ∀ d ∈ tables_1, d.before a0 Z = true) (ws : List Jvm.Cond) (b1 : Addr) (z : Int32) (d_damping d_start d_tolerance : UInt64) (i_maxPasses : Int32) (r_updates r_scale r_dangling r_personal : Addr) (h0 : Heap) (n0 : Nat) (Z0 : n0 ≤ h0.size) (z1 : ¬ z < 1) (E1 : Exa Z h0 b1 "com/example/gauger/gauger/engine/PageRankSettings$Builder") (ge_b1 : n0 ≤ b1) (B_damping : Fld Z h0 b1 "com/example/gauger/gauger/engine/PageRankSettings$Builder" "damping" "D" (.double d_damping)) (B_start : Fld Z h0 b1 "com/example/gauger/gauger/engine/PageRankSettings$Builder" "start" "D" (.double d_start)) (B_tolerance : Fld Z h0 b1 "com/example/gauger/gauger/engine/PageRankSettings$Builder" "tolerance" "D" (.double d_tolerance)) (B_maxPasses : Fld Z h0 b1 "com/example/gauger/gauger/engine/PageRankSettings$Builder" "maxPasses" "I" (.int i_maxPasses)) (B_updates : Fld Z h0 b1 "com/example/gauger/gauger/engine/PageRankSettings$Builder" "updates" "Lcom/example/gauger/gauger/engine/Updates;" (.ref r_updates)) (B_scale : Fld Z h0 b1 "com/example/gauger/gauger/engine/PageRankSettings$Builder" "scale" "Lcom/example/gauger/gauger/engine/Scale;" (.ref r_scale)) (B_dangling : Fld Z h0 b1 "com/example/gauger/gauger/engine/PageRankSettings$Builder" "dangling" "Lcom/example/gauger/gauger/engine/Dangling;" (.ref r_dangling)) (B_personal : Fld Z h0 b1 "com/example/gauger/gauger/engine/PageRankSettings$Builder" "personal" "Ljava/util/Set;" (.ref r_personal)) :
    Ctr l Z (⟨"com/example/gauger/gauger/engine/PageRankSettings$Builder", "maxPasses", "(I)Lcom/example/gauger/gauger/engine/PageRankSettings$Builder;"⟩ : MethodName) prog_10_method_5_code 2 (some (.object "com/example/gauger/gauger/engine/PageRankSettings$Builder")) ws ({ frames := 0, cells := 0, slots := 0, locals := 0 } : Room) n0 #[(.ref b1), (.int z)] h0 (fun v h => v = some (.ref b1) ∧ Keep h0 h [b1] ∧ Fld Z h b1 "com/example/gauger/gauger/engine/PageRankSettings$Builder" "damping" "D" (.double d_damping) ∧ Fld Z h b1 "com/example/gauger/gauger/engine/PageRankSettings$Builder" "start" "D" (.double d_start) ∧ Fld Z h b1 "com/example/gauger/gauger/engine/PageRankSettings$Builder" "tolerance" "D" (.double d_tolerance) ∧ Fld Z h b1 "com/example/gauger/gauger/engine/PageRankSettings$Builder" "maxPasses" "I" (.int z) ∧ Fld Z h b1 "com/example/gauger/gauger/engine/PageRankSettings$Builder" "updates" "Lcom/example/gauger/gauger/engine/Updates;" (.ref r_updates) ∧ Fld Z h b1 "com/example/gauger/gauger/engine/PageRankSettings$Builder" "scale" "Lcom/example/gauger/gauger/engine/Scale;" (.ref r_scale) ∧ Fld Z h b1 "com/example/gauger/gauger/engine/PageRankSettings$Builder" "dangling" "Lcom/example/gauger/gauger/engine/Dangling;" (.ref r_dangling) ∧ Fld Z h b1 "com/example/gauger/gauger/engine/PageRankSettings$Builder" "personal" "Ljava/util/Set;" (.ref r_personal)) := by
  refine ctr (own := "com/example/gauger/gauger/engine/PageRankSettings$Builder") (nm := "maxPasses") rfl rfl (Ls := #[.val (.ref b1), .val (.int z)]) (plainFor_of_name pn1) (fun m => by first | (simp [entryFrame, mkF, argsToLocals, Value.category]; done) | rfl) ?_
  intro p e s m below meth c K eh
  have P0 := Keep.refl h0 [b1]
  refine iloadN K d_prog_10_method_5_0 rfl (pc' := 1) rfl ?_
  refine iconst K (1 : Int32) d_prog_10_method_5_1 (by decide) (pc' := 2) rfl ?_
  refine icY K d_prog_10_method_5_2 (XT.ii_ge_t z1) (pc' := 15) (by decide) (by decide) ?_
  refine aloadN K d_prog_10_method_5_15 rfl rfl (pc' := 16) rfl ?_
  refine iloadN K d_prog_10_method_5_16 rfl (pc' := 17) rfl ?_
  refine putf K (wd17 hw) Via.refl B_maxPasses E1 (Or.inl (wd18 hw)) (wd1 hw) (ty := .int) (by decide) rfl rfl ge_b1 d_prog_10_method_5_17 (pc' := 20) rfl ?_
  intro h20 W20
  have F20_damping_b1 := (Fld.other W20 B_damping (Or.inr (sn_PageRankSettings_Builder_damping_maxPasses hw)))
  have F20_start_b1 := (Fld.other W20 B_start (Or.inr (sn_PageRankSettings_Builder_start_maxPasses hw)))
  have F20_tolerance_b1 := (Fld.other W20 B_tolerance (Or.inr (sn_PageRankSettings_Builder_tolerance_maxPasses hw)))
  have F20_updates_b1 := (Fld.other W20 B_updates (Or.inr (sn_PageRankSettings_Builder_updates_maxPasses hw)))
  have F20_scale_b1 := (Fld.other W20 B_scale (Or.inr (sn_PageRankSettings_Builder_scale_maxPasses hw)))
  have F20_dangling_b1 := (Fld.other W20 B_dangling (Or.inr (sn_PageRankSettings_Builder_dangling_maxPasses hw)))
  have F20_personal_b1 := (Fld.other W20 B_personal (Or.inr (sn_PageRankSettings_Builder_personal_maxPasses hw)))
  have X20_b1 := (Exa.wr W20 E1)
  have P20 := (P0.wr W20 (Or.inl (List.mem_of_getElem? (i := 0) rfl)))
  have F20_maxPasses_b1 := Fld.same W20 B_maxPasses
  refine aloadN K d_prog_10_method_5_20 rfl rfl (pc' := 21) rfl ?_
  refine retA K (t := (.object "com/example/gauger/gauger/engine/PageRankSettings$Builder")) rfl rfl rfl d_prog_10_method_5_21 (Nat.le_of_ble_eq_true rfl) (Nat.le_of_ble_eq_true rfl) ?_
  exact ⟨rfl, P20, F20_damping_b1, F20_start_b1, F20_tolerance_b1, F20_maxPasses_b1, F20_updates_b1, F20_scale_b1, F20_dangling_b1, F20_personal_b1⟩
set_option maxRecDepth 65536 in
set_option maxHeartbeats 40000000 in
theorem c_get_damping (l : Launch) (Z : State) (a0 : Array Value) (hw : ∀ d ∈ tables_1, d.before a0 Z = true) (ws : List Jvm.Cond) (a1 : Addr) (z : UInt64) (h0 : Heap) (n0 : Nat) (Z0 : n0 ≤ h0.size) (F : Fld Z h0 a1 "com/example/gauger/gauger/engine/PageRankSettings" "damping" "D" (.double z)) :
    Ctr l Z (⟨"com/example/gauger/gauger/engine/PageRankSettings", "damping", "()D"⟩ : MethodName) prog_9_method_2_code 1 (some .double) ws ({ frames := 0, cells := 0, slots := 0, locals := 0 } : Room) n0 #[(.ref a1)] h0 (fun v h => v = some (.double z) ∧ h0 = h) := by
  refine ctr (own := "com/example/gauger/gauger/engine/PageRankSettings") (nm := "damping") rfl rfl (Ls := #[.val (.ref a1)]) (plainFor_of_name pn2) (fun m => by first | (simp [entryFrame, mkF, argsToLocals, Value.category]; done) | rfl) ?_
  intro p e s m below meth c K eh
  refine aloadN K d_prog_9_method_2_0 rfl rfl (pc' := 1) rfl ?_
  refine getf K (wd55 hw) Via.refl F d_prog_9_method_2_1 (pc' := 4) rfl ?_
  refine retD K rfl d_prog_9_method_2_4 (Nat.le_of_ble_eq_true rfl) (Nat.le_of_ble_eq_true rfl) ?_
  exact ⟨rfl, rfl⟩
set_option maxRecDepth 65536 in
set_option maxHeartbeats 40000000 in
theorem c_get_start (l : Launch) (Z : State) (a0 : Array Value) (hw : ∀ d ∈ tables_1, d.before a0 Z = true) (ws : List Jvm.Cond) (a1 : Addr) (z : UInt64) (h0 : Heap) (n0 : Nat) (Z0 : n0 ≤ h0.size) (F : Fld Z h0 a1 "com/example/gauger/gauger/engine/PageRankSettings" "start" "D" (.double z)) :
    Ctr l Z (⟨"com/example/gauger/gauger/engine/PageRankSettings", "start", "()D"⟩ : MethodName) prog_9_method_3_code 1 (some .double) ws ({ frames := 0, cells := 0, slots := 0, locals := 0 } : Room) n0 #[(.ref a1)] h0 (fun v h => v = some (.double z) ∧ h0 = h) := by
  refine ctr (own := "com/example/gauger/gauger/engine/PageRankSettings") (nm := "start") rfl rfl (Ls := #[.val (.ref a1)]) (plainFor_of_name pn2) (fun m => by first | (simp [entryFrame, mkF, argsToLocals, Value.category]; done) | rfl) ?_
  intro p e s m below meth c K eh
  refine aloadN K d_prog_9_method_3_0 rfl rfl (pc' := 1) rfl ?_
  refine getf K (wd58 hw) Via.refl F d_prog_9_method_3_1 (pc' := 4) rfl ?_
  refine retD K rfl d_prog_9_method_3_4 (Nat.le_of_ble_eq_true rfl) (Nat.le_of_ble_eq_true rfl) ?_
  exact ⟨rfl, rfl⟩
set_option maxRecDepth 65536 in
set_option maxHeartbeats 40000000 in
theorem c_get_tolerance (l : Launch) (Z : State) (a0 : Array Value) (hw : ∀ d ∈ tables_1, d.before a0 Z = true) (ws : List Jvm.Cond) (a1 : Addr) (z : UInt64) (h0 : Heap) (n0 : Nat) (Z0 : n0 ≤ h0.size) (F : Fld Z h0 a1 "com/example/gauger/gauger/engine/PageRankSettings" "tolerance" "D" (.double z)) :
    Ctr l Z (⟨"com/example/gauger/gauger/engine/PageRankSettings", "tolerance", "()D"⟩ : MethodName) prog_9_method_4_code 1 (some .double) ws ({ frames := 0, cells := 0, slots := 0, locals := 0 } : Room) n0 #[(.ref a1)] h0 (fun v h => v = some (.double z) ∧ h0 = h) := by
  refine ctr (own := "com/example/gauger/gauger/engine/PageRankSettings") (nm := "tolerance") rfl rfl (Ls := #[.val (.ref a1)]) (plainFor_of_name pn2) (fun m => by first | (simp [entryFrame, mkF, argsToLocals, Value.category]; done) | rfl) ?_
  intro p e s m below meth c K eh
  refine aloadN K d_prog_9_method_4_0 rfl rfl (pc' := 1) rfl ?_
  refine getf K (wd61 hw) Via.refl F d_prog_9_method_4_1 (pc' := 4) rfl ?_
  refine retD K rfl d_prog_9_method_4_4 (Nat.le_of_ble_eq_true rfl) (Nat.le_of_ble_eq_true rfl) ?_
  exact ⟨rfl, rfl⟩
set_option maxRecDepth 65536 in
set_option maxHeartbeats 40000000 in
theorem c_get_maxPasses (l : Launch) (Z : State) (a0 : Array Value) (hw : ∀ d ∈ tables_1, d.before a0 Z = true) (ws : List Jvm.Cond) (a1 : Addr) (z : Int32) (h0 : Heap) (n0 : Nat) (Z0 : n0 ≤ h0.size) (F : Fld Z h0 a1 "com/example/gauger/gauger/engine/PageRankSettings" "maxPasses" "I" (.int z)) :
    Ctr l Z (⟨"com/example/gauger/gauger/engine/PageRankSettings", "maxPasses", "()I"⟩ : MethodName) prog_9_method_5_code 1 (some .int) ws ({ frames := 0, cells := 0, slots := 0, locals := 0 } : Room) n0 #[(.ref a1)] h0 (fun v h => v = some (.int z) ∧ h0 = h) := by
  refine ctr (own := "com/example/gauger/gauger/engine/PageRankSettings") (nm := "maxPasses") rfl rfl (Ls := #[.val (.ref a1)]) (plainFor_of_name pn2) (fun m => by first | (simp [entryFrame, mkF, argsToLocals, Value.category]; done) | rfl) ?_
  intro p e s m below meth c K eh
  refine aloadN K d_prog_9_method_5_0 rfl rfl (pc' := 1) rfl ?_
  refine getf K (wd64 hw) Via.refl F d_prog_9_method_5_1 (pc' := 4) rfl ?_
  refine retI K rfl d_prog_9_method_5_4 (Nat.le_of_ble_eq_true rfl) (Nat.le_of_ble_eq_true rfl) ?_
  exact ⟨rfl, rfl⟩
set_option maxRecDepth 65536 in
set_option maxHeartbeats 40000000 in
theorem c_get_updates (l : Launch) (Z : State) (a0 : Array Value) (hw : ∀ d ∈ tables_1, d.before a0 Z = true) (ws : List Jvm.Cond) (a1 : Addr) (z : Addr) (h0 : Heap) (n0 : Nat) (Z0 : n0 ≤ h0.size) (F : Fld Z h0 a1 "com/example/gauger/gauger/engine/PageRankSettings" "updates" "Lcom/example/gauger/gauger/engine/Updates;" (.ref z)) :
    Ctr l Z (⟨"com/example/gauger/gauger/engine/PageRankSettings", "updates", "()Lcom/example/gauger/gauger/engine/Updates;"⟩ : MethodName) prog_9_method_6_code 1 (some (.object "com/example/gauger/gauger/engine/Updates")) ws ({ frames := 0, cells := 0, slots := 0, locals := 0 } : Room) n0 #[(.ref a1)] h0 (fun v h => v = some (.ref z) ∧ h0 = h) := by
  refine ctr (own := "com/example/gauger/gauger/engine/PageRankSettings") (nm := "updates") rfl rfl (Ls := #[.val (.ref a1)]) (plainFor_of_name pn2) (fun m => by first | (simp [entryFrame, mkF, argsToLocals, Value.category]; done) | rfl) ?_
  intro p e s m below meth c K eh
  refine aloadN K d_prog_9_method_6_0 rfl rfl (pc' := 1) rfl ?_
  refine getf K (wd67 hw) Via.refl F d_prog_9_method_6_1 (pc' := 4) rfl ?_
  refine retA K (t := (.object "com/example/gauger/gauger/engine/Updates")) rfl rfl rfl d_prog_9_method_6_4 (Nat.le_of_ble_eq_true rfl) (Nat.le_of_ble_eq_true rfl) ?_
  exact ⟨rfl, rfl⟩
set_option maxRecDepth 65536 in
set_option maxHeartbeats 40000000 in
theorem c_get_scale (l : Launch) (Z : State) (a0 : Array Value) (hw : ∀ d ∈ tables_1, d.before a0 Z = true) (ws : List Jvm.Cond) (a1 : Addr) (z : Addr) (h0 : Heap) (n0 : Nat) (Z0 : n0 ≤ h0.size) (F : Fld Z h0 a1 "com/example/gauger/gauger/engine/PageRankSettings" "scale" "Lcom/example/gauger/gauger/engine/Scale;" (.ref z)) :
    Ctr l Z (⟨"com/example/gauger/gauger/engine/PageRankSettings", "scale", "()Lcom/example/gauger/gauger/engine/Scale;"⟩ : MethodName) prog_9_method_7_code 1 (some (.object "com/example/gauger/gauger/engine/Scale")) ws ({ frames := 0, cells := 0, slots := 0, locals := 0 } : Room) n0 #[(.ref a1)] h0 (fun v h => v = some (.ref z) ∧ h0 = h) := by
  refine ctr (own := "com/example/gauger/gauger/engine/PageRankSettings") (nm := "scale") rfl rfl (Ls := #[.val (.ref a1)]) (plainFor_of_name pn2) (fun m => by first | (simp [entryFrame, mkF, argsToLocals, Value.category]; done) | rfl) ?_
  intro p e s m below meth c K eh
  refine aloadN K d_prog_9_method_7_0 rfl rfl (pc' := 1) rfl ?_
  refine getf K (wd70 hw) Via.refl F d_prog_9_method_7_1 (pc' := 4) rfl ?_
  refine retA K (t := (.object "com/example/gauger/gauger/engine/Scale")) rfl rfl rfl d_prog_9_method_7_4 (Nat.le_of_ble_eq_true rfl) (Nat.le_of_ble_eq_true rfl) ?_
  exact ⟨rfl, rfl⟩
set_option maxRecDepth 65536 in
set_option maxHeartbeats 40000000 in
theorem c_get_dangling (l : Launch) (Z : State) (a0 : Array Value) (hw : ∀ d ∈ tables_1, d.before a0 Z = true) (ws : List Jvm.Cond) (a1 : Addr) (z : Addr) (h0 : Heap) (n0 : Nat) (Z0 : n0 ≤ h0.size) (F : Fld Z h0 a1 "com/example/gauger/gauger/engine/PageRankSettings" "dangling" "Lcom/example/gauger/gauger/engine/Dangling;" (.ref z)) :
    Ctr l Z (⟨"com/example/gauger/gauger/engine/PageRankSettings", "dangling", "()Lcom/example/gauger/gauger/engine/Dangling;"⟩ : MethodName) prog_9_method_8_code 1 (some (.object "com/example/gauger/gauger/engine/Dangling")) ws ({ frames := 0, cells := 0, slots := 0, locals := 0 } : Room) n0 #[(.ref a1)] h0 (fun v h => v = some (.ref z) ∧ h0 = h) := by
  refine ctr (own := "com/example/gauger/gauger/engine/PageRankSettings") (nm := "dangling") rfl rfl (Ls := #[.val (.ref a1)]) (plainFor_of_name pn2) (fun m => by first | (simp [entryFrame, mkF, argsToLocals, Value.category]; done) | rfl) ?_
  intro p e s m below meth c K eh
  refine aloadN K d_prog_9_method_8_0 rfl rfl (pc' := 1) rfl ?_
  refine getf K (wd73 hw) Via.refl F d_prog_9_method_8_1 (pc' := 4) rfl ?_
  refine retA K (t := (.object "com/example/gauger/gauger/engine/Dangling")) rfl rfl rfl d_prog_9_method_8_4 (Nat.le_of_ble_eq_true rfl) (Nat.le_of_ble_eq_true rfl) ?_
  exact ⟨rfl, rfl⟩
set_option maxRecDepth 65536 in
set_option maxHeartbeats 40000000 in
theorem c_get_personal (l : Launch) (Z : State) (a0 : Array Value) (hw : ∀ d ∈ tables_1, d.before a0 Z = true) (ws : List Jvm.Cond) (a1 : Addr) (z : Addr) (h0 : Heap) (n0 : Nat) (Z0 : n0 ≤ h0.size) (F : Fld Z h0 a1 "com/example/gauger/gauger/engine/PageRankSettings" "personal" "Ljava/util/Set;" (.ref z)) :
    Ctr l Z (⟨"com/example/gauger/gauger/engine/PageRankSettings", "personal", "()Ljava/util/Set;"⟩ : MethodName) prog_9_method_9_code 1 (some (.object "java/util/Set")) ws ({ frames := 0, cells := 0, slots := 0, locals := 0 } : Room) n0 #[(.ref a1)] h0 (fun v h => v = some (.ref z) ∧ h0 = h) := by
  refine ctr (own := "com/example/gauger/gauger/engine/PageRankSettings") (nm := "personal") rfl rfl (Ls := #[.val (.ref a1)]) (plainFor_of_name pn2) (fun m => by first | (simp [entryFrame, mkF, argsToLocals, Value.category]; done) | rfl) ?_
  intro p e s m below meth c K eh
  refine aloadN K d_prog_9_method_9_0 rfl rfl (pc' := 1) rfl ?_
  refine getf K (wd76 hw) Via.refl F d_prog_9_method_9_1 (pc' := 4) rfl ?_
  refine retA K (t := (.object "java/util/Set")) rfl rfl rfl d_prog_9_method_9_4 (Nat.le_of_ble_eq_true rfl) (Nat.le_of_ble_eq_true rfl) ?_
  exact ⟨rfl, rfl⟩
set_option maxRecDepth 65536 in
set_option maxHeartbeats 40000000 in
theorem c_law (l : Launch) (Z : State) (a0 : Array Value) (hw : ∀ d ∈ tables_1, d.before a0 Z = true) (ws : List Jvm.Cond) (p0 p1 p2 : Int32) (u1 u2 u3 u4 : Addr) (h0 : Heap) (n0 : Nat) (Z0 : n0 ≤ h0.size) (S_u1 : Sta Z Z.heap "com/example/gauger/gauger/engine/Updates" "AFTER_PASS" "Lcom/example/gauger/gauger/engine/Updates;" (.ref u1)) (S_u2 : Sta Z Z.heap "com/example/gauger/gauger/engine/Scale" "N" "Lcom/example/gauger/gauger/engine/Scale;" (.ref u2)) (S_u3 : Sta Z Z.heap "com/example/gauger/gauger/engine/Dangling" "KEEP" "Lcom/example/gauger/gauger/engine/Dangling;" (.ref u3)) (S_u4 : Sta Z Z.heap "java/util/ImmutableCollections" "EMPTY_SET" "Ljava/util/ImmutableCollections$SetN;" (.ref u4)) (O0 : Old Z n0 h0) :
    Ctr l Z x code maxLocals ret ws room_1 n0 #[(.int p0), (.int p1), (.int p2)] h0 (fun v h => v = some (.int 1)) := by
  refine ctr (own := "com/example/gauger/gauger/engine/BuilderMaxPassesPinLaw") (nm := "law") rfl rfl (Ls := #[.val (.int p0), .val (.int p1), .val (.int p2), .unset, .unset, .unset, .unset, .unset, .unset, .unset, .unset, .unset]) (plainFor_of_name pn3) (fun m => by first | (simp [entryFrame, mkF, argsToLocals, Value.category, maxLocals]; done) | rfl) ?_
  intro p e s m below meth c K eh
  have P0 := Keep.refl h0 []
  refine iloadN K at_0 rfl (pc' := 1) rfl ?_
  refine iconst K (1 : Int32) at_1 (by decide) (pc' := 2) rfl ?_
  have J1 : ∀ (a : Int32) (ha : ¬ a < 1), Go p l e room_1 s m #[(.int p0), (.int p1), (.int p2)] below meth c n0 h0 0 0 (mkF m 10 #[.val (.int p0), .val (.int p1), .val (.int p2), .unset, .unset, .unset, .unset, .unset, .unset, .unset, .unset, .unset] [(.int a)]) (fun v h => v = some (.int 1)) := by
    intro a ha
    refine istoreN K at_10 (Ls' := #[.val (.int p0), .val (.int p1), .val (.int p2), .val (.int a), .unset, .unset, .unset, .unset, .unset, .unset, .unset, .unset]) rfl (pc' := 11) rfl ?_
    refine iloadN K at_11 rfl (pc' := 12) rfl ?_
    refine iconst K (1 : Int32) at_12 (by decide) (pc' := 13) rfl ?_
    have J2 : ∀ (b : Int32) (hb : ¬ b < 1), Go p l e room_1 s m #[(.int p0), (.int p1), (.int p2)] below meth c n0 h0 0 0 (mkF m 21 #[.val (.int p0), .val (.int p1), .val (.int p2), .val (.int a), .unset, .unset, .unset, .unset, .unset, .unset, .unset, .unset] [(.int b)]) (fun v h => v = some (.int 1)) := by
      intro b hb
      refine istore K at_21 (Ls' := #[.val (.int p0), .val (.int p1), .val (.int p2), .val (.int a), .val (.int b), .unset, .unset, .unset, .unset, .unset, .unset, .unset]) rfl (pc' := 23) rfl ?_
      refine iloadN K at_23 rfl (pc' := 24) rfl ?_
      refine iconst K (1 : Int32) at_24 (by decide) (pc' := 25) rfl ?_
      refine iand K at_25 (pc' := 26) rfl ?_
      by_cases c3 : (p2 &&& (1 : Int32)) = 0
      · refine ifY K at_26 (XT.i0_eq_t c3) (pc' := 33) (by decide) (by decide) ?_
        refine iconst K (0 : Int32) at_33 (by decide) (pc' := 34) rfl ?_
        refine istore K at_34 (Ls' := #[.val (.int p0), .val (.int p1), .val (.int p2), .val (.int a), .val (.int b), .val (.int (0 : Int32)), .unset, .unset, .unset, .unset, .unset, .unset]) rfl (pc' := 36) rfl ?_
        refine newObj K (wd0 hw) (wd1 hw) (wd2 hw) at_36 (by decide) (by decide) (pc' := 39) rfl ?_
        intro h21 b21 g21 E21 A21 D21
        have lt_b21 : h0.size ≤ b21 := Nat.le_trans P0.1 (Nat.le_of_eq g21.symm)
        have ge_b21 : n0 ≤ b21 := Nat.le_trans Z0 lt_b21
        have O21 := (O0.ext E21)
        have P21 := (P0.ext E21)
        have F21_damping_b21 : Fld Z h21 b21 "com/example/gauger/gauger/engine/PageRankSettings$Builder" "damping" "D" (.double (0 : UInt64)) := D21 (Or.inl (wd11 hw)) (ty := .double) (by decide)
        have F21_start_b21 : Fld Z h21 b21 "com/example/gauger/gauger/engine/PageRankSettings$Builder" "start" "D" (.double (0 : UInt64)) := D21 (Or.inl (wd13 hw)) (ty := .double) (by decide)
        have F21_tolerance_b21 : Fld Z h21 b21 "com/example/gauger/gauger/engine/PageRankSettings$Builder" "tolerance" "D" (.double (0 : UInt64)) := D21 (Or.inl (wd16 hw)) (ty := .double) (by decide)
        have F21_maxPasses_b21 : Fld Z h21 b21 "com/example/gauger/gauger/engine/PageRankSettings$Builder" "maxPasses" "I" (.int (0 : Int32)) := D21 (Or.inl (wd18 hw)) (ty := .int) (by decide)
        have F21_updates_b21 : Fld Z h21 b21 "com/example/gauger/gauger/engine/PageRankSettings$Builder" "updates" "Lcom/example/gauger/gauger/engine/Updates;" .null := D21 (Or.inl (wd23 hw)) (ty := (.object "com/example/gauger/gauger/engine/Updates")) (by decide)
        have F21_scale_b21 : Fld Z h21 b21 "com/example/gauger/gauger/engine/PageRankSettings$Builder" "scale" "Lcom/example/gauger/gauger/engine/Scale;" .null := D21 (Or.inl (wd28 hw)) (ty := (.object "com/example/gauger/gauger/engine/Scale")) (by decide)
        have F21_dangling_b21 : Fld Z h21 b21 "com/example/gauger/gauger/engine/PageRankSettings$Builder" "dangling" "Lcom/example/gauger/gauger/engine/Dangling;" .null := D21 (Or.inl (wd33 hw)) (ty := (.object "com/example/gauger/gauger/engine/Dangling")) (by decide)
        have F21_personal_b21 : Fld Z h21 b21 "com/example/gauger/gauger/engine/PageRankSettings$Builder" "personal" "Ljava/util/Set;" .null := D21 (Or.inl (wd41 hw)) (ty := (.object "java/util/Set")) (by decide)
        refine dup K at_39 rfl (pc' := 40) rfl ?_
        refine callInit K (y := (⟨"com/example/gauger/gauger/engine/PageRankSettings$Builder", "<init>", "()V"⟩ : MethodName)) (b := b21) (argsL := []) (S := [(.ref b21)]) rfl (wd3 hw) (wd4 hw) (wd2 hw) (wd5 hw) rfl (by decide) (c_binit l Z a0 hw [] b21 u1 u2 u3 u4 h21 n0 (Nat.le_trans Z0 P21.1) S_u1 S_u2 S_u3 S_u4 O21 A21 ge_b21 F21_damping_b21 F21_start_b21 F21_tolerance_b21 F21_maxPasses_b21 F21_updates_b21 F21_scale_b21 F21_dangling_b21 F21_personal_b21) (lenOf pd2 rfl) at_40 rfl (Nat.le_of_ble_eq_true rfl) (Nat.le_of_ble_eq_true rfl) (Nat.le_of_ble_eq_true rfl) (Nat.le_of_ble_eq_true rfl) rfl (pc' := 43) rfl ?_
        rintro v22 h22 ⟨rfl, K22, Q22_damping, Q22_start, Q22_tolerance, Q22_maxPasses, Q22_updates, Q22_scale, Q22_dangling, Q22_personal⟩
        have X22_b21 := (Exa.keep A21 K22)
        have O22 := (O21.keep K22 (allS ge_b21 (all0)))
        have P22 := (P21.trans K22 (allS (Or.inr lt_b21) (all0)))
        show Go _ _ _ _ _ _ _ _ _ _ _ h22 1 8 (mkF m 43 #[.val (.int p0), .val (.int p1), .val (.int p2), .val (.int a), .val (.int b), .val (.int (0 : Int32)), .unset, .unset, .unset, .unset, .unset, .unset] [(.ref b21)]) _
        refine astore K at_43 rfl (Ls' := #[.val (.int p0), .val (.int p1), .val (.int p2), .val (.int a), .val (.int b), .val (.int (0 : Int32)), .val (.ref b21), .unset, .unset, .unset, .unset, .unset]) rfl (pc' := 45) rfl ?_
        refine aload K at_45 rfl rfl (pc' := 47) rfl ?_
        refine callVirt K (y := (⟨"com/example/gauger/gauger/engine/PageRankSettings$Builder", "build", "()Lcom/example/gauger/gauger/engine/PageRankSettings;"⟩ : MethodName)) (b := b21) (argsL := []) (S := []) (wd42 hw) (wd43 hw) (wd45 hw) (wd44 hw) (wd2 hw) (wd46 hw) (by decide) X22_b21 (c_build l Z a0 hw [] b21 (4605831338911806259 : UInt64) (4607182418800017408 : UInt64) (4427486594234968593 : UInt64) (1000 : Int32) u1 u2 u3 u4 h22 n0 (Nat.le_trans Z0 P22.1) Q22_damping Q22_start Q22_tolerance Q22_maxPasses Q22_updates Q22_scale Q22_dangling Q22_personal) (lenOf pd3 rfl) at_47 rfl (Nat.le_of_ble_eq_true rfl) (Nat.le_of_ble_eq_true rfl) (Nat.le_of_ble_eq_true rfl) (Nat.le_of_ble_eq_true rfl) rfl (pc' := 50) rfl ?_
        rintro v24 h24 ⟨rfl, K24, X24_s23, Q24_damping, Q24_start, Q24_tolerance, Q24_maxPasses, Q24_updates, Q24_scale, Q24_dangling, Q24_personal⟩
        obtain ⟨s23, gs23⟩ : ∃ z, z = h22.size := ⟨_, rfl⟩
        rw [← gs23] at X24_s23 Q24_damping Q24_start Q24_tolerance Q24_maxPasses Q24_updates Q24_scale Q24_dangling Q24_personal ⊢
        have ne_b21_s23 : b21 ≠ s23 := Nat.ne_of_lt (Nat.lt_of_lt_of_eq (Exa.lt X22_b21) gs23.symm)
        have lt_s23 : h0.size ≤ s23 := Nat.le_trans P22.1 (Nat.le_of_eq gs23.symm)
        have ge_s23 : n0 ≤ s23 := Nat.le_trans Z0 lt_s23
        have F24_damping_b21 := (Fld.keep Q22_damping K24 (nin0))
        have F24_start_b21 := (Fld.keep Q22_start K24 (nin0))
        have F24_tolerance_b21 := (Fld.keep Q22_tolerance K24 (nin0))
        have F24_maxPasses_b21 := (Fld.keep Q22_maxPasses K24 (nin0))
        have F24_updates_b21 := (Fld.keep Q22_updates K24 (nin0))
        have F24_scale_b21 := (Fld.keep Q22_scale K24 (nin0))
        have F24_dangling_b21 := (Fld.keep Q22_dangling K24 (nin0))
        have F24_personal_b21 := (Fld.keep Q22_personal K24 (nin0))
        have X24_b21 := (Exa.keep X22_b21 K24)
        have O24 := (O22.keep K24 (all0))
        have P24 := (P22.trans K24 (all0))
        show Go _ _ _ _ _ _ _ _ _ _ _ h24 2 16 (mkF m 50 #[.val (.int p0), .val (.int p1), .val (.int p2), .val (.int a), .val (.int b), .val (.int (0 : Int32)), .val (.ref b21), .unset, .unset, .unset, .unset, .unset] [(.ref s23)]) _
        refine astore K at_50 rfl (Ls' := #[.val (.int p0), .val (.int p1), .val (.int p2), .val (.int a), .val (.int b), .val (.int (0 : Int32)), .val (.ref b21), .val (.ref s23), .unset, .unset, .unset, .unset]) rfl (pc' := 52) rfl ?_
        refine aload K at_52 rfl rfl (pc' := 54) rfl ?_
        refine iloadN K at_54 rfl (pc' := 55) rfl ?_
        refine callVirt K (y := (⟨"com/example/gauger/gauger/engine/PageRankSettings$Builder", "maxPasses", "(I)Lcom/example/gauger/gauger/engine/PageRankSettings$Builder;"⟩ : MethodName)) (b := b21) (argsL := [(.int a)]) (S := []) (wd78 hw) (wd79 hw) (wd81 hw) (wd80 hw) (wd2 hw) (wd82 hw) (by decide) X24_b21 (c_set_maxPasses l Z a0 hw [] b21 a (4605831338911806259 : UInt64) (4607182418800017408 : UInt64) (4427486594234968593 : UInt64) (1000 : Int32) u1 u2 u3 u4 h24 n0 (Nat.le_trans Z0 P24.1) ha X24_b21 ge_b21 F24_damping_b21 F24_start_b21 F24_tolerance_b21 F24_maxPasses_b21 F24_updates_b21 F24_scale_b21 F24_dangling_b21 F24_personal_b21) (lenOf pd4 rfl) at_55 rfl (Nat.le_of_ble_eq_true rfl) (Nat.le_of_ble_eq_true rfl) (Nat.le_of_ble_eq_true rfl) (Nat.le_of_ble_eq_true rfl) rfl (pc' := 58) rfl ?_
        rintro v25 h25 ⟨rfl, K25, Q25_damping, Q25_start, Q25_tolerance, Q25_maxPasses, Q25_updates, Q25_scale, Q25_dangling, Q25_personal⟩
        have F25_damping_s23 := (Fld.keep Q24_damping K25 (ninS (Ne.symm ne_b21_s23) (nin0)))
        have F25_start_s23 := (Fld.keep Q24_start K25 (ninS (Ne.symm ne_b21_s23) (nin0)))
        have F25_tolerance_s23 := (Fld.keep Q24_tolerance K25 (ninS (Ne.symm ne_b21_s23) (nin0)))
        have F25_maxPasses_s23 := (Fld.keep Q24_maxPasses K25 (ninS (Ne.symm ne_b21_s23) (nin0)))
        have F25_updates_s23 := (Fld.keep Q24_updates K25 (ninS (Ne.symm ne_b21_s23) (nin0)))
        have F25_scale_s23 := (Fld.keep Q24_scale K25 (ninS (Ne.symm ne_b21_s23) (nin0)))
        have F25_dangling_s23 := (Fld.keep Q24_dangling K25 (ninS (Ne.symm ne_b21_s23) (nin0)))
        have F25_personal_s23 := (Fld.keep Q24_personal K25 (ninS (Ne.symm ne_b21_s23) (nin0)))
        have X25_b21 := (Exa.keep X24_b21 K25)
        have X25_s23 := (Exa.keep X24_s23 K25)
        have O25 := (O24.keep K25 (allS ge_b21 (all0)))
        have P25 := (P24.trans K25 (allS (Or.inr lt_b21) (all0)))
        show Go _ _ _ _ _ _ _ _ _ _ _ h25 2 16 (mkF m 58 #[.val (.int p0), .val (.int p1), .val (.int p2), .val (.int a), .val (.int b), .val (.int (0 : Int32)), .val (.ref b21), .val (.ref s23), .unset, .unset, .unset, .unset] [(.ref b21)]) _
        refine astore K at_58 rfl (Ls' := #[.val (.int p0), .val (.int p1), .val (.int p2), .val (.int a), .val (.int b), .val (.int (0 : Int32)), .val (.ref b21), .val (.ref s23), .val (.ref b21), .unset, .unset, .unset]) rfl (pc' := 60) rfl ?_
        refine aload K at_60 rfl rfl (pc' := 62) rfl ?_
        refine aload K at_62 rfl rfl (pc' := 64) rfl ?_
        refine acY K at_64 rfl rfl (XT.aa_eq_t rfl) (pc' := 69) (by decide) (by decide) ?_
        refine aload K at_69 rfl rfl (pc' := 71) rfl ?_
        refine callVirt K (y := (⟨"com/example/gauger/gauger/engine/PageRankSettings$Builder", "build", "()Lcom/example/gauger/gauger/engine/PageRankSettings;"⟩ : MethodName)) (b := b21) (argsL := []) (S := []) (wd42 hw) (wd43 hw) (wd45 hw) (wd44 hw) (wd2 hw) (wd46 hw) (by decide) X25_b21 (c_build l Z a0 hw [] b21 (4605831338911806259 : UInt64) (4607182418800017408 : UInt64) (4427486594234968593 : UInt64) a u1 u2 u3 u4 h25 n0 (Nat.le_trans Z0 P25.1) Q25_damping Q25_start Q25_tolerance Q25_maxPasses Q25_updates Q25_scale Q25_dangling Q25_personal) (lenOf pd3 rfl) at_71 rfl (Nat.le_of_ble_eq_true rfl) (Nat.le_of_ble_eq_true rfl) (Nat.le_of_ble_eq_true rfl) (Nat.le_of_ble_eq_true rfl) rfl (pc' := 74) rfl ?_
        rintro v27 h27 ⟨rfl, K27, X27_s26, Q27_damping, Q27_start, Q27_tolerance, Q27_maxPasses, Q27_updates, Q27_scale, Q27_dangling, Q27_personal⟩
        obtain ⟨s26, gs26⟩ : ∃ z, z = h25.size := ⟨_, rfl⟩
        rw [← gs26] at X27_s26 Q27_damping Q27_start Q27_tolerance Q27_maxPasses Q27_updates Q27_scale Q27_dangling Q27_personal ⊢
        have ne_s23_s26 : s23 ≠ s26 := Nat.ne_of_lt (Nat.lt_of_lt_of_eq (Exa.lt X25_s23) gs26.symm)
        have ne_b21_s26 : b21 ≠ s26 := Nat.ne_of_lt (Nat.lt_of_lt_of_eq (Exa.lt X25_b21) gs26.symm)
        have lt_s26 : h0.size ≤ s26 := Nat.le_trans P25.1 (Nat.le_of_eq gs26.symm)
        have ge_s26 : n0 ≤ s26 := Nat.le_trans Z0 lt_s26
        have F27_damping_s23 := (Fld.keep F25_damping_s23 K27 (nin0))
        have F27_start_s23 := (Fld.keep F25_start_s23 K27 (nin0))
        have F27_tolerance_s23 := (Fld.keep F25_tolerance_s23 K27 (nin0))
        have F27_maxPasses_s23 := (Fld.keep F25_maxPasses_s23 K27 (nin0))
        have F27_updates_s23 := (Fld.keep F25_updates_s23 K27 (nin0))
        have F27_scale_s23 := (Fld.keep F25_scale_s23 K27 (nin0))
        have F27_dangling_s23 := (Fld.keep F25_dangling_s23 K27 (nin0))
        have F27_personal_s23 := (Fld.keep F25_personal_s23 K27 (nin0))
        have F27_damping_b21 := (Fld.keep Q25_damping K27 (nin0))
        have F27_start_b21 := (Fld.keep Q25_start K27 (nin0))
        have F27_tolerance_b21 := (Fld.keep Q25_tolerance K27 (nin0))
        have F27_maxPasses_b21 := (Fld.keep Q25_maxPasses K27 (nin0))
        have F27_updates_b21 := (Fld.keep Q25_updates K27 (nin0))
        have F27_scale_b21 := (Fld.keep Q25_scale K27 (nin0))
        have F27_dangling_b21 := (Fld.keep Q25_dangling K27 (nin0))
        have F27_personal_b21 := (Fld.keep Q25_personal K27 (nin0))
        have X27_b21 := (Exa.keep X25_b21 K27)
        have X27_s23 := (Exa.keep X25_s23 K27)
        have O27 := (O25.keep K27 (all0))
        have P27 := (P25.trans K27 (all0))
        show Go _ _ _ _ _ _ _ _ _ _ _ h27 3 24 (mkF m 74 #[.val (.int p0), .val (.int p1), .val (.int p2), .val (.int a), .val (.int b), .val (.int (0 : Int32)), .val (.ref b21), .val (.ref s23), .val (.ref b21), .unset, .unset, .unset] [(.ref s26)]) _
        refine astore K at_74 rfl (Ls' := #[.val (.int p0), .val (.int p1), .val (.int p2), .val (.int a), .val (.int b), .val (.int (0 : Int32)), .val (.ref b21), .val (.ref s23), .val (.ref b21), .val (.ref s26), .unset, .unset]) rfl (pc' := 76) rfl ?_
        refine aload K at_76 rfl rfl (pc' := 78) rfl ?_
        refine callVirt K (y := (⟨"com/example/gauger/gauger/engine/PageRankSettings", "maxPasses", "()I"⟩ : MethodName)) (b := s23) (argsL := []) (S := []) (wd83 hw) (wd84 hw) (wd86 hw) (wd85 hw) (wd49 hw) (wd87 hw) (by decide) X27_s23 (c_get_maxPasses l Z a0 hw [] s23 (1000 : Int32) h27 n0 (Nat.le_trans Z0 P27.1) F27_maxPasses_s23) (lenOf pd5 rfl) at_78 rfl (Nat.le_of_ble_eq_true rfl) (Nat.le_of_ble_eq_true rfl) (Nat.le_of_ble_eq_true rfl) (Nat.le_of_ble_eq_true rfl) rfl (pc' := 81) rfl ?_
        rintro v28 h28 ⟨rfl, rfl⟩
        show Go _ _ _ _ _ _ _ _ _ _ _ h27 3 24 (mkF m 81 #[.val (.int p0), .val (.int p1), .val (.int p2), .val (.int a), .val (.int b), .val (.int (0 : Int32)), .val (.ref b21), .val (.ref s23), .val (.ref b21), .val (.ref s26), .unset, .unset] [(.int (1000 : Int32))]) _
        refine sipush K (1000 : Int32) at_81 (by decide) (pc' := 84) rfl ?_
        refine icY K at_84 (by decide) (pc' := 89) (by decide) (by decide) ?_
        refine aload K at_89 rfl rfl (pc' := 91) rfl ?_
        refine callVirt K (y := (⟨"com/example/gauger/gauger/engine/PageRankSettings", "maxPasses", "()I"⟩ : MethodName)) (b := s26) (argsL := []) (S := []) (wd83 hw) (wd84 hw) (wd86 hw) (wd85 hw) (wd49 hw) (wd87 hw) (by decide) X27_s26 (c_get_maxPasses l Z a0 hw [] s26 a h27 n0 (Nat.le_trans Z0 P27.1) Q27_maxPasses) (lenOf pd5 rfl) at_91 rfl (Nat.le_of_ble_eq_true rfl) (Nat.le_of_ble_eq_true rfl) (Nat.le_of_ble_eq_true rfl) (Nat.le_of_ble_eq_true rfl) rfl (pc' := 94) rfl ?_
        rintro v29 h29 ⟨rfl, rfl⟩
        show Go _ _ _ _ _ _ _ _ _ _ _ h27 3 24 (mkF m 94 #[.val (.int p0), .val (.int p1), .val (.int p2), .val (.int a), .val (.int b), .val (.int (0 : Int32)), .val (.ref b21), .val (.ref s23), .val (.ref b21), .val (.ref s26), .unset, .unset] [(.int a)]) _
        refine iloadN K at_94 rfl (pc' := 95) rfl ?_
        refine icY K at_95 (XT.ii_eq_t rfl) (pc' := 100) (by decide) (by decide) ?_
        refine aload K at_100 rfl rfl (pc' := 102) rfl ?_
        refine callVirt K (y := (⟨"com/example/gauger/gauger/engine/PageRankSettings", "damping", "()D"⟩ : MethodName)) (b := s26) (argsL := []) (S := []) (wd88 hw) (wd89 hw) (wd91 hw) (wd90 hw) (wd49 hw) (wd92 hw) (by decide) X27_s26 (c_get_damping l Z a0 hw [] s26 (4605831338911806259 : UInt64) h27 n0 (Nat.le_trans Z0 P27.1) Q27_damping) (lenOf pd6 rfl) at_102 rfl (Nat.le_of_ble_eq_true rfl) (Nat.le_of_ble_eq_true rfl) (Nat.le_of_ble_eq_true rfl) (Nat.le_of_ble_eq_true rfl) rfl (pc' := 105) rfl ?_
        rintro v30 h30 ⟨rfl, rfl⟩
        show Go _ _ _ _ _ _ _ _ _ _ _ h27 3 24 (mkF m 105 #[.val (.int p0), .val (.int p1), .val (.int p2), .val (.int a), .val (.int b), .val (.int (0 : Int32)), .val (.ref b21), .val (.ref s23), .val (.ref b21), .val (.ref s26), .unset, .unset] [(.double (4605831338911806259 : UInt64))]) _
        refine aload K at_105 rfl rfl (pc' := 107) rfl ?_
        refine callVirt K (y := (⟨"com/example/gauger/gauger/engine/PageRankSettings", "damping", "()D"⟩ : MethodName)) (b := s23) (argsL := []) (S := [(.double (4605831338911806259 : UInt64))]) (wd88 hw) (wd89 hw) (wd91 hw) (wd90 hw) (wd49 hw) (wd92 hw) (by decide) X27_s23 (c_get_damping l Z a0 hw [] s23 (4605831338911806259 : UInt64) h27 n0 (Nat.le_trans Z0 P27.1) F27_damping_s23) (lenOf pd6 rfl) at_107 rfl (Nat.le_of_ble_eq_true rfl) (Nat.le_of_ble_eq_true rfl) (Nat.le_of_ble_eq_true rfl) (Nat.le_of_ble_eq_true rfl) rfl (pc' := 110) rfl ?_
        rintro v31 h31 ⟨rfl, rfl⟩
        show Go _ _ _ _ _ _ _ _ _ _ _ h27 3 24 (mkF m 110 #[.val (.int p0), .val (.int p1), .val (.int p2), .val (.int a), .val (.int b), .val (.int (0 : Int32)), .val (.ref b21), .val (.ref s23), .val (.ref b21), .val (.ref s26), .unset, .unset] [(.double (4605831338911806259 : UInt64)), (.double (4605831338911806259 : UInt64))]) _
        refine dcmp K at_110 (pc' := 111) rfl ?_
        refine ifY K at_111 (by decide +kernel) (pc' := 116) (by decide) (by decide) ?_
        refine aload K at_116 rfl rfl (pc' := 118) rfl ?_
        refine callVirt K (y := (⟨"com/example/gauger/gauger/engine/PageRankSettings", "start", "()D"⟩ : MethodName)) (b := s26) (argsL := []) (S := []) (wd93 hw) (wd94 hw) (wd96 hw) (wd95 hw) (wd49 hw) (wd97 hw) (by decide) X27_s26 (c_get_start l Z a0 hw [] s26 (4607182418800017408 : UInt64) h27 n0 (Nat.le_trans Z0 P27.1) Q27_start) (lenOf pd6 rfl) at_118 rfl (Nat.le_of_ble_eq_true rfl) (Nat.le_of_ble_eq_true rfl) (Nat.le_of_ble_eq_true rfl) (Nat.le_of_ble_eq_true rfl) rfl (pc' := 121) rfl ?_
        rintro v32 h32 ⟨rfl, rfl⟩
        show Go _ _ _ _ _ _ _ _ _ _ _ h27 3 24 (mkF m 121 #[.val (.int p0), .val (.int p1), .val (.int p2), .val (.int a), .val (.int b), .val (.int (0 : Int32)), .val (.ref b21), .val (.ref s23), .val (.ref b21), .val (.ref s26), .unset, .unset] [(.double (4607182418800017408 : UInt64))]) _
        refine aload K at_121 rfl rfl (pc' := 123) rfl ?_
        refine callVirt K (y := (⟨"com/example/gauger/gauger/engine/PageRankSettings", "start", "()D"⟩ : MethodName)) (b := s23) (argsL := []) (S := [(.double (4607182418800017408 : UInt64))]) (wd93 hw) (wd94 hw) (wd96 hw) (wd95 hw) (wd49 hw) (wd97 hw) (by decide) X27_s23 (c_get_start l Z a0 hw [] s23 (4607182418800017408 : UInt64) h27 n0 (Nat.le_trans Z0 P27.1) F27_start_s23) (lenOf pd6 rfl) at_123 rfl (Nat.le_of_ble_eq_true rfl) (Nat.le_of_ble_eq_true rfl) (Nat.le_of_ble_eq_true rfl) (Nat.le_of_ble_eq_true rfl) rfl (pc' := 126) rfl ?_
        rintro v33 h33 ⟨rfl, rfl⟩
        show Go _ _ _ _ _ _ _ _ _ _ _ h27 3 24 (mkF m 126 #[.val (.int p0), .val (.int p1), .val (.int p2), .val (.int a), .val (.int b), .val (.int (0 : Int32)), .val (.ref b21), .val (.ref s23), .val (.ref b21), .val (.ref s26), .unset, .unset] [(.double (4607182418800017408 : UInt64)), (.double (4607182418800017408 : UInt64))]) _
        refine dcmp K at_126 (pc' := 127) rfl ?_
        refine ifY K at_127 (by decide +kernel) (pc' := 132) (by decide) (by decide) ?_
        refine aload K at_132 rfl rfl (pc' := 134) rfl ?_
        refine callVirt K (y := (⟨"com/example/gauger/gauger/engine/PageRankSettings", "tolerance", "()D"⟩ : MethodName)) (b := s26) (argsL := []) (S := []) (wd98 hw) (wd99 hw) (wd101 hw) (wd100 hw) (wd49 hw) (wd102 hw) (by decide) X27_s26 (c_get_tolerance l Z a0 hw [] s26 (4427486594234968593 : UInt64) h27 n0 (Nat.le_trans Z0 P27.1) Q27_tolerance) (lenOf pd6 rfl) at_134 rfl (Nat.le_of_ble_eq_true rfl) (Nat.le_of_ble_eq_true rfl) (Nat.le_of_ble_eq_true rfl) (Nat.le_of_ble_eq_true rfl) rfl (pc' := 137) rfl ?_
        rintro v34 h34 ⟨rfl, rfl⟩
        show Go _ _ _ _ _ _ _ _ _ _ _ h27 3 24 (mkF m 137 #[.val (.int p0), .val (.int p1), .val (.int p2), .val (.int a), .val (.int b), .val (.int (0 : Int32)), .val (.ref b21), .val (.ref s23), .val (.ref b21), .val (.ref s26), .unset, .unset] [(.double (4427486594234968593 : UInt64))]) _
        refine aload K at_137 rfl rfl (pc' := 139) rfl ?_
        refine callVirt K (y := (⟨"com/example/gauger/gauger/engine/PageRankSettings", "tolerance", "()D"⟩ : MethodName)) (b := s23) (argsL := []) (S := [(.double (4427486594234968593 : UInt64))]) (wd98 hw) (wd99 hw) (wd101 hw) (wd100 hw) (wd49 hw) (wd102 hw) (by decide) X27_s23 (c_get_tolerance l Z a0 hw [] s23 (4427486594234968593 : UInt64) h27 n0 (Nat.le_trans Z0 P27.1) F27_tolerance_s23) (lenOf pd6 rfl) at_139 rfl (Nat.le_of_ble_eq_true rfl) (Nat.le_of_ble_eq_true rfl) (Nat.le_of_ble_eq_true rfl) (Nat.le_of_ble_eq_true rfl) rfl (pc' := 142) rfl ?_
        rintro v35 h35 ⟨rfl, rfl⟩
        show Go _ _ _ _ _ _ _ _ _ _ _ h27 3 24 (mkF m 142 #[.val (.int p0), .val (.int p1), .val (.int p2), .val (.int a), .val (.int b), .val (.int (0 : Int32)), .val (.ref b21), .val (.ref s23), .val (.ref b21), .val (.ref s26), .unset, .unset] [(.double (4427486594234968593 : UInt64)), (.double (4427486594234968593 : UInt64))]) _
        refine dcmp K at_142 (pc' := 143) rfl ?_
        refine ifY K at_143 (by decide +kernel) (pc' := 148) (by decide) (by decide) ?_
        refine aload K at_148 rfl rfl (pc' := 150) rfl ?_
        refine callVirt K (y := (⟨"com/example/gauger/gauger/engine/PageRankSettings", "updates", "()Lcom/example/gauger/gauger/engine/Updates;"⟩ : MethodName)) (b := s26) (argsL := []) (S := []) (wd103 hw) (wd104 hw) (wd106 hw) (wd105 hw) (wd49 hw) (wd107 hw) (by decide) X27_s26 (c_get_updates l Z a0 hw [] s26 u1 h27 n0 (Nat.le_trans Z0 P27.1) Q27_updates) (lenOf pd7 rfl) at_150 rfl (Nat.le_of_ble_eq_true rfl) (Nat.le_of_ble_eq_true rfl) (Nat.le_of_ble_eq_true rfl) (Nat.le_of_ble_eq_true rfl) rfl (pc' := 153) rfl ?_
        rintro v36 h36 ⟨rfl, rfl⟩
        show Go _ _ _ _ _ _ _ _ _ _ _ h27 3 24 (mkF m 153 #[.val (.int p0), .val (.int p1), .val (.int p2), .val (.int a), .val (.int b), .val (.int (0 : Int32)), .val (.ref b21), .val (.ref s23), .val (.ref b21), .val (.ref s26), .unset, .unset] [(.ref u1)]) _
        refine aload K at_153 rfl rfl (pc' := 155) rfl ?_
        refine callVirt K (y := (⟨"com/example/gauger/gauger/engine/PageRankSettings", "updates", "()Lcom/example/gauger/gauger/engine/Updates;"⟩ : MethodName)) (b := s23) (argsL := []) (S := [(.ref u1)]) (wd103 hw) (wd104 hw) (wd106 hw) (wd105 hw) (wd49 hw) (wd107 hw) (by decide) X27_s23 (c_get_updates l Z a0 hw [] s23 u1 h27 n0 (Nat.le_trans Z0 P27.1) F27_updates_s23) (lenOf pd7 rfl) at_155 rfl (Nat.le_of_ble_eq_true rfl) (Nat.le_of_ble_eq_true rfl) (Nat.le_of_ble_eq_true rfl) (Nat.le_of_ble_eq_true rfl) rfl (pc' := 158) rfl ?_
        rintro v37 h37 ⟨rfl, rfl⟩
        show Go _ _ _ _ _ _ _ _ _ _ _ h27 3 24 (mkF m 158 #[.val (.int p0), .val (.int p1), .val (.int p2), .val (.int a), .val (.int b), .val (.int (0 : Int32)), .val (.ref b21), .val (.ref s23), .val (.ref b21), .val (.ref s26), .unset, .unset] [(.ref u1), (.ref u1)]) _
        refine acY K at_158 rfl rfl (XT.aa_eq_t rfl) (pc' := 163) (by decide) (by decide) ?_
        refine aload K at_163 rfl rfl (pc' := 165) rfl ?_
        refine callVirt K (y := (⟨"com/example/gauger/gauger/engine/PageRankSettings", "scale", "()Lcom/example/gauger/gauger/engine/Scale;"⟩ : MethodName)) (b := s26) (argsL := []) (S := []) (wd108 hw) (wd109 hw) (wd111 hw) (wd110 hw) (wd49 hw) (wd112 hw) (by decide) X27_s26 (c_get_scale l Z a0 hw [] s26 u2 h27 n0 (Nat.le_trans Z0 P27.1) Q27_scale) (lenOf pd8 rfl) at_165 rfl (Nat.le_of_ble_eq_true rfl) (Nat.le_of_ble_eq_true rfl) (Nat.le_of_ble_eq_true rfl) (Nat.le_of_ble_eq_true rfl) rfl (pc' := 168) rfl ?_
        rintro v38 h38 ⟨rfl, rfl⟩
        show Go _ _ _ _ _ _ _ _ _ _ _ h27 3 24 (mkF m 168 #[.val (.int p0), .val (.int p1), .val (.int p2), .val (.int a), .val (.int b), .val (.int (0 : Int32)), .val (.ref b21), .val (.ref s23), .val (.ref b21), .val (.ref s26), .unset, .unset] [(.ref u2)]) _
        refine aload K at_168 rfl rfl (pc' := 170) rfl ?_
        refine callVirt K (y := (⟨"com/example/gauger/gauger/engine/PageRankSettings", "scale", "()Lcom/example/gauger/gauger/engine/Scale;"⟩ : MethodName)) (b := s23) (argsL := []) (S := [(.ref u2)]) (wd108 hw) (wd109 hw) (wd111 hw) (wd110 hw) (wd49 hw) (wd112 hw) (by decide) X27_s23 (c_get_scale l Z a0 hw [] s23 u2 h27 n0 (Nat.le_trans Z0 P27.1) F27_scale_s23) (lenOf pd8 rfl) at_170 rfl (Nat.le_of_ble_eq_true rfl) (Nat.le_of_ble_eq_true rfl) (Nat.le_of_ble_eq_true rfl) (Nat.le_of_ble_eq_true rfl) rfl (pc' := 173) rfl ?_
        rintro v39 h39 ⟨rfl, rfl⟩
        show Go _ _ _ _ _ _ _ _ _ _ _ h27 3 24 (mkF m 173 #[.val (.int p0), .val (.int p1), .val (.int p2), .val (.int a), .val (.int b), .val (.int (0 : Int32)), .val (.ref b21), .val (.ref s23), .val (.ref b21), .val (.ref s26), .unset, .unset] [(.ref u2), (.ref u2)]) _
        refine acY K at_173 rfl rfl (XT.aa_eq_t rfl) (pc' := 178) (by decide) (by decide) ?_
        refine aload K at_178 rfl rfl (pc' := 180) rfl ?_
        refine callVirt K (y := (⟨"com/example/gauger/gauger/engine/PageRankSettings", "dangling", "()Lcom/example/gauger/gauger/engine/Dangling;"⟩ : MethodName)) (b := s26) (argsL := []) (S := []) (wd113 hw) (wd114 hw) (wd116 hw) (wd115 hw) (wd49 hw) (wd117 hw) (by decide) X27_s26 (c_get_dangling l Z a0 hw [] s26 u3 h27 n0 (Nat.le_trans Z0 P27.1) Q27_dangling) (lenOf pd9 rfl) at_180 rfl (Nat.le_of_ble_eq_true rfl) (Nat.le_of_ble_eq_true rfl) (Nat.le_of_ble_eq_true rfl) (Nat.le_of_ble_eq_true rfl) rfl (pc' := 183) rfl ?_
        rintro v40 h40 ⟨rfl, rfl⟩
        show Go _ _ _ _ _ _ _ _ _ _ _ h27 3 24 (mkF m 183 #[.val (.int p0), .val (.int p1), .val (.int p2), .val (.int a), .val (.int b), .val (.int (0 : Int32)), .val (.ref b21), .val (.ref s23), .val (.ref b21), .val (.ref s26), .unset, .unset] [(.ref u3)]) _
        refine aload K at_183 rfl rfl (pc' := 185) rfl ?_
        refine callVirt K (y := (⟨"com/example/gauger/gauger/engine/PageRankSettings", "dangling", "()Lcom/example/gauger/gauger/engine/Dangling;"⟩ : MethodName)) (b := s23) (argsL := []) (S := [(.ref u3)]) (wd113 hw) (wd114 hw) (wd116 hw) (wd115 hw) (wd49 hw) (wd117 hw) (by decide) X27_s23 (c_get_dangling l Z a0 hw [] s23 u3 h27 n0 (Nat.le_trans Z0 P27.1) F27_dangling_s23) (lenOf pd9 rfl) at_185 rfl (Nat.le_of_ble_eq_true rfl) (Nat.le_of_ble_eq_true rfl) (Nat.le_of_ble_eq_true rfl) (Nat.le_of_ble_eq_true rfl) rfl (pc' := 188) rfl ?_
        rintro v41 h41 ⟨rfl, rfl⟩
        show Go _ _ _ _ _ _ _ _ _ _ _ h27 3 24 (mkF m 188 #[.val (.int p0), .val (.int p1), .val (.int p2), .val (.int a), .val (.int b), .val (.int (0 : Int32)), .val (.ref b21), .val (.ref s23), .val (.ref b21), .val (.ref s26), .unset, .unset] [(.ref u3), (.ref u3)]) _
        refine acY K at_188 rfl rfl (XT.aa_eq_t rfl) (pc' := 193) (by decide) (by decide) ?_
        refine aload K at_193 rfl rfl (pc' := 195) rfl ?_
        refine callVirt K (y := (⟨"com/example/gauger/gauger/engine/PageRankSettings", "personal", "()Ljava/util/Set;"⟩ : MethodName)) (b := s26) (argsL := []) (S := []) (wd118 hw) (wd119 hw) (wd121 hw) (wd120 hw) (wd49 hw) (wd122 hw) (by decide) X27_s26 (c_get_personal l Z a0 hw [] s26 u4 h27 n0 (Nat.le_trans Z0 P27.1) Q27_personal) (lenOf pd0 rfl) at_195 rfl (Nat.le_of_ble_eq_true rfl) (Nat.le_of_ble_eq_true rfl) (Nat.le_of_ble_eq_true rfl) (Nat.le_of_ble_eq_true rfl) rfl (pc' := 198) rfl ?_
        rintro v42 h42 ⟨rfl, rfl⟩
        show Go _ _ _ _ _ _ _ _ _ _ _ h27 3 24 (mkF m 198 #[.val (.int p0), .val (.int p1), .val (.int p2), .val (.int a), .val (.int b), .val (.int (0 : Int32)), .val (.ref b21), .val (.ref s23), .val (.ref b21), .val (.ref s26), .unset, .unset] [(.ref u4)]) _
        refine aload K at_198 rfl rfl (pc' := 200) rfl ?_
        refine callVirt K (y := (⟨"com/example/gauger/gauger/engine/PageRankSettings", "personal", "()Ljava/util/Set;"⟩ : MethodName)) (b := s23) (argsL := []) (S := [(.ref u4)]) (wd118 hw) (wd119 hw) (wd121 hw) (wd120 hw) (wd49 hw) (wd122 hw) (by decide) X27_s23 (c_get_personal l Z a0 hw [] s23 u4 h27 n0 (Nat.le_trans Z0 P27.1) F27_personal_s23) (lenOf pd0 rfl) at_200 rfl (Nat.le_of_ble_eq_true rfl) (Nat.le_of_ble_eq_true rfl) (Nat.le_of_ble_eq_true rfl) (Nat.le_of_ble_eq_true rfl) rfl (pc' := 203) rfl ?_
        rintro v43 h43 ⟨rfl, rfl⟩
        show Go _ _ _ _ _ _ _ _ _ _ _ h27 3 24 (mkF m 203 #[.val (.int p0), .val (.int p1), .val (.int p2), .val (.int a), .val (.int b), .val (.int (0 : Int32)), .val (.ref b21), .val (.ref s23), .val (.ref b21), .val (.ref s26), .unset, .unset] [(.ref u4), (.ref u4)]) _
        refine acY K at_203 rfl rfl (XT.aa_eq_t rfl) (pc' := 208) (by decide) (by decide) ?_
        refine iload K at_208 rfl (pc' := 210) rfl ?_
        refine ifY K at_210 (by decide) (pc' := 261) (by decide) (by decide) ?_
        refine iconst K (1 : Int32) at_261 (by decide) (pc' := 262) rfl ?_
        refine retB K (t := .boolean) rfl (by simp) at_262 (Nat.le_of_ble_eq_true rfl) (Nat.le_of_ble_eq_true rfl) ?_
        rfl
      · refine ifN K at_26 (XT.i0_eq_f c3) (pc' := 29) rfl ?_
        refine iconst K (1 : Int32) at_29 (by decide) (pc' := 30) rfl ?_
        refine goto' K at_30 (pc' := 34) (by decide) (by decide) ?_
        refine istore K at_34 (Ls' := #[.val (.int p0), .val (.int p1), .val (.int p2), .val (.int a), .val (.int b), .val (.int (1 : Int32)), .unset, .unset, .unset, .unset, .unset, .unset]) rfl (pc' := 36) rfl ?_
        refine newObj K (wd0 hw) (wd1 hw) (wd2 hw) at_36 (by decide) (by decide) (pc' := 39) rfl ?_
        intro h44 b44 g44 E44 A44 D44
        have lt_b44 : h0.size ≤ b44 := Nat.le_trans P0.1 (Nat.le_of_eq g44.symm)
        have ge_b44 : n0 ≤ b44 := Nat.le_trans Z0 lt_b44
        have O44 := (O0.ext E44)
        have P44 := (P0.ext E44)
        have F44_damping_b44 : Fld Z h44 b44 "com/example/gauger/gauger/engine/PageRankSettings$Builder" "damping" "D" (.double (0 : UInt64)) := D44 (Or.inl (wd11 hw)) (ty := .double) (by decide)
        have F44_start_b44 : Fld Z h44 b44 "com/example/gauger/gauger/engine/PageRankSettings$Builder" "start" "D" (.double (0 : UInt64)) := D44 (Or.inl (wd13 hw)) (ty := .double) (by decide)
        have F44_tolerance_b44 : Fld Z h44 b44 "com/example/gauger/gauger/engine/PageRankSettings$Builder" "tolerance" "D" (.double (0 : UInt64)) := D44 (Or.inl (wd16 hw)) (ty := .double) (by decide)
        have F44_maxPasses_b44 : Fld Z h44 b44 "com/example/gauger/gauger/engine/PageRankSettings$Builder" "maxPasses" "I" (.int (0 : Int32)) := D44 (Or.inl (wd18 hw)) (ty := .int) (by decide)
        have F44_updates_b44 : Fld Z h44 b44 "com/example/gauger/gauger/engine/PageRankSettings$Builder" "updates" "Lcom/example/gauger/gauger/engine/Updates;" .null := D44 (Or.inl (wd23 hw)) (ty := (.object "com/example/gauger/gauger/engine/Updates")) (by decide)
        have F44_scale_b44 : Fld Z h44 b44 "com/example/gauger/gauger/engine/PageRankSettings$Builder" "scale" "Lcom/example/gauger/gauger/engine/Scale;" .null := D44 (Or.inl (wd28 hw)) (ty := (.object "com/example/gauger/gauger/engine/Scale")) (by decide)
        have F44_dangling_b44 : Fld Z h44 b44 "com/example/gauger/gauger/engine/PageRankSettings$Builder" "dangling" "Lcom/example/gauger/gauger/engine/Dangling;" .null := D44 (Or.inl (wd33 hw)) (ty := (.object "com/example/gauger/gauger/engine/Dangling")) (by decide)
        have F44_personal_b44 : Fld Z h44 b44 "com/example/gauger/gauger/engine/PageRankSettings$Builder" "personal" "Ljava/util/Set;" .null := D44 (Or.inl (wd41 hw)) (ty := (.object "java/util/Set")) (by decide)
        refine dup K at_39 rfl (pc' := 40) rfl ?_
        refine callInit K (y := (⟨"com/example/gauger/gauger/engine/PageRankSettings$Builder", "<init>", "()V"⟩ : MethodName)) (b := b44) (argsL := []) (S := [(.ref b44)]) rfl (wd3 hw) (wd4 hw) (wd2 hw) (wd5 hw) rfl (by decide) (c_binit l Z a0 hw [] b44 u1 u2 u3 u4 h44 n0 (Nat.le_trans Z0 P44.1) S_u1 S_u2 S_u3 S_u4 O44 A44 ge_b44 F44_damping_b44 F44_start_b44 F44_tolerance_b44 F44_maxPasses_b44 F44_updates_b44 F44_scale_b44 F44_dangling_b44 F44_personal_b44) (lenOf pd2 rfl) at_40 rfl (Nat.le_of_ble_eq_true rfl) (Nat.le_of_ble_eq_true rfl) (Nat.le_of_ble_eq_true rfl) (Nat.le_of_ble_eq_true rfl) rfl (pc' := 43) rfl ?_
        rintro v45 h45 ⟨rfl, K45, Q45_damping, Q45_start, Q45_tolerance, Q45_maxPasses, Q45_updates, Q45_scale, Q45_dangling, Q45_personal⟩
        have X45_b44 := (Exa.keep A44 K45)
        have O45 := (O44.keep K45 (allS ge_b44 (all0)))
        have P45 := (P44.trans K45 (allS (Or.inr lt_b44) (all0)))
        show Go _ _ _ _ _ _ _ _ _ _ _ h45 1 8 (mkF m 43 #[.val (.int p0), .val (.int p1), .val (.int p2), .val (.int a), .val (.int b), .val (.int (1 : Int32)), .unset, .unset, .unset, .unset, .unset, .unset] [(.ref b44)]) _
        refine astore K at_43 rfl (Ls' := #[.val (.int p0), .val (.int p1), .val (.int p2), .val (.int a), .val (.int b), .val (.int (1 : Int32)), .val (.ref b44), .unset, .unset, .unset, .unset, .unset]) rfl (pc' := 45) rfl ?_
        refine aload K at_45 rfl rfl (pc' := 47) rfl ?_
        refine callVirt K (y := (⟨"com/example/gauger/gauger/engine/PageRankSettings$Builder", "build", "()Lcom/example/gauger/gauger/engine/PageRankSettings;"⟩ : MethodName)) (b := b44) (argsL := []) (S := []) (wd42 hw) (wd43 hw) (wd45 hw) (wd44 hw) (wd2 hw) (wd46 hw) (by decide) X45_b44 (c_build l Z a0 hw [] b44 (4605831338911806259 : UInt64) (4607182418800017408 : UInt64) (4427486594234968593 : UInt64) (1000 : Int32) u1 u2 u3 u4 h45 n0 (Nat.le_trans Z0 P45.1) Q45_damping Q45_start Q45_tolerance Q45_maxPasses Q45_updates Q45_scale Q45_dangling Q45_personal) (lenOf pd3 rfl) at_47 rfl (Nat.le_of_ble_eq_true rfl) (Nat.le_of_ble_eq_true rfl) (Nat.le_of_ble_eq_true rfl) (Nat.le_of_ble_eq_true rfl) rfl (pc' := 50) rfl ?_
        rintro v47 h47 ⟨rfl, K47, X47_s46, Q47_damping, Q47_start, Q47_tolerance, Q47_maxPasses, Q47_updates, Q47_scale, Q47_dangling, Q47_personal⟩
        obtain ⟨s46, gs46⟩ : ∃ z, z = h45.size := ⟨_, rfl⟩
        rw [← gs46] at X47_s46 Q47_damping Q47_start Q47_tolerance Q47_maxPasses Q47_updates Q47_scale Q47_dangling Q47_personal ⊢
        have ne_b44_s46 : b44 ≠ s46 := Nat.ne_of_lt (Nat.lt_of_lt_of_eq (Exa.lt X45_b44) gs46.symm)
        have lt_s46 : h0.size ≤ s46 := Nat.le_trans P45.1 (Nat.le_of_eq gs46.symm)
        have ge_s46 : n0 ≤ s46 := Nat.le_trans Z0 lt_s46
        have F47_damping_b44 := (Fld.keep Q45_damping K47 (nin0))
        have F47_start_b44 := (Fld.keep Q45_start K47 (nin0))
        have F47_tolerance_b44 := (Fld.keep Q45_tolerance K47 (nin0))
        have F47_maxPasses_b44 := (Fld.keep Q45_maxPasses K47 (nin0))
        have F47_updates_b44 := (Fld.keep Q45_updates K47 (nin0))
        have F47_scale_b44 := (Fld.keep Q45_scale K47 (nin0))
        have F47_dangling_b44 := (Fld.keep Q45_dangling K47 (nin0))
        have F47_personal_b44 := (Fld.keep Q45_personal K47 (nin0))
        have X47_b44 := (Exa.keep X45_b44 K47)
        have O47 := (O45.keep K47 (all0))
        have P47 := (P45.trans K47 (all0))
        show Go _ _ _ _ _ _ _ _ _ _ _ h47 2 16 (mkF m 50 #[.val (.int p0), .val (.int p1), .val (.int p2), .val (.int a), .val (.int b), .val (.int (1 : Int32)), .val (.ref b44), .unset, .unset, .unset, .unset, .unset] [(.ref s46)]) _
        refine astore K at_50 rfl (Ls' := #[.val (.int p0), .val (.int p1), .val (.int p2), .val (.int a), .val (.int b), .val (.int (1 : Int32)), .val (.ref b44), .val (.ref s46), .unset, .unset, .unset, .unset]) rfl (pc' := 52) rfl ?_
        refine aload K at_52 rfl rfl (pc' := 54) rfl ?_
        refine iloadN K at_54 rfl (pc' := 55) rfl ?_
        refine callVirt K (y := (⟨"com/example/gauger/gauger/engine/PageRankSettings$Builder", "maxPasses", "(I)Lcom/example/gauger/gauger/engine/PageRankSettings$Builder;"⟩ : MethodName)) (b := b44) (argsL := [(.int a)]) (S := []) (wd78 hw) (wd79 hw) (wd81 hw) (wd80 hw) (wd2 hw) (wd82 hw) (by decide) X47_b44 (c_set_maxPasses l Z a0 hw [] b44 a (4605831338911806259 : UInt64) (4607182418800017408 : UInt64) (4427486594234968593 : UInt64) (1000 : Int32) u1 u2 u3 u4 h47 n0 (Nat.le_trans Z0 P47.1) ha X47_b44 ge_b44 F47_damping_b44 F47_start_b44 F47_tolerance_b44 F47_maxPasses_b44 F47_updates_b44 F47_scale_b44 F47_dangling_b44 F47_personal_b44) (lenOf pd4 rfl) at_55 rfl (Nat.le_of_ble_eq_true rfl) (Nat.le_of_ble_eq_true rfl) (Nat.le_of_ble_eq_true rfl) (Nat.le_of_ble_eq_true rfl) rfl (pc' := 58) rfl ?_
        rintro v48 h48 ⟨rfl, K48, Q48_damping, Q48_start, Q48_tolerance, Q48_maxPasses, Q48_updates, Q48_scale, Q48_dangling, Q48_personal⟩
        have F48_damping_s46 := (Fld.keep Q47_damping K48 (ninS (Ne.symm ne_b44_s46) (nin0)))
        have F48_start_s46 := (Fld.keep Q47_start K48 (ninS (Ne.symm ne_b44_s46) (nin0)))
        have F48_tolerance_s46 := (Fld.keep Q47_tolerance K48 (ninS (Ne.symm ne_b44_s46) (nin0)))
        have F48_maxPasses_s46 := (Fld.keep Q47_maxPasses K48 (ninS (Ne.symm ne_b44_s46) (nin0)))
        have F48_updates_s46 := (Fld.keep Q47_updates K48 (ninS (Ne.symm ne_b44_s46) (nin0)))
        have F48_scale_s46 := (Fld.keep Q47_scale K48 (ninS (Ne.symm ne_b44_s46) (nin0)))
        have F48_dangling_s46 := (Fld.keep Q47_dangling K48 (ninS (Ne.symm ne_b44_s46) (nin0)))
        have F48_personal_s46 := (Fld.keep Q47_personal K48 (ninS (Ne.symm ne_b44_s46) (nin0)))
        have X48_b44 := (Exa.keep X47_b44 K48)
        have X48_s46 := (Exa.keep X47_s46 K48)
        have O48 := (O47.keep K48 (allS ge_b44 (all0)))
        have P48 := (P47.trans K48 (allS (Or.inr lt_b44) (all0)))
        show Go _ _ _ _ _ _ _ _ _ _ _ h48 2 16 (mkF m 58 #[.val (.int p0), .val (.int p1), .val (.int p2), .val (.int a), .val (.int b), .val (.int (1 : Int32)), .val (.ref b44), .val (.ref s46), .unset, .unset, .unset, .unset] [(.ref b44)]) _
        refine astore K at_58 rfl (Ls' := #[.val (.int p0), .val (.int p1), .val (.int p2), .val (.int a), .val (.int b), .val (.int (1 : Int32)), .val (.ref b44), .val (.ref s46), .val (.ref b44), .unset, .unset, .unset]) rfl (pc' := 60) rfl ?_
        refine aload K at_60 rfl rfl (pc' := 62) rfl ?_
        refine aload K at_62 rfl rfl (pc' := 64) rfl ?_
        refine acY K at_64 rfl rfl (XT.aa_eq_t rfl) (pc' := 69) (by decide) (by decide) ?_
        refine aload K at_69 rfl rfl (pc' := 71) rfl ?_
        refine callVirt K (y := (⟨"com/example/gauger/gauger/engine/PageRankSettings$Builder", "build", "()Lcom/example/gauger/gauger/engine/PageRankSettings;"⟩ : MethodName)) (b := b44) (argsL := []) (S := []) (wd42 hw) (wd43 hw) (wd45 hw) (wd44 hw) (wd2 hw) (wd46 hw) (by decide) X48_b44 (c_build l Z a0 hw [] b44 (4605831338911806259 : UInt64) (4607182418800017408 : UInt64) (4427486594234968593 : UInt64) a u1 u2 u3 u4 h48 n0 (Nat.le_trans Z0 P48.1) Q48_damping Q48_start Q48_tolerance Q48_maxPasses Q48_updates Q48_scale Q48_dangling Q48_personal) (lenOf pd3 rfl) at_71 rfl (Nat.le_of_ble_eq_true rfl) (Nat.le_of_ble_eq_true rfl) (Nat.le_of_ble_eq_true rfl) (Nat.le_of_ble_eq_true rfl) rfl (pc' := 74) rfl ?_
        rintro v50 h50 ⟨rfl, K50, X50_s49, Q50_damping, Q50_start, Q50_tolerance, Q50_maxPasses, Q50_updates, Q50_scale, Q50_dangling, Q50_personal⟩
        obtain ⟨s49, gs49⟩ : ∃ z, z = h48.size := ⟨_, rfl⟩
        rw [← gs49] at X50_s49 Q50_damping Q50_start Q50_tolerance Q50_maxPasses Q50_updates Q50_scale Q50_dangling Q50_personal ⊢
        have ne_s46_s49 : s46 ≠ s49 := Nat.ne_of_lt (Nat.lt_of_lt_of_eq (Exa.lt X48_s46) gs49.symm)
        have ne_b44_s49 : b44 ≠ s49 := Nat.ne_of_lt (Nat.lt_of_lt_of_eq (Exa.lt X48_b44) gs49.symm)
        have lt_s49 : h0.size ≤ s49 := Nat.le_trans P48.1 (Nat.le_of_eq gs49.symm)
        have ge_s49 : n0 ≤ s49 := Nat.le_trans Z0 lt_s49
        have F50_damping_s46 := (Fld.keep F48_damping_s46 K50 (nin0))
        have F50_start_s46 := (Fld.keep F48_start_s46 K50 (nin0))
        have F50_tolerance_s46 := (Fld.keep F48_tolerance_s46 K50 (nin0))
        have F50_maxPasses_s46 := (Fld.keep F48_maxPasses_s46 K50 (nin0))
        have F50_updates_s46 := (Fld.keep F48_updates_s46 K50 (nin0))
        have F50_scale_s46 := (Fld.keep F48_scale_s46 K50 (nin0))
        have F50_dangling_s46 := (Fld.keep F48_dangling_s46 K50 (nin0))
        have F50_personal_s46 := (Fld.keep F48_personal_s46 K50 (nin0))
        have F50_damping_b44 := (Fld.keep Q48_damping K50 (nin0))
        have F50_start_b44 := (Fld.keep Q48_start K50 (nin0))
        have F50_tolerance_b44 := (Fld.keep Q48_tolerance K50 (nin0))
        have F50_maxPasses_b44 := (Fld.keep Q48_maxPasses K50 (nin0))
        have F50_updates_b44 := (Fld.keep Q48_updates K50 (nin0))
        have F50_scale_b44 := (Fld.keep Q48_scale K50 (nin0))
        have F50_dangling_b44 := (Fld.keep Q48_dangling K50 (nin0))
        have F50_personal_b44 := (Fld.keep Q48_personal K50 (nin0))
        have X50_b44 := (Exa.keep X48_b44 K50)
        have X50_s46 := (Exa.keep X48_s46 K50)
        have O50 := (O48.keep K50 (all0))
        have P50 := (P48.trans K50 (all0))
        show Go _ _ _ _ _ _ _ _ _ _ _ h50 3 24 (mkF m 74 #[.val (.int p0), .val (.int p1), .val (.int p2), .val (.int a), .val (.int b), .val (.int (1 : Int32)), .val (.ref b44), .val (.ref s46), .val (.ref b44), .unset, .unset, .unset] [(.ref s49)]) _
        refine astore K at_74 rfl (Ls' := #[.val (.int p0), .val (.int p1), .val (.int p2), .val (.int a), .val (.int b), .val (.int (1 : Int32)), .val (.ref b44), .val (.ref s46), .val (.ref b44), .val (.ref s49), .unset, .unset]) rfl (pc' := 76) rfl ?_
        refine aload K at_76 rfl rfl (pc' := 78) rfl ?_
        refine callVirt K (y := (⟨"com/example/gauger/gauger/engine/PageRankSettings", "maxPasses", "()I"⟩ : MethodName)) (b := s46) (argsL := []) (S := []) (wd83 hw) (wd84 hw) (wd86 hw) (wd85 hw) (wd49 hw) (wd87 hw) (by decide) X50_s46 (c_get_maxPasses l Z a0 hw [] s46 (1000 : Int32) h50 n0 (Nat.le_trans Z0 P50.1) F50_maxPasses_s46) (lenOf pd5 rfl) at_78 rfl (Nat.le_of_ble_eq_true rfl) (Nat.le_of_ble_eq_true rfl) (Nat.le_of_ble_eq_true rfl) (Nat.le_of_ble_eq_true rfl) rfl (pc' := 81) rfl ?_
        rintro v51 h51 ⟨rfl, rfl⟩
        show Go _ _ _ _ _ _ _ _ _ _ _ h50 3 24 (mkF m 81 #[.val (.int p0), .val (.int p1), .val (.int p2), .val (.int a), .val (.int b), .val (.int (1 : Int32)), .val (.ref b44), .val (.ref s46), .val (.ref b44), .val (.ref s49), .unset, .unset] [(.int (1000 : Int32))]) _
        refine sipush K (1000 : Int32) at_81 (by decide) (pc' := 84) rfl ?_
        refine icY K at_84 (by decide) (pc' := 89) (by decide) (by decide) ?_
        refine aload K at_89 rfl rfl (pc' := 91) rfl ?_
        refine callVirt K (y := (⟨"com/example/gauger/gauger/engine/PageRankSettings", "maxPasses", "()I"⟩ : MethodName)) (b := s49) (argsL := []) (S := []) (wd83 hw) (wd84 hw) (wd86 hw) (wd85 hw) (wd49 hw) (wd87 hw) (by decide) X50_s49 (c_get_maxPasses l Z a0 hw [] s49 a h50 n0 (Nat.le_trans Z0 P50.1) Q50_maxPasses) (lenOf pd5 rfl) at_91 rfl (Nat.le_of_ble_eq_true rfl) (Nat.le_of_ble_eq_true rfl) (Nat.le_of_ble_eq_true rfl) (Nat.le_of_ble_eq_true rfl) rfl (pc' := 94) rfl ?_
        rintro v52 h52 ⟨rfl, rfl⟩
        show Go _ _ _ _ _ _ _ _ _ _ _ h50 3 24 (mkF m 94 #[.val (.int p0), .val (.int p1), .val (.int p2), .val (.int a), .val (.int b), .val (.int (1 : Int32)), .val (.ref b44), .val (.ref s46), .val (.ref b44), .val (.ref s49), .unset, .unset] [(.int a)]) _
        refine iloadN K at_94 rfl (pc' := 95) rfl ?_
        refine icY K at_95 (XT.ii_eq_t rfl) (pc' := 100) (by decide) (by decide) ?_
        refine aload K at_100 rfl rfl (pc' := 102) rfl ?_
        refine callVirt K (y := (⟨"com/example/gauger/gauger/engine/PageRankSettings", "damping", "()D"⟩ : MethodName)) (b := s49) (argsL := []) (S := []) (wd88 hw) (wd89 hw) (wd91 hw) (wd90 hw) (wd49 hw) (wd92 hw) (by decide) X50_s49 (c_get_damping l Z a0 hw [] s49 (4605831338911806259 : UInt64) h50 n0 (Nat.le_trans Z0 P50.1) Q50_damping) (lenOf pd6 rfl) at_102 rfl (Nat.le_of_ble_eq_true rfl) (Nat.le_of_ble_eq_true rfl) (Nat.le_of_ble_eq_true rfl) (Nat.le_of_ble_eq_true rfl) rfl (pc' := 105) rfl ?_
        rintro v53 h53 ⟨rfl, rfl⟩
        show Go _ _ _ _ _ _ _ _ _ _ _ h50 3 24 (mkF m 105 #[.val (.int p0), .val (.int p1), .val (.int p2), .val (.int a), .val (.int b), .val (.int (1 : Int32)), .val (.ref b44), .val (.ref s46), .val (.ref b44), .val (.ref s49), .unset, .unset] [(.double (4605831338911806259 : UInt64))]) _
        refine aload K at_105 rfl rfl (pc' := 107) rfl ?_
        refine callVirt K (y := (⟨"com/example/gauger/gauger/engine/PageRankSettings", "damping", "()D"⟩ : MethodName)) (b := s46) (argsL := []) (S := [(.double (4605831338911806259 : UInt64))]) (wd88 hw) (wd89 hw) (wd91 hw) (wd90 hw) (wd49 hw) (wd92 hw) (by decide) X50_s46 (c_get_damping l Z a0 hw [] s46 (4605831338911806259 : UInt64) h50 n0 (Nat.le_trans Z0 P50.1) F50_damping_s46) (lenOf pd6 rfl) at_107 rfl (Nat.le_of_ble_eq_true rfl) (Nat.le_of_ble_eq_true rfl) (Nat.le_of_ble_eq_true rfl) (Nat.le_of_ble_eq_true rfl) rfl (pc' := 110) rfl ?_
        rintro v54 h54 ⟨rfl, rfl⟩
        show Go _ _ _ _ _ _ _ _ _ _ _ h50 3 24 (mkF m 110 #[.val (.int p0), .val (.int p1), .val (.int p2), .val (.int a), .val (.int b), .val (.int (1 : Int32)), .val (.ref b44), .val (.ref s46), .val (.ref b44), .val (.ref s49), .unset, .unset] [(.double (4605831338911806259 : UInt64)), (.double (4605831338911806259 : UInt64))]) _
        refine dcmp K at_110 (pc' := 111) rfl ?_
        refine ifY K at_111 (by decide +kernel) (pc' := 116) (by decide) (by decide) ?_
        refine aload K at_116 rfl rfl (pc' := 118) rfl ?_
        refine callVirt K (y := (⟨"com/example/gauger/gauger/engine/PageRankSettings", "start", "()D"⟩ : MethodName)) (b := s49) (argsL := []) (S := []) (wd93 hw) (wd94 hw) (wd96 hw) (wd95 hw) (wd49 hw) (wd97 hw) (by decide) X50_s49 (c_get_start l Z a0 hw [] s49 (4607182418800017408 : UInt64) h50 n0 (Nat.le_trans Z0 P50.1) Q50_start) (lenOf pd6 rfl) at_118 rfl (Nat.le_of_ble_eq_true rfl) (Nat.le_of_ble_eq_true rfl) (Nat.le_of_ble_eq_true rfl) (Nat.le_of_ble_eq_true rfl) rfl (pc' := 121) rfl ?_
        rintro v55 h55 ⟨rfl, rfl⟩
        show Go _ _ _ _ _ _ _ _ _ _ _ h50 3 24 (mkF m 121 #[.val (.int p0), .val (.int p1), .val (.int p2), .val (.int a), .val (.int b), .val (.int (1 : Int32)), .val (.ref b44), .val (.ref s46), .val (.ref b44), .val (.ref s49), .unset, .unset] [(.double (4607182418800017408 : UInt64))]) _
        refine aload K at_121 rfl rfl (pc' := 123) rfl ?_
        refine callVirt K (y := (⟨"com/example/gauger/gauger/engine/PageRankSettings", "start", "()D"⟩ : MethodName)) (b := s46) (argsL := []) (S := [(.double (4607182418800017408 : UInt64))]) (wd93 hw) (wd94 hw) (wd96 hw) (wd95 hw) (wd49 hw) (wd97 hw) (by decide) X50_s46 (c_get_start l Z a0 hw [] s46 (4607182418800017408 : UInt64) h50 n0 (Nat.le_trans Z0 P50.1) F50_start_s46) (lenOf pd6 rfl) at_123 rfl (Nat.le_of_ble_eq_true rfl) (Nat.le_of_ble_eq_true rfl) (Nat.le_of_ble_eq_true rfl) (Nat.le_of_ble_eq_true rfl) rfl (pc' := 126) rfl ?_
        rintro v56 h56 ⟨rfl, rfl⟩
        show Go _ _ _ _ _ _ _ _ _ _ _ h50 3 24 (mkF m 126 #[.val (.int p0), .val (.int p1), .val (.int p2), .val (.int a), .val (.int b), .val (.int (1 : Int32)), .val (.ref b44), .val (.ref s46), .val (.ref b44), .val (.ref s49), .unset, .unset] [(.double (4607182418800017408 : UInt64)), (.double (4607182418800017408 : UInt64))]) _
        refine dcmp K at_126 (pc' := 127) rfl ?_
        refine ifY K at_127 (by decide +kernel) (pc' := 132) (by decide) (by decide) ?_
        refine aload K at_132 rfl rfl (pc' := 134) rfl ?_
        refine callVirt K (y := (⟨"com/example/gauger/gauger/engine/PageRankSettings", "tolerance", "()D"⟩ : MethodName)) (b := s49) (argsL := []) (S := []) (wd98 hw) (wd99 hw) (wd101 hw) (wd100 hw) (wd49 hw) (wd102 hw) (by decide) X50_s49 (c_get_tolerance l Z a0 hw [] s49 (4427486594234968593 : UInt64) h50 n0 (Nat.le_trans Z0 P50.1) Q50_tolerance) (lenOf pd6 rfl) at_134 rfl (Nat.le_of_ble_eq_true rfl) (Nat.le_of_ble_eq_true rfl) (Nat.le_of_ble_eq_true rfl) (Nat.le_of_ble_eq_true rfl) rfl (pc' := 137) rfl ?_
        rintro v57 h57 ⟨rfl, rfl⟩
        show Go _ _ _ _ _ _ _ _ _ _ _ h50 3 24 (mkF m 137 #[.val (.int p0), .val (.int p1), .val (.int p2), .val (.int a), .val (.int b), .val (.int (1 : Int32)), .val (.ref b44), .val (.ref s46), .val (.ref b44), .val (.ref s49), .unset, .unset] [(.double (4427486594234968593 : UInt64))]) _
        refine aload K at_137 rfl rfl (pc' := 139) rfl ?_
        refine callVirt K (y := (⟨"com/example/gauger/gauger/engine/PageRankSettings", "tolerance", "()D"⟩ : MethodName)) (b := s46) (argsL := []) (S := [(.double (4427486594234968593 : UInt64))]) (wd98 hw) (wd99 hw) (wd101 hw) (wd100 hw) (wd49 hw) (wd102 hw) (by decide) X50_s46 (c_get_tolerance l Z a0 hw [] s46 (4427486594234968593 : UInt64) h50 n0 (Nat.le_trans Z0 P50.1) F50_tolerance_s46) (lenOf pd6 rfl) at_139 rfl (Nat.le_of_ble_eq_true rfl) (Nat.le_of_ble_eq_true rfl) (Nat.le_of_ble_eq_true rfl) (Nat.le_of_ble_eq_true rfl) rfl (pc' := 142) rfl ?_
        rintro v58 h58 ⟨rfl, rfl⟩
        show Go _ _ _ _ _ _ _ _ _ _ _ h50 3 24 (mkF m 142 #[.val (.int p0), .val (.int p1), .val (.int p2), .val (.int a), .val (.int b), .val (.int (1 : Int32)), .val (.ref b44), .val (.ref s46), .val (.ref b44), .val (.ref s49), .unset, .unset] [(.double (4427486594234968593 : UInt64)), (.double (4427486594234968593 : UInt64))]) _
        refine dcmp K at_142 (pc' := 143) rfl ?_
        refine ifY K at_143 (by decide +kernel) (pc' := 148) (by decide) (by decide) ?_
        refine aload K at_148 rfl rfl (pc' := 150) rfl ?_
        refine callVirt K (y := (⟨"com/example/gauger/gauger/engine/PageRankSettings", "updates", "()Lcom/example/gauger/gauger/engine/Updates;"⟩ : MethodName)) (b := s49) (argsL := []) (S := []) (wd103 hw) (wd104 hw) (wd106 hw) (wd105 hw) (wd49 hw) (wd107 hw) (by decide) X50_s49 (c_get_updates l Z a0 hw [] s49 u1 h50 n0 (Nat.le_trans Z0 P50.1) Q50_updates) (lenOf pd7 rfl) at_150 rfl (Nat.le_of_ble_eq_true rfl) (Nat.le_of_ble_eq_true rfl) (Nat.le_of_ble_eq_true rfl) (Nat.le_of_ble_eq_true rfl) rfl (pc' := 153) rfl ?_
        rintro v59 h59 ⟨rfl, rfl⟩
        show Go _ _ _ _ _ _ _ _ _ _ _ h50 3 24 (mkF m 153 #[.val (.int p0), .val (.int p1), .val (.int p2), .val (.int a), .val (.int b), .val (.int (1 : Int32)), .val (.ref b44), .val (.ref s46), .val (.ref b44), .val (.ref s49), .unset, .unset] [(.ref u1)]) _
        refine aload K at_153 rfl rfl (pc' := 155) rfl ?_
        refine callVirt K (y := (⟨"com/example/gauger/gauger/engine/PageRankSettings", "updates", "()Lcom/example/gauger/gauger/engine/Updates;"⟩ : MethodName)) (b := s46) (argsL := []) (S := [(.ref u1)]) (wd103 hw) (wd104 hw) (wd106 hw) (wd105 hw) (wd49 hw) (wd107 hw) (by decide) X50_s46 (c_get_updates l Z a0 hw [] s46 u1 h50 n0 (Nat.le_trans Z0 P50.1) F50_updates_s46) (lenOf pd7 rfl) at_155 rfl (Nat.le_of_ble_eq_true rfl) (Nat.le_of_ble_eq_true rfl) (Nat.le_of_ble_eq_true rfl) (Nat.le_of_ble_eq_true rfl) rfl (pc' := 158) rfl ?_
        rintro v60 h60 ⟨rfl, rfl⟩
        show Go _ _ _ _ _ _ _ _ _ _ _ h50 3 24 (mkF m 158 #[.val (.int p0), .val (.int p1), .val (.int p2), .val (.int a), .val (.int b), .val (.int (1 : Int32)), .val (.ref b44), .val (.ref s46), .val (.ref b44), .val (.ref s49), .unset, .unset] [(.ref u1), (.ref u1)]) _
        refine acY K at_158 rfl rfl (XT.aa_eq_t rfl) (pc' := 163) (by decide) (by decide) ?_
        refine aload K at_163 rfl rfl (pc' := 165) rfl ?_
        refine callVirt K (y := (⟨"com/example/gauger/gauger/engine/PageRankSettings", "scale", "()Lcom/example/gauger/gauger/engine/Scale;"⟩ : MethodName)) (b := s49) (argsL := []) (S := []) (wd108 hw) (wd109 hw) (wd111 hw) (wd110 hw) (wd49 hw) (wd112 hw) (by decide) X50_s49 (c_get_scale l Z a0 hw [] s49 u2 h50 n0 (Nat.le_trans Z0 P50.1) Q50_scale) (lenOf pd8 rfl) at_165 rfl (Nat.le_of_ble_eq_true rfl) (Nat.le_of_ble_eq_true rfl) (Nat.le_of_ble_eq_true rfl) (Nat.le_of_ble_eq_true rfl) rfl (pc' := 168) rfl ?_
        rintro v61 h61 ⟨rfl, rfl⟩
        show Go _ _ _ _ _ _ _ _ _ _ _ h50 3 24 (mkF m 168 #[.val (.int p0), .val (.int p1), .val (.int p2), .val (.int a), .val (.int b), .val (.int (1 : Int32)), .val (.ref b44), .val (.ref s46), .val (.ref b44), .val (.ref s49), .unset, .unset] [(.ref u2)]) _
        refine aload K at_168 rfl rfl (pc' := 170) rfl ?_
        refine callVirt K (y := (⟨"com/example/gauger/gauger/engine/PageRankSettings", "scale", "()Lcom/example/gauger/gauger/engine/Scale;"⟩ : MethodName)) (b := s46) (argsL := []) (S := [(.ref u2)]) (wd108 hw) (wd109 hw) (wd111 hw) (wd110 hw) (wd49 hw) (wd112 hw) (by decide) X50_s46 (c_get_scale l Z a0 hw [] s46 u2 h50 n0 (Nat.le_trans Z0 P50.1) F50_scale_s46) (lenOf pd8 rfl) at_170 rfl (Nat.le_of_ble_eq_true rfl) (Nat.le_of_ble_eq_true rfl) (Nat.le_of_ble_eq_true rfl) (Nat.le_of_ble_eq_true rfl) rfl (pc' := 173) rfl ?_
        rintro v62 h62 ⟨rfl, rfl⟩
        show Go _ _ _ _ _ _ _ _ _ _ _ h50 3 24 (mkF m 173 #[.val (.int p0), .val (.int p1), .val (.int p2), .val (.int a), .val (.int b), .val (.int (1 : Int32)), .val (.ref b44), .val (.ref s46), .val (.ref b44), .val (.ref s49), .unset, .unset] [(.ref u2), (.ref u2)]) _
        refine acY K at_173 rfl rfl (XT.aa_eq_t rfl) (pc' := 178) (by decide) (by decide) ?_
        refine aload K at_178 rfl rfl (pc' := 180) rfl ?_
        refine callVirt K (y := (⟨"com/example/gauger/gauger/engine/PageRankSettings", "dangling", "()Lcom/example/gauger/gauger/engine/Dangling;"⟩ : MethodName)) (b := s49) (argsL := []) (S := []) (wd113 hw) (wd114 hw) (wd116 hw) (wd115 hw) (wd49 hw) (wd117 hw) (by decide) X50_s49 (c_get_dangling l Z a0 hw [] s49 u3 h50 n0 (Nat.le_trans Z0 P50.1) Q50_dangling) (lenOf pd9 rfl) at_180 rfl (Nat.le_of_ble_eq_true rfl) (Nat.le_of_ble_eq_true rfl) (Nat.le_of_ble_eq_true rfl) (Nat.le_of_ble_eq_true rfl) rfl (pc' := 183) rfl ?_
        rintro v63 h63 ⟨rfl, rfl⟩
        show Go _ _ _ _ _ _ _ _ _ _ _ h50 3 24 (mkF m 183 #[.val (.int p0), .val (.int p1), .val (.int p2), .val (.int a), .val (.int b), .val (.int (1 : Int32)), .val (.ref b44), .val (.ref s46), .val (.ref b44), .val (.ref s49), .unset, .unset] [(.ref u3)]) _
        refine aload K at_183 rfl rfl (pc' := 185) rfl ?_
        refine callVirt K (y := (⟨"com/example/gauger/gauger/engine/PageRankSettings", "dangling", "()Lcom/example/gauger/gauger/engine/Dangling;"⟩ : MethodName)) (b := s46) (argsL := []) (S := [(.ref u3)]) (wd113 hw) (wd114 hw) (wd116 hw) (wd115 hw) (wd49 hw) (wd117 hw) (by decide) X50_s46 (c_get_dangling l Z a0 hw [] s46 u3 h50 n0 (Nat.le_trans Z0 P50.1) F50_dangling_s46) (lenOf pd9 rfl) at_185 rfl (Nat.le_of_ble_eq_true rfl) (Nat.le_of_ble_eq_true rfl) (Nat.le_of_ble_eq_true rfl) (Nat.le_of_ble_eq_true rfl) rfl (pc' := 188) rfl ?_
        rintro v64 h64 ⟨rfl, rfl⟩
        show Go _ _ _ _ _ _ _ _ _ _ _ h50 3 24 (mkF m 188 #[.val (.int p0), .val (.int p1), .val (.int p2), .val (.int a), .val (.int b), .val (.int (1 : Int32)), .val (.ref b44), .val (.ref s46), .val (.ref b44), .val (.ref s49), .unset, .unset] [(.ref u3), (.ref u3)]) _
        refine acY K at_188 rfl rfl (XT.aa_eq_t rfl) (pc' := 193) (by decide) (by decide) ?_
        refine aload K at_193 rfl rfl (pc' := 195) rfl ?_
        refine callVirt K (y := (⟨"com/example/gauger/gauger/engine/PageRankSettings", "personal", "()Ljava/util/Set;"⟩ : MethodName)) (b := s49) (argsL := []) (S := []) (wd118 hw) (wd119 hw) (wd121 hw) (wd120 hw) (wd49 hw) (wd122 hw) (by decide) X50_s49 (c_get_personal l Z a0 hw [] s49 u4 h50 n0 (Nat.le_trans Z0 P50.1) Q50_personal) (lenOf pd0 rfl) at_195 rfl (Nat.le_of_ble_eq_true rfl) (Nat.le_of_ble_eq_true rfl) (Nat.le_of_ble_eq_true rfl) (Nat.le_of_ble_eq_true rfl) rfl (pc' := 198) rfl ?_
        rintro v65 h65 ⟨rfl, rfl⟩
        show Go _ _ _ _ _ _ _ _ _ _ _ h50 3 24 (mkF m 198 #[.val (.int p0), .val (.int p1), .val (.int p2), .val (.int a), .val (.int b), .val (.int (1 : Int32)), .val (.ref b44), .val (.ref s46), .val (.ref b44), .val (.ref s49), .unset, .unset] [(.ref u4)]) _
        refine aload K at_198 rfl rfl (pc' := 200) rfl ?_
        refine callVirt K (y := (⟨"com/example/gauger/gauger/engine/PageRankSettings", "personal", "()Ljava/util/Set;"⟩ : MethodName)) (b := s46) (argsL := []) (S := [(.ref u4)]) (wd118 hw) (wd119 hw) (wd121 hw) (wd120 hw) (wd49 hw) (wd122 hw) (by decide) X50_s46 (c_get_personal l Z a0 hw [] s46 u4 h50 n0 (Nat.le_trans Z0 P50.1) F50_personal_s46) (lenOf pd0 rfl) at_200 rfl (Nat.le_of_ble_eq_true rfl) (Nat.le_of_ble_eq_true rfl) (Nat.le_of_ble_eq_true rfl) (Nat.le_of_ble_eq_true rfl) rfl (pc' := 203) rfl ?_
        rintro v66 h66 ⟨rfl, rfl⟩
        show Go _ _ _ _ _ _ _ _ _ _ _ h50 3 24 (mkF m 203 #[.val (.int p0), .val (.int p1), .val (.int p2), .val (.int a), .val (.int b), .val (.int (1 : Int32)), .val (.ref b44), .val (.ref s46), .val (.ref b44), .val (.ref s49), .unset, .unset] [(.ref u4), (.ref u4)]) _
        refine acY K at_203 rfl rfl (XT.aa_eq_t rfl) (pc' := 208) (by decide) (by decide) ?_
        refine iload K at_208 rfl (pc' := 210) rfl ?_
        refine ifN K at_210 (by decide) (pc' := 213) rfl ?_
        refine aload K at_213 rfl rfl (pc' := 215) rfl ?_
        refine iload K at_215 rfl (pc' := 217) rfl ?_
        refine callVirt K (y := (⟨"com/example/gauger/gauger/engine/PageRankSettings$Builder", "maxPasses", "(I)Lcom/example/gauger/gauger/engine/PageRankSettings$Builder;"⟩ : MethodName)) (b := b44) (argsL := [(.int b)]) (S := []) (wd78 hw) (wd79 hw) (wd81 hw) (wd80 hw) (wd2 hw) (wd82 hw) (by decide) X50_b44 (c_set_maxPasses l Z a0 hw [] b44 b (4605831338911806259 : UInt64) (4607182418800017408 : UInt64) (4427486594234968593 : UInt64) a u1 u2 u3 u4 h50 n0 (Nat.le_trans Z0 P50.1) hb X50_b44 ge_b44 F50_damping_b44 F50_start_b44 F50_tolerance_b44 F50_maxPasses_b44 F50_updates_b44 F50_scale_b44 F50_dangling_b44 F50_personal_b44) (lenOf pd4 rfl) at_217 rfl (Nat.le_of_ble_eq_true rfl) (Nat.le_of_ble_eq_true rfl) (Nat.le_of_ble_eq_true rfl) (Nat.le_of_ble_eq_true rfl) rfl (pc' := 220) rfl ?_
        rintro v67 h67 ⟨rfl, K67, Q67_damping, Q67_start, Q67_tolerance, Q67_maxPasses, Q67_updates, Q67_scale, Q67_dangling, Q67_personal⟩
        have F67_damping_s46 := (Fld.keep F50_damping_s46 K67 (ninS (Ne.symm ne_b44_s46) (nin0)))
        have F67_start_s46 := (Fld.keep F50_start_s46 K67 (ninS (Ne.symm ne_b44_s46) (nin0)))
        have F67_tolerance_s46 := (Fld.keep F50_tolerance_s46 K67 (ninS (Ne.symm ne_b44_s46) (nin0)))
        have F67_maxPasses_s46 := (Fld.keep F50_maxPasses_s46 K67 (ninS (Ne.symm ne_b44_s46) (nin0)))
        have F67_updates_s46 := (Fld.keep F50_updates_s46 K67 (ninS (Ne.symm ne_b44_s46) (nin0)))
        have F67_scale_s46 := (Fld.keep F50_scale_s46 K67 (ninS (Ne.symm ne_b44_s46) (nin0)))
        have F67_dangling_s46 := (Fld.keep F50_dangling_s46 K67 (ninS (Ne.symm ne_b44_s46) (nin0)))
        have F67_personal_s46 := (Fld.keep F50_personal_s46 K67 (ninS (Ne.symm ne_b44_s46) (nin0)))
        have F67_damping_s49 := (Fld.keep Q50_damping K67 (ninS (Ne.symm ne_b44_s49) (nin0)))
        have F67_start_s49 := (Fld.keep Q50_start K67 (ninS (Ne.symm ne_b44_s49) (nin0)))
        have F67_tolerance_s49 := (Fld.keep Q50_tolerance K67 (ninS (Ne.symm ne_b44_s49) (nin0)))
        have F67_maxPasses_s49 := (Fld.keep Q50_maxPasses K67 (ninS (Ne.symm ne_b44_s49) (nin0)))
        have F67_updates_s49 := (Fld.keep Q50_updates K67 (ninS (Ne.symm ne_b44_s49) (nin0)))
        have F67_scale_s49 := (Fld.keep Q50_scale K67 (ninS (Ne.symm ne_b44_s49) (nin0)))
        have F67_dangling_s49 := (Fld.keep Q50_dangling K67 (ninS (Ne.symm ne_b44_s49) (nin0)))
        have F67_personal_s49 := (Fld.keep Q50_personal K67 (ninS (Ne.symm ne_b44_s49) (nin0)))
        have X67_b44 := (Exa.keep X50_b44 K67)
        have X67_s46 := (Exa.keep X50_s46 K67)
        have X67_s49 := (Exa.keep X50_s49 K67)
        have O67 := (O50.keep K67 (allS ge_b44 (all0)))
        have P67 := (P50.trans K67 (allS (Or.inr lt_b44) (all0)))
        show Go _ _ _ _ _ _ _ _ _ _ _ h67 3 24 (mkF m 220 #[.val (.int p0), .val (.int p1), .val (.int p2), .val (.int a), .val (.int b), .val (.int (1 : Int32)), .val (.ref b44), .val (.ref s46), .val (.ref b44), .val (.ref s49), .unset, .unset] [(.ref b44)]) _
        refine astore K at_220 rfl (Ls' := #[.val (.int p0), .val (.int p1), .val (.int p2), .val (.int a), .val (.int b), .val (.int (1 : Int32)), .val (.ref b44), .val (.ref s46), .val (.ref b44), .val (.ref s49), .val (.ref b44), .unset]) rfl (pc' := 222) rfl ?_
        refine aload K at_222 rfl rfl (pc' := 224) rfl ?_
        refine aload K at_224 rfl rfl (pc' := 226) rfl ?_
        refine acY K at_226 rfl rfl (XT.aa_eq_t rfl) (pc' := 231) (by decide) (by decide) ?_
        refine aload K at_231 rfl rfl (pc' := 233) rfl ?_
        refine callVirt K (y := (⟨"com/example/gauger/gauger/engine/PageRankSettings$Builder", "build", "()Lcom/example/gauger/gauger/engine/PageRankSettings;"⟩ : MethodName)) (b := b44) (argsL := []) (S := []) (wd42 hw) (wd43 hw) (wd45 hw) (wd44 hw) (wd2 hw) (wd46 hw) (by decide) X67_b44 (c_build l Z a0 hw [] b44 (4605831338911806259 : UInt64) (4607182418800017408 : UInt64) (4427486594234968593 : UInt64) b u1 u2 u3 u4 h67 n0 (Nat.le_trans Z0 P67.1) Q67_damping Q67_start Q67_tolerance Q67_maxPasses Q67_updates Q67_scale Q67_dangling Q67_personal) (lenOf pd3 rfl) at_233 rfl (Nat.le_of_ble_eq_true rfl) (Nat.le_of_ble_eq_true rfl) (Nat.le_of_ble_eq_true rfl) (Nat.le_of_ble_eq_true rfl) rfl (pc' := 236) rfl ?_
        rintro v69 h69 ⟨rfl, K69, X69_s68, Q69_damping, Q69_start, Q69_tolerance, Q69_maxPasses, Q69_updates, Q69_scale, Q69_dangling, Q69_personal⟩
        obtain ⟨s68, gs68⟩ : ∃ z, z = h67.size := ⟨_, rfl⟩
        rw [← gs68] at X69_s68 Q69_damping Q69_start Q69_tolerance Q69_maxPasses Q69_updates Q69_scale Q69_dangling Q69_personal ⊢
        have ne_s46_s68 : s46 ≠ s68 := Nat.ne_of_lt (Nat.lt_of_lt_of_eq (Exa.lt X67_s46) gs68.symm)
        have ne_s49_s68 : s49 ≠ s68 := Nat.ne_of_lt (Nat.lt_of_lt_of_eq (Exa.lt X67_s49) gs68.symm)
        have ne_b44_s68 : b44 ≠ s68 := Nat.ne_of_lt (Nat.lt_of_lt_of_eq (Exa.lt X67_b44) gs68.symm)
        have lt_s68 : h0.size ≤ s68 := Nat.le_trans P67.1 (Nat.le_of_eq gs68.symm)
        have ge_s68 : n0 ≤ s68 := Nat.le_trans Z0 lt_s68
        have F69_damping_s46 := (Fld.keep F67_damping_s46 K69 (nin0))
        have F69_start_s46 := (Fld.keep F67_start_s46 K69 (nin0))
        have F69_tolerance_s46 := (Fld.keep F67_tolerance_s46 K69 (nin0))
        have F69_maxPasses_s46 := (Fld.keep F67_maxPasses_s46 K69 (nin0))
        have F69_updates_s46 := (Fld.keep F67_updates_s46 K69 (nin0))
        have F69_scale_s46 := (Fld.keep F67_scale_s46 K69 (nin0))
        have F69_dangling_s46 := (Fld.keep F67_dangling_s46 K69 (nin0))
        have F69_personal_s46 := (Fld.keep F67_personal_s46 K69 (nin0))
        have F69_damping_s49 := (Fld.keep F67_damping_s49 K69 (nin0))
        have F69_start_s49 := (Fld.keep F67_start_s49 K69 (nin0))
        have F69_tolerance_s49 := (Fld.keep F67_tolerance_s49 K69 (nin0))
        have F69_maxPasses_s49 := (Fld.keep F67_maxPasses_s49 K69 (nin0))
        have F69_updates_s49 := (Fld.keep F67_updates_s49 K69 (nin0))
        have F69_scale_s49 := (Fld.keep F67_scale_s49 K69 (nin0))
        have F69_dangling_s49 := (Fld.keep F67_dangling_s49 K69 (nin0))
        have F69_personal_s49 := (Fld.keep F67_personal_s49 K69 (nin0))
        have F69_damping_b44 := (Fld.keep Q67_damping K69 (nin0))
        have F69_start_b44 := (Fld.keep Q67_start K69 (nin0))
        have F69_tolerance_b44 := (Fld.keep Q67_tolerance K69 (nin0))
        have F69_maxPasses_b44 := (Fld.keep Q67_maxPasses K69 (nin0))
        have F69_updates_b44 := (Fld.keep Q67_updates K69 (nin0))
        have F69_scale_b44 := (Fld.keep Q67_scale K69 (nin0))
        have F69_dangling_b44 := (Fld.keep Q67_dangling K69 (nin0))
        have F69_personal_b44 := (Fld.keep Q67_personal K69 (nin0))
        have X69_b44 := (Exa.keep X67_b44 K69)
        have X69_s46 := (Exa.keep X67_s46 K69)
        have X69_s49 := (Exa.keep X67_s49 K69)
        have O69 := (O67.keep K69 (all0))
        have P69 := (P67.trans K69 (all0))
        show Go _ _ _ _ _ _ _ _ _ _ _ h69 4 32 (mkF m 236 #[.val (.int p0), .val (.int p1), .val (.int p2), .val (.int a), .val (.int b), .val (.int (1 : Int32)), .val (.ref b44), .val (.ref s46), .val (.ref b44), .val (.ref s49), .val (.ref b44), .unset] [(.ref s68)]) _
        refine astore K at_236 rfl (Ls' := #[.val (.int p0), .val (.int p1), .val (.int p2), .val (.int a), .val (.int b), .val (.int (1 : Int32)), .val (.ref b44), .val (.ref s46), .val (.ref b44), .val (.ref s49), .val (.ref b44), .val (.ref s68)]) rfl (pc' := 238) rfl ?_
        refine aload K at_238 rfl rfl (pc' := 240) rfl ?_
        refine callVirt K (y := (⟨"com/example/gauger/gauger/engine/PageRankSettings", "maxPasses", "()I"⟩ : MethodName)) (b := s68) (argsL := []) (S := []) (wd83 hw) (wd84 hw) (wd86 hw) (wd85 hw) (wd49 hw) (wd87 hw) (by decide) X69_s68 (c_get_maxPasses l Z a0 hw [] s68 b h69 n0 (Nat.le_trans Z0 P69.1) Q69_maxPasses) (lenOf pd5 rfl) at_240 rfl (Nat.le_of_ble_eq_true rfl) (Nat.le_of_ble_eq_true rfl) (Nat.le_of_ble_eq_true rfl) (Nat.le_of_ble_eq_true rfl) rfl (pc' := 243) rfl ?_
        rintro v70 h70 ⟨rfl, rfl⟩
        show Go _ _ _ _ _ _ _ _ _ _ _ h69 4 32 (mkF m 243 #[.val (.int p0), .val (.int p1), .val (.int p2), .val (.int a), .val (.int b), .val (.int (1 : Int32)), .val (.ref b44), .val (.ref s46), .val (.ref b44), .val (.ref s49), .val (.ref b44), .val (.ref s68)] [(.int b)]) _
        refine iload K at_243 rfl (pc' := 245) rfl ?_
        refine icY K at_245 (XT.ii_eq_t rfl) (pc' := 250) (by decide) (by decide) ?_
        refine aload K at_250 rfl rfl (pc' := 252) rfl ?_
        refine callVirt K (y := (⟨"com/example/gauger/gauger/engine/PageRankSettings", "maxPasses", "()I"⟩ : MethodName)) (b := s49) (argsL := []) (S := []) (wd83 hw) (wd84 hw) (wd86 hw) (wd85 hw) (wd49 hw) (wd87 hw) (by decide) X69_s49 (c_get_maxPasses l Z a0 hw [] s49 a h69 n0 (Nat.le_trans Z0 P69.1) F69_maxPasses_s49) (lenOf pd5 rfl) at_252 rfl (Nat.le_of_ble_eq_true rfl) (Nat.le_of_ble_eq_true rfl) (Nat.le_of_ble_eq_true rfl) (Nat.le_of_ble_eq_true rfl) rfl (pc' := 255) rfl ?_
        rintro v71 h71 ⟨rfl, rfl⟩
        show Go _ _ _ _ _ _ _ _ _ _ _ h69 4 32 (mkF m 255 #[.val (.int p0), .val (.int p1), .val (.int p2), .val (.int a), .val (.int b), .val (.int (1 : Int32)), .val (.ref b44), .val (.ref s46), .val (.ref b44), .val (.ref s49), .val (.ref b44), .val (.ref s68)] [(.int a)]) _
        refine iloadN K at_255 rfl (pc' := 256) rfl ?_
        refine icY K at_256 (XT.ii_eq_t rfl) (pc' := 261) (by decide) (by decide) ?_
        refine iconst K (1 : Int32) at_261 (by decide) (pc' := 262) rfl ?_
        refine retB K (t := .boolean) rfl (by simp) at_262 (Nat.le_of_ble_eq_true rfl) (Nat.le_of_ble_eq_true rfl) ?_
        rfl
    by_cases c2 : p1 < (1 : Int32)
    · refine icN K at_13 (XT.ii_ge_f c2) (pc' := 16) rfl ?_
      refine iconst K (1 : Int32) at_16 (by decide) (pc' := 17) rfl ?_
      refine goto' K at_17 (pc' := 21) (by decide) (by decide) ?_
      exact J2 (1 : Int32) (by decide)
    · refine icY K at_13 (XT.ii_ge_t c2) (pc' := 20) (by decide) (by decide) ?_
      refine iloadN K at_20 rfl (pc' := 21) rfl ?_
      exact J2 p1 c2
  by_cases c1 : p0 < (1 : Int32)
  · refine icN K at_2 (XT.ii_ge_f c1) (pc' := 5) rfl ?_
    refine iconst K (1 : Int32) at_5 (by decide) (pc' := 6) rfl ?_
    refine goto' K at_6 (pc' := 10) (by decide) (by decide) ?_
    exact J1 (1 : Int32) (by decide)
  · refine icY K at_2 (XT.ii_ge_t c1) (pc' := 9) (by decide) (by decide) ?_
    refine iloadN K at_9 rfl (pc' := 10) rfl ?_
    exact J1 p0 c1
set_option maxRecDepth 65536 in
set_option maxHeartbeats 40000000 in
theorem comes_1 {Post : Tables → Env → Array Value → State → Outcome → State → Prop} (hpost : ∀ tb e args s v u, (limb_1_1.after args s (.returned v) u = true ∧ limb_1_2.after args s (.returned v) u = true ∧ True) → FrameEnd s (.returned v) u (Jvm.fieldLocs frame_1_writes args s ++ Jvm.arrayLocs frame_1_arrays args s ++ Jvm.staticLocs frame_1_statics s) 16 128 → Post tb e args s (.returned v) u) :
    ArmFor flags0 classFile x code maxLocals ret World_1 tables_1 room_1 Calls_1 rest_1 Pre_1 Post := by
  intro l hfl _ _ p e ha hc hk s m args below hf hA hF happ hP
  obtain ⟨hcalls, hrest, hpre⟩ := hP
  obtain ⟨-, -, -, hnamed, -, -, -, hat⟩ := (Spec.applies_iff hf).mp happ
  obtain ⟨hg, hn⟩ := and_e (Cond.before_iff.mp (show (Jvm.Cond.and given_1 narrow_1).before args s = true from hpre))
  obtain ⟨q0, r0⟩ := and_e hg
  obtain ⟨q1, r1⟩ := and_e r0
  obtain ⟨q2, r2⟩ := and_e r1
  have q3 := r2
  obtain ⟨w0, w1, w2, rfl⟩ : ∃ w0 w1 w2 : Value, args = #[w0, w1, w2] := by
    have hs : args.size = 3 := by simpa [Cond.value, given_1] using q0
    obtain ⟨L⟩ := args
    match L, hs with
    | [w0, w1, w2], _ => exact ⟨w0, w1, w2, rfl⟩
  have hw := fun d (hd : d ∈ tables_1) => atoms_spec (ws := Jvm.Cond.code x code maxLocals ret :: tables_1) hat d (List.mem_cons_of_mem _ hd)
  have hfit : Fit s := fun {y c} hc i hi => by
    obtain ⟨ha, rfl⟩ := Array.getElem?_eq_some_iff.mp hc
    have q := List.all_eq_true.mp ((Array.all_eq_true_iff_forall_mem.mp hF) _ (Array.getElem_mem ha)) i (List.mem_range.mpr hi)
    simpa [Array.getElem?_eq_getElem hi] using q
  obtain ⟨i0, e0⟩ := is_v q1
  obtain rfl : w0 = (.int i0) := Option.some.inj e0
  obtain ⟨i1, e1⟩ := is_v q2
  obtain rfl : w1 = (.int i1) := Option.some.inj e1
  obtain ⟨i2, e2⟩ := is_v q3
  obtain rfl : w2 = (.int i2) := Option.some.inj e2
  obtain ⟨nq0, hn⟩ := and_e hn
  obtain ⟨nq1, hn⟩ := and_e hn
  have nq2 := hn
  have hsets := (atoms_of (own := restOwn_1) jdkStatics_1 (by rw [← rest_1_c_eq]; exact hrest)).1
  obtain ⟨u1, ev_u1⟩ := exa_v nq0
  have S1 := Sta.start ev_u1 (Or.inr ⟨(wd20 hw), (wd21 hw)⟩)
  obtain ⟨u2, ev_u2⟩ := exa_v nq1
  have S2 := Sta.start ev_u2 (Or.inr ⟨(wd25 hw), (wd26 hw)⟩)
  obtain ⟨u3, ev_u3⟩ := exa_v nq2
  have S3 := Sta.start ev_u3 (Or.inr ⟨(wd30 hw), (wd31 hw)⟩)
  obtain ⟨u4, ev_u4⟩ := exa_v (Cond.before_iff.mp (hsets _ (List.mem_of_getElem? (i := 2) rfl)))
  have S4 := Sta.start ev_u4 (Or.inl (hsets _ (List.mem_of_getElem? (i := 1) rfl)))
  obtain ⟨n, o, h1, h2, h3, _, L, rfl, ⟨rfl, N⟩, hq⟩ := c_law l s _ hw tables_1 i0 i1 i2 u1 u2 u3 u4 s.heap s.heap.size (Nat.le_refl _) S1 S2 S3 S4 (Old.start s) p e ha hc hk s m _ below hf ((Spec.applies_iff_loose hf).mp happ).1 ⟨rfl, State.Warmed39.refl s, rfl⟩ trivial
  refine ⟨n, _, h1, h2, h3, hpost _ _ _ _ _ _ ⟨Cond.after_iff.mpr rfl, Cond.after_iff.mpr (eq_i res_at (Term.int_eval (1)) rfl), trivial⟩ ⟨hq.1, hq.2.1, (hq.2.2.sift fun y hy => Or.inr (N y hy)).mono (by decide) (by decide)⟩⟩
theorem main_1_1 : Claimed_1_1 := comes_1 fun _ _ _ _ _ _ h hF => ⟨h.1, hF⟩
theorem main_1_2 : Claimed_1_2 := comes_1 fun _ _ _ _ _ _ h hF => ⟨h.2.1, hF⟩
end Jvm.Pilot.@@N@@
namespace Jvm.Pilot.@@N@@
open Jvm Jvm.ClassFile Sem Op Lib Jvm.Free Jvm.Stand Jvm.Pilot.@@N@@.Jvm.D
/-! MADE BY PROGRAM (witnessworld.py) out of the Statement's table words and the real class files: 25 classes; the members and pool entries that the words name. The judged class is class 1, her method 1. -/
namespace start1
open Jvm.ClassFile
def u (s : String) : CpInfo := .utf8 (stringToUtf16 s)
/-- a pool by its gaps: so many unusable entries, then the entry; so many at the end -/
def gap : Nat → List CpInfo → List CpInfo
  | 0, r => r
  | n + 1, r => .unusable :: gap n r
def poolList (es : List (Nat × CpInfo)) (last : Nat) : List CpInfo := es.foldr (fun e r => gap e.1 (e.2 :: r)) (gap last [])
def pool (es : List (Nat × CpInfo)) (last : Nat) : Array CpInfo := ⟨poolList es last⟩
def fileOf (pool : Array CpInfo) (this : Nat) (attrs : Array Attribute := #[]) (ms : Array MethodInfo := #[]) (fl : Nat := 33) (sup : Nat := 0) (ifs : Array Nat := #[]) (fds : Array FieldInfo := #[]) : ClassFile where
  minorVersion := 0
  majorVersion := 65
  constantPool := pool
  accessFlags := fl
  thisClass := this
  superClass := sup
  interfaces := ifs
  fields := fds
  methods := ms
  attributes := attrs
def plain (name : String) (sup : Option ClassId) : Class where
  name := name
  kind := .ordinary
  loader := none
  accessFlags := 33
  super := sup
  interfaces := #[]
  cf := none
  fields := #[]
  methods := #[]
  instanceTypes := #[]
  staticTypes := #[]
  resolved := #[]
  callSites := []
  init := .initialized
  statics := none
  mirror := none

def pool0 : Array CpInfo := pool [(5, u "<init>"), (0, u "()V"), (1, .class_ 10), (1, u "java/lang/Object")] 113

def k0c0 : Code := { maxStack := 0, maxLocals := 1, code := object_method_1_code, exceptionTable := #[], attributes := #[] }
def k0m0 : Method := { name := "<init>", desc := "()V", sig := { parameters := [], returnType := none }, accessFlags := 1, code := some k0c0 }
/-- java/lang/Object -/
def k0 : Class := { plain "java/lang/Object" none with
  accessFlags := 33
  interfaces := #[]
  cf := some (fileOf pool0 8 #[] #[{ accessFlags := 1, nameIndex := 5, descriptorIndex := 6, attributes := #[] }] 33 0 #[] #[])
  fields := #[]
  methods := #[k0m0]
  instanceTypes := #[]
  staticTypes := #[]
  resolved := Array.replicate 124 none
  statics := none }

def pool1 : Array CpInfo := pool [(2, .class_ 4), (0, .nameAndType 5 6), (0, u "java/lang/Object"), (0, u "<init>"), (0, u "()V"), (0, .class_ 8), (0, u "com/example/gauger/gauger/engine/PageRankSettings$Builder"), (0, .methodref 7 3), (0, .methodref 7 11), (0, .nameAndType 12 13), (0, u "build"), (0, u "()Lcom/example/gauger/gauger/engine/PageRankSettings;"), (0, .methodref 7 15), (0, .nameAndType 16 17), (0, u "maxPasses"), (0, u "(I)Lcom/example/gauger/gauger/engine/PageRankSettings$Builder;"), (0, .methodref 19 20), (0, .class_ 21), (0, .nameAndType 16 22), (0, u "com/example/gauger/gauger/engine/PageRankSettings"), (0, u "()I"), (0, .methodref 19 24), (0, .nameAndType 25 26), (0, u "damping"), (0, u "()D"), (0, .methodref 19 28), (0, .nameAndType 29 26), (0, u "start"), (0, .methodref 19 31), (0, .nameAndType 32 26), (0, u "tolerance"), (0, .methodref 19 34), (0, .nameAndType 35 36), (0, u "updates"), (0, u "()Lcom/example/gauger/gauger/engine/Updates;"), (0, .methodref 19 38), (0, .nameAndType 39 40), (0, u "scale"), (0, u "()Lcom/example/gauger/gauger/engine/Scale;"), (0, .methodref 19 42), (0, .nameAndType 43 44), (0, u "dangling"), (0, u "()Lcom/example/gauger/gauger/engine/Dangling;"), (0, .methodref 19 46), (0, .nameAndType 47 48), (0, u "personal"), (0, u "()Ljava/util/Set;"), (0, .class_ 50), (0, u "com/example/gauger/gauger/engine/BuilderMaxPassesPinLaw"), (2, u "law"), (0, u "(III)Z")] 5

def k1m0 : Method := { name := "<init>", desc := "()V", sig := { parameters := [], returnType := none }, accessFlags := 1, code := none }
def k1c1 : Code := { maxStack := 4, maxLocals := 12, code := code, exceptionTable := #[], attributes := #[] }
def k1m1 : Method := { name := "law", desc := "(III)Z", sig := { parameters := [.int, .int, .int], returnType := some .boolean }, accessFlags := 9, code := some k1c1 }
/-- com/example/gauger/gauger/engine/BuilderMaxPassesPinLaw -/
def k1 : Class := { plain "com/example/gauger/gauger/engine/BuilderMaxPassesPinLaw" (some 0) with
  accessFlags := 49
  interfaces := #[]
  cf := some (fileOf pool1 49 #[] #[{ accessFlags := 1, nameIndex := 5, descriptorIndex := 6, attributes := #[] }, { accessFlags := 9, nameIndex := 53, descriptorIndex := 54, attributes := #[] }] 49 2 #[] #[])
  fields := #[]
  methods := #[k1m0, k1m1]
  instanceTypes := #[]
  staticTypes := #[]
  resolved := Array.replicate 60 none
  statics := none }

def pool2 : Array CpInfo := pool [(1, .methodref 2 3), (0, .class_ 4), (0, .nameAndType 5 6), (0, u "java/lang/Object"), (0, u "<init>"), (0, u "()V"), (0, .double 4605831338911806259), (1, .fieldref 10 11), (0, .class_ 12), (0, .nameAndType 13 14), (0, u "com/example/gauger/gauger/engine/PageRankSettings$Builder"), (0, u "damping"), (0, u "D"), (0, .fieldref 10 16), (0, .nameAndType 17 14), (0, u "start"), (0, .double 4427486594234968593), (1, .fieldref 10 21), (0, .nameAndType 22 14), (0, u "tolerance"), (0, .fieldref 10 24), (0, .nameAndType 25 26), (0, u "maxPasses"), (0, u "I"), (0, .fieldref 28 29), (0, .class_ 30), (0, .nameAndType 31 32), (0, u "com/example/gauger/gauger/engine/Updates"), (0, u "AFTER_PASS"), (0, u "Lcom/example/gauger/gauger/engine/Updates;"), (0, .fieldref 10 34), (0, .nameAndType 35 32), (0, u "updates"), (0, .fieldref 37 38), (0, .class_ 39), (0, .nameAndType 40 41), (0, u "com/example/gauger/gauger/engine/Scale"), (0, u "N"), (0, u "Lcom/example/gauger/gauger/engine/Scale;"), (0, .fieldref 10 43), (0, .nameAndType 44 41), (0, u "scale"), (0, .fieldref 46 47), (0, .class_ 48), (0, .nameAndType 49 50), (0, u "com/example/gauger/gauger/engine/Dangling"), (0, u "KEEP"), (0, u "Lcom/example/gauger/gauger/engine/Dangling;"), (0, .fieldref 10 52), (0, .nameAndType 53 50), (0, u "dangling"), (0, .interfaceMethodref 55 56), (0, .class_ 57), (0, .nameAndType 58 59), (0, u "java/util/Set"), (0, u "of"), (0, u "()Ljava/util/Set;"), (0, .fieldref 10 61), (0, .nameAndType 62 63), (0, u "personal"), (0, u "Ljava/util/Set;"), (65, .class_ 130), (0, u "com/example/gauger/gauger/engine/PageRankSettings"), (0, .methodref 129 132), (0, .nameAndType 5 133), (0, u "(Lcom/example/gauger/gauger/engine/PageRankSettings$Builder;)V"), (0, u "MAX_START"), (7, u "(I)Lcom/example/gauger/gauger/engine/PageRankSettings$Builder;"), (5, u "build"), (0, u "()Lcom/example/gauger/gauger/engine/PageRankSettings;")] 5

def k2c0 : Code := { maxStack := 3, maxLocals := 1, code := prog_10_method_1_code, exceptionTable := #[], attributes := #[] }
def k2m0 : Method := { name := "<init>", desc := "()V", sig := { parameters := [], returnType := none }, accessFlags := 1, code := some k2c0 }
def k2c1 : Code := { maxStack := 3, maxLocals := 2, code := prog_10_method_5_code, exceptionTable := #[], attributes := #[] }
def k2m1 : Method := { name := "maxPasses", desc := "(I)Lcom/example/gauger/gauger/engine/PageRankSettings$Builder;", sig := { parameters := [.int], returnType := some (.object "com/example/gauger/gauger/engine/PageRankSettings$Builder") }, accessFlags := 1, code := some k2c1 }
def k2c2 : Code := { maxStack := 3, maxLocals := 1, code := prog_10_method_10_code, exceptionTable := #[], attributes := #[] }
def k2m2 : Method := { name := "build", desc := "()Lcom/example/gauger/gauger/engine/PageRankSettings;", sig := { parameters := [], returnType := some (.object "com/example/gauger/gauger/engine/PageRankSettings") }, accessFlags := 1, code := some k2c2 }
/-- com/example/gauger/gauger/engine/PageRankSettings$Builder -/
def k2 : Class := { plain "com/example/gauger/gauger/engine/PageRankSettings$Builder" (some 0) with
  accessFlags := 49
  interfaces := #[]
  cf := some (fileOf pool2 10 #[.nestHost 129] #[{ accessFlags := 1, nameIndex := 5, descriptorIndex := 6, attributes := #[] }, { accessFlags := 1, nameIndex := 25, descriptorIndex := 142, attributes := #[] }, { accessFlags := 1, nameIndex := 148, descriptorIndex := 149, attributes := #[] }] 49 2 #[] #[{ accessFlags := 26, nameIndex := 134, descriptorIndex := 14, attributes := #[] }, { accessFlags := 2, nameIndex := 13, descriptorIndex := 14, attributes := #[] }, { accessFlags := 2, nameIndex := 17, descriptorIndex := 14, attributes := #[] }, { accessFlags := 2, nameIndex := 22, descriptorIndex := 14, attributes := #[] }, { accessFlags := 2, nameIndex := 25, descriptorIndex := 26, attributes := #[] }, { accessFlags := 2, nameIndex := 35, descriptorIndex := 32, attributes := #[] }, { accessFlags := 2, nameIndex := 44, descriptorIndex := 41, attributes := #[] }, { accessFlags := 2, nameIndex := 53, descriptorIndex := 50, attributes := #[] }, { accessFlags := 2, nameIndex := 62, descriptorIndex := 63, attributes := #[] }])
  fields := #[{ name := "MAX_START", type := .double, accessFlags := 26, slot := 0, constantValue := 0 }, { name := "damping", type := .double, accessFlags := 2, slot := 0, constantValue := 0 }, { name := "start", type := .double, accessFlags := 2, slot := 1, constantValue := 0 }, { name := "tolerance", type := .double, accessFlags := 2, slot := 2, constantValue := 0 }, { name := "maxPasses", type := .int, accessFlags := 2, slot := 3, constantValue := 0 }, { name := "updates", type := (.object "com/example/gauger/gauger/engine/Updates"), accessFlags := 2, slot := 4, constantValue := 0 }, { name := "scale", type := (.object "com/example/gauger/gauger/engine/Scale"), accessFlags := 2, slot := 5, constantValue := 0 }, { name := "dangling", type := (.object "com/example/gauger/gauger/engine/Dangling"), accessFlags := 2, slot := 6, constantValue := 0 }, { name := "personal", type := (.object "java/util/Set"), accessFlags := 2, slot := 7, constantValue := 0 }]
  methods := #[k2m0, k2m1, k2m2]
  instanceTypes := #[.double, .double, .double, .int, (.object "com/example/gauger/gauger/engine/Updates"), (.object "com/example/gauger/gauger/engine/Scale"), (.object "com/example/gauger/gauger/engine/Dangling"), (.object "java/util/Set")]
  staticTypes := #[.double]
  resolved := Array.replicate 155 none
  statics := none }

def pool3 : Array CpInfo := pool [(1, .class_ 2), (0, u "java/lang/constant/Constable"), (0, .class_ 4), (0, u "java/lang/Object")] 6

/-- java/lang/constant/Constable -/
def k3 : Class := { plain "java/lang/constant/Constable" (some 0) with
  accessFlags := 1537
  interfaces := #[]
  cf := some (fileOf pool3 1 #[] #[] 1537 3 #[] #[])
  fields := #[]
  methods := #[]
  instanceTypes := #[]
  staticTypes := #[]
  resolved := Array.replicate 11 none
  statics := none }

def pool4 : Array CpInfo := pool [(1, .class_ 2), (0, u "java/lang/Comparable"), (0, .class_ 4), (0, u "java/lang/Object")] 7

/-- java/lang/Comparable -/
def k4 : Class := { plain "java/lang/Comparable" (some 0) with
  accessFlags := 1537
  interfaces := #[]
  cf := some (fileOf pool4 1 #[] #[] 1537 3 #[] #[])
  fields := #[]
  methods := #[]
  instanceTypes := #[]
  staticTypes := #[]
  resolved := Array.replicate 12 none
  statics := none }

def pool5 : Array CpInfo := pool [(1, .class_ 2), (0, u "java/io/Serializable"), (0, .class_ 4), (0, u "java/lang/Object")] 2

/-- java/io/Serializable -/
def k5 : Class := { plain "java/io/Serializable" (some 0) with
  accessFlags := 1537
  interfaces := #[]
  cf := some (fileOf pool5 1 #[] #[] 1537 3 #[] #[])
  fields := #[]
  methods := #[]
  instanceTypes := #[]
  staticTypes := #[]
  resolved := Array.replicate 7 none
  statics := none }

def pool6 : Array CpInfo := pool [(2, .class_ 4), (1, u "java/lang/Enum"), (0, u "name"), (0, u "Ljava/lang/String;"), (2, u "ordinal"), (0, u "I"), (1, .class_ 14), (1, u "java/lang/Object"), (4, u "hash"), (86, .class_ 108), (1, u "java/lang/Enum$EnumDesc"), (2, .class_ 112), (0, u "java/lang/constant/Constable"), (0, .class_ 114), (0, u "java/lang/Comparable"), (0, .class_ 116), (0, u "java/io/Serializable")] 87

/-- java/lang/Enum -/
def k6 : Class := { plain "java/lang/Enum" (some 0) with
  accessFlags := 1057
  interfaces := #[3, 4, 5]
  cf := some (fileOf pool6 2 #[.nestMembers #[106]] #[] 1057 12 #[111, 113, 115] #[{ accessFlags := 18, nameIndex := 5, descriptorIndex := 6, attributes := #[] }, { accessFlags := 18, nameIndex := 9, descriptorIndex := 10, attributes := #[] }, { accessFlags := 2, nameIndex := 19, descriptorIndex := 10, attributes := #[] }])
  fields := #[{ name := "name", type := (.object "java/lang/String"), accessFlags := 18, slot := 0, constantValue := 0 }, { name := "ordinal", type := .int, accessFlags := 18, slot := 1, constantValue := 0 }, { name := "hash", type := .int, accessFlags := 2, slot := 2, constantValue := 0 }]
  methods := #[]
  instanceTypes := #[(.object "java/lang/String"), .int, .int]
  staticTypes := #[]
  resolved := Array.replicate 204 none
  statics := none }

def pool7 : Array CpInfo := pool [(1, .class_ 2), (0, u "com/example/gauger/gauger/engine/Updates"), (2, u "AFTER_PASS"), (0, u "Lcom/example/gauger/gauger/engine/Updates;"), (2, u "IN_PLACE"), (2, u "$VALUES"), (0, u "[Lcom/example/gauger/gauger/engine/Updates;"), (6, .class_ 22), (1, u "java/lang/Enum")] 24

/-- com/example/gauger/gauger/engine/Updates -/
def k7 : Class := { plain "com/example/gauger/gauger/engine/Updates" (some 6) with
  accessFlags := 16433
  interfaces := #[]
  cf := some (fileOf pool7 1 #[] #[] 16433 20 #[] #[{ accessFlags := 16409, nameIndex := 5, descriptorIndex := 6, attributes := #[] }, { accessFlags := 16409, nameIndex := 9, descriptorIndex := 6, attributes := #[] }, { accessFlags := 4122, nameIndex := 12, descriptorIndex := 13, attributes := #[] }])
  fields := #[{ name := "AFTER_PASS", type := (.object "com/example/gauger/gauger/engine/Updates"), accessFlags := 16409, slot := 0, constantValue := 0 }, { name := "IN_PLACE", type := (.object "com/example/gauger/gauger/engine/Updates"), accessFlags := 16409, slot := 1, constantValue := 0 }, { name := "$VALUES", type := (.array (.object "com/example/gauger/gauger/engine/Updates")), accessFlags := 4122, slot := 2, constantValue := 0 }]
  methods := #[]
  instanceTypes := #[(.object "java/lang/String"), .int, .int]
  staticTypes := #[(.object "com/example/gauger/gauger/engine/Updates"), (.object "com/example/gauger/gauger/engine/Updates"), (.array (.object "com/example/gauger/gauger/engine/Updates"))]
  resolved := Array.replicate 47 none
  statics := some 0 }

def pool8 : Array CpInfo := pool [(1, .class_ 2), (0, u "com/example/gauger/gauger/engine/Scale"), (2, u "N"), (0, u "Lcom/example/gauger/gauger/engine/Scale;"), (2, u "ONE"), (2, u "$VALUES"), (0, u "[Lcom/example/gauger/gauger/engine/Scale;"), (6, .class_ 22), (1, u "java/lang/Enum")] 24

/-- com/example/gauger/gauger/engine/Scale -/
def k8 : Class := { plain "com/example/gauger/gauger/engine/Scale" (some 6) with
  accessFlags := 16433
  interfaces := #[]
  cf := some (fileOf pool8 1 #[] #[] 16433 20 #[] #[{ accessFlags := 16409, nameIndex := 5, descriptorIndex := 6, attributes := #[] }, { accessFlags := 16409, nameIndex := 9, descriptorIndex := 6, attributes := #[] }, { accessFlags := 4122, nameIndex := 12, descriptorIndex := 13, attributes := #[] }])
  fields := #[{ name := "N", type := (.object "com/example/gauger/gauger/engine/Scale"), accessFlags := 16409, slot := 0, constantValue := 0 }, { name := "ONE", type := (.object "com/example/gauger/gauger/engine/Scale"), accessFlags := 16409, slot := 1, constantValue := 0 }, { name := "$VALUES", type := (.array (.object "com/example/gauger/gauger/engine/Scale")), accessFlags := 4122, slot := 2, constantValue := 0 }]
  methods := #[]
  instanceTypes := #[(.object "java/lang/String"), .int, .int]
  staticTypes := #[(.object "com/example/gauger/gauger/engine/Scale"), (.object "com/example/gauger/gauger/engine/Scale"), (.array (.object "com/example/gauger/gauger/engine/Scale"))]
  resolved := Array.replicate 47 none
  statics := some 1 }

def pool9 : Array CpInfo := pool [(1, .class_ 2), (0, u "com/example/gauger/gauger/engine/Dangling"), (2, u "KEEP"), (0, u "Lcom/example/gauger/gauger/engine/Dangling;"), (2, u "SPREAD"), (2, u "READD"), (2, u "$VALUES"), (0, u "[Lcom/example/gauger/gauger/engine/Dangling;"), (6, .class_ 25), (1, u "java/lang/Enum")] 25

/-- com/example/gauger/gauger/engine/Dangling -/
def k9 : Class := { plain "com/example/gauger/gauger/engine/Dangling" (some 6) with
  accessFlags := 16433
  interfaces := #[]
  cf := some (fileOf pool9 1 #[] #[] 16433 23 #[] #[{ accessFlags := 16409, nameIndex := 5, descriptorIndex := 6, attributes := #[] }, { accessFlags := 16409, nameIndex := 9, descriptorIndex := 6, attributes := #[] }, { accessFlags := 16409, nameIndex := 12, descriptorIndex := 6, attributes := #[] }, { accessFlags := 4122, nameIndex := 15, descriptorIndex := 16, attributes := #[] }])
  fields := #[{ name := "KEEP", type := (.object "com/example/gauger/gauger/engine/Dangling"), accessFlags := 16409, slot := 0, constantValue := 0 }, { name := "SPREAD", type := (.object "com/example/gauger/gauger/engine/Dangling"), accessFlags := 16409, slot := 1, constantValue := 0 }, { name := "READD", type := (.object "com/example/gauger/gauger/engine/Dangling"), accessFlags := 16409, slot := 2, constantValue := 0 }, { name := "$VALUES", type := (.array (.object "com/example/gauger/gauger/engine/Dangling")), accessFlags := 4122, slot := 3, constantValue := 0 }]
  methods := #[]
  instanceTypes := #[(.object "java/lang/String"), .int, .int]
  staticTypes := #[(.object "com/example/gauger/gauger/engine/Dangling"), (.object "com/example/gauger/gauger/engine/Dangling"), (.object "com/example/gauger/gauger/engine/Dangling"), (.array (.object "com/example/gauger/gauger/engine/Dangling"))]
  resolved := Array.replicate 51 none
  statics := some 2 }

def pool10 : Array CpInfo := pool [(8, .class_ 10), (1, u "java/lang/Iterable"), (24, .class_ 36), (0, u "java/lang/Object")] 25

/-- java/lang/Iterable -/
def k10 : Class := { plain "java/lang/Iterable" (some 0) with
  accessFlags := 1537
  interfaces := #[]
  cf := some (fileOf pool10 8 #[] #[] 1537 35 #[] #[])
  fields := #[]
  methods := #[]
  instanceTypes := #[]
  staticTypes := #[]
  resolved := Array.replicate 62 none
  statics := none }

def pool11 : Array CpInfo := pool [(10, .class_ 12), (1, u "java/util/Collection"), (47, .class_ 61), (0, u "java/lang/Object"), (0, .class_ 63), (0, u "java/lang/Iterable")] 51

/-- java/util/Collection -/
def k11 : Class := { plain "java/util/Collection" (some 0) with
  accessFlags := 1537
  interfaces := #[10]
  cf := some (fileOf pool11 10 #[] #[] 1537 60 #[62] #[])
  fields := #[]
  methods := #[]
  instanceTypes := #[]
  staticTypes := #[]
  resolved := Array.replicate 115 none
  statics := none }

def pool12 : Array CpInfo := pool [(9, .fieldref 10 11), (0, .class_ 12), (0, .nameAndType 13 14), (0, u "java/util/ImmutableCollections"), (0, u "EMPTY_SET"), (0, u "Ljava/util/ImmutableCollections$SetN;"), (11, .class_ 27), (0, u "java/lang/Object"), (5, .class_ 34), (0, u "java/util/Set"), (1, .class_ 38), (1, u "java/util/Collection"), (4, u "of"), (0, u "()Ljava/util/Set;")] 99

def k12c0 : Code := { maxStack := 1, maxLocals := 0, code := jdk_96_method_17_code, exceptionTable := #[], attributes := #[] }
def k12m0 : Method := { name := "of", desc := "()Ljava/util/Set;", sig := { parameters := [], returnType := some (.object "java/util/Set") }, accessFlags := 9, code := some k12c0 }
/-- java/util/Set -/
def k12 : Class := { plain "java/util/Set" (some 0) with
  accessFlags := 1537
  interfaces := #[11]
  cf := some (fileOf pool12 33 #[] #[{ accessFlags := 9, nameIndex := 43, descriptorIndex := 44, attributes := #[] }] 1537 26 #[36] #[])
  fields := #[]
  methods := #[k12m0]
  instanceTypes := #[]
  staticTypes := #[]
  resolved := Array.replicate 144 none
  statics := none }

def pool13 : Array CpInfo := pool [(2, .class_ 4), (1, u "java/lang/Object"), (0, u "<init>"), (0, u "()V"), (3, .class_ 11), (0, u "java/util/ImmutableCollections$List12"), (0, .class_ 13), (0, u "java/util/ImmutableCollections$ListN"), (3, u "Z"), (29, .class_ 49), (1, u "java/util/ImmutableCollections"), (0, u "$assertionsDisabled"), (5, u "[Ljava/lang/Object;"), (5, u "EMPTY_LIST"), (0, u "Ljava/util/ImmutableCollections$ListN;"), (8, u "EMPTY_LIST_NULLS"), (22, u "SALT32L"), (0, u "J"), (2, u "REVERSE"), (6, u "archivedObjects"), (2, u "EMPTY"), (0, u "Ljava/lang/Object;"), (0, .class_ 112), (0, u "java/util/ImmutableCollections$SetN"), (5, u "EMPTY_SET"), (0, u "Ljava/util/ImmutableCollections$SetN;"), (0, .class_ 121), (0, u "java/util/ImmutableCollections$MapN"), (3, u "EMPTY_MAP"), (0, u "Ljava/util/ImmutableCollections$MapN;"), (4, u "EXPAND_FACTOR"), (0, u "I"), (36, .class_ 170), (0, u "java/util/ImmutableCollections$MapN$MapNIterator"), (0, .class_ 172), (0, u "java/util/ImmutableCollections$MapN$1"), (0, .class_ 174), (0, u "java/util/ImmutableCollections$Map1"), (0, .class_ 176), (0, u "java/util/ImmutableCollections$AbstractImmutableMap"), (0, .class_ 178), (0, u "java/util/ImmutableCollections$SetN$SetNIterator"), (0, .class_ 180), (0, u "java/util/ImmutableCollections$Set12"), (0, .class_ 182), (0, u "java/util/ImmutableCollections$Set12$1"), (0, .class_ 184), (0, u "java/util/ImmutableCollections$AbstractImmutableSet"), (0, .class_ 186), (0, u "java/util/ImmutableCollections$SubList"), (0, .class_ 188), (0, u "java/util/ImmutableCollections$ListItr"), (0, .class_ 190), (0, u "java/util/ImmutableCollections$AbstractImmutableList"), (0, .class_ 192), (0, u "java/util/ImmutableCollections$AbstractImmutableCollection"), (0, .class_ 194), (0, u "java/util/ImmutableCollections$Access"), (0, .class_ 196), (0, u "java/util/ImmutableCollections$Access$1")] 16

def k13m0 : Method := { name := "<init>", desc := "()V", sig := { parameters := [], returnType := none }, accessFlags := 2, code := none }
/-- java/util/ImmutableCollections -/
def k13 : Class := { plain "java/util/ImmutableCollections" (some 0) with
  accessFlags := 32
  interfaces := #[]
  cf := some (fileOf pool13 47 #[.nestMembers #[120, 169, 171, 173, 175, 111, 177, 179, 181, 183, 12, 10, 185, 187, 189, 191, 193, 195]] #[{ accessFlags := 2, nameIndex := 5, descriptorIndex := 6, attributes := #[] }] 32 2 #[] #[{ accessFlags := 26, nameIndex := 95, descriptorIndex := 96, attributes := #[] }, { accessFlags := 26, nameIndex := 99, descriptorIndex := 17, attributes := #[] }, { accessFlags := 10, nameIndex := 106, descriptorIndex := 56, attributes := #[] }, { accessFlags := 26, nameIndex := 109, descriptorIndex := 110, attributes := #[] }, { accessFlags := 24, nameIndex := 62, descriptorIndex := 63, attributes := #[] }, { accessFlags := 24, nameIndex := 72, descriptorIndex := 63, attributes := #[] }, { accessFlags := 24, nameIndex := 118, descriptorIndex := 119, attributes := #[] }, { accessFlags := 24, nameIndex := 125, descriptorIndex := 126, attributes := #[] }, { accessFlags := 24, nameIndex := 131, descriptorIndex := 132, attributes := #[] }, { accessFlags := 4120, nameIndex := 50, descriptorIndex := 17, attributes := #[] }])
  fields := #[{ name := "SALT32L", type := .long, accessFlags := 26, slot := 0, constantValue := 0 }, { name := "REVERSE", type := .boolean, accessFlags := 26, slot := 1, constantValue := 0 }, { name := "archivedObjects", type := (.array (.object "java/lang/Object")), accessFlags := 10, slot := 2, constantValue := 0 }, { name := "EMPTY", type := (.object "java/lang/Object"), accessFlags := 26, slot := 3, constantValue := 0 }, { name := "EMPTY_LIST", type := (.object "java/util/ImmutableCollections$ListN"), accessFlags := 24, slot := 4, constantValue := 0 }, { name := "EMPTY_LIST_NULLS", type := (.object "java/util/ImmutableCollections$ListN"), accessFlags := 24, slot := 5, constantValue := 0 }, { name := "EMPTY_SET", type := (.object "java/util/ImmutableCollections$SetN"), accessFlags := 24, slot := 6, constantValue := 0 }, { name := "EMPTY_MAP", type := (.object "java/util/ImmutableCollections$MapN"), accessFlags := 24, slot := 7, constantValue := 0 }, { name := "EXPAND_FACTOR", type := .int, accessFlags := 24, slot := 8, constantValue := 0 }, { name := "$assertionsDisabled", type := .boolean, accessFlags := 4120, slot := 9, constantValue := 0 }]
  methods := #[k13m0]
  instanceTypes := #[]
  staticTypes := #[.long, .boolean, (.array (.object "java/lang/Object")), (.object "java/lang/Object"), (.object "java/util/ImmutableCollections$ListN"), (.object "java/util/ImmutableCollections$ListN"), (.object "java/util/ImmutableCollections$SetN"), (.object "java/util/ImmutableCollections$MapN"), .int, .boolean]
  resolved := Array.replicate 213 none
  statics := some 3 }

def pool14 : Array CpInfo := pool [(1, .methodref 2 3), (0, .class_ 4), (0, .nameAndType 5 6), (0, u "java/lang/Object"), (0, u "<init>"), (0, u "()V"), (0, .fieldref 8 9), (0, .class_ 10), (0, .nameAndType 11 12), (0, u "com/example/gauger/gauger/engine/PageRankSettings$Builder"), (0, u "damping"), (0, u "D"), (0, .fieldref 14 9), (0, .class_ 15), (0, u "com/example/gauger/gauger/engine/PageRankSettings"), (0, .fieldref 8 17), (0, .nameAndType 18 12), (0, u "start"), (0, .fieldref 14 17), (0, .fieldref 8 21), (0, .nameAndType 22 12), (0, u "tolerance"), (0, .fieldref 14 21), (0, .fieldref 8 25), (0, .nameAndType 26 27), (0, u "maxPasses"), (0, u "I"), (0, .fieldref 14 25), (0, .fieldref 8 30), (0, .nameAndType 31 32), (0, u "updates"), (0, u "Lcom/example/gauger/gauger/engine/Updates;"), (0, .fieldref 14 30), (0, .fieldref 8 35), (0, .nameAndType 36 37), (0, u "scale"), (0, u "Lcom/example/gauger/gauger/engine/Scale;"), (0, .fieldref 14 35), (0, .fieldref 8 40), (0, .nameAndType 41 42), (0, u "dangling"), (0, u "Lcom/example/gauger/gauger/engine/Dangling;"), (0, .fieldref 14 40), (0, .fieldref 8 45), (0, .nameAndType 46 47), (0, u "personal"), (0, u "Ljava/util/Set;"), (0, .fieldref 14 45), (7, u "DEFAULTS"), (0, u "Lcom/example/gauger/gauger/engine/PageRankSettings;"), (2, u "(Lcom/example/gauger/gauger/engine/PageRankSettings$Builder;)V"), (2, u "()D"), (0, u "()I"), (0, u "()Lcom/example/gauger/gauger/engine/Updates;"), (0, u "()Lcom/example/gauger/gauger/engine/Scale;"), (0, u "()Lcom/example/gauger/gauger/engine/Dangling;"), (0, u "()Ljava/util/Set;")] 7

def k14c0 : Code := { maxStack := 3, maxLocals := 2, code := prog_9_method_1_code, exceptionTable := #[], attributes := #[] }
def k14m0 : Method := { name := "<init>", desc := "(Lcom/example/gauger/gauger/engine/PageRankSettings$Builder;)V", sig := { parameters := [(.object "com/example/gauger/gauger/engine/PageRankSettings$Builder")], returnType := none }, accessFlags := 2, code := some k14c0 }
def k14c1 : Code := { maxStack := 2, maxLocals := 1, code := prog_9_method_2_code, exceptionTable := #[], attributes := #[] }
def k14m1 : Method := { name := "damping", desc := "()D", sig := { parameters := [], returnType := some .double }, accessFlags := 1, code := some k14c1 }
def k14c2 : Code := { maxStack := 2, maxLocals := 1, code := prog_9_method_3_code, exceptionTable := #[], attributes := #[] }
def k14m2 : Method := { name := "start", desc := "()D", sig := { parameters := [], returnType := some .double }, accessFlags := 1, code := some k14c2 }
def k14c3 : Code := { maxStack := 2, maxLocals := 1, code := prog_9_method_4_code, exceptionTable := #[], attributes := #[] }
def k14m3 : Method := { name := "tolerance", desc := "()D", sig := { parameters := [], returnType := some .double }, accessFlags := 1, code := some k14c3 }
def k14c4 : Code := { maxStack := 1, maxLocals := 1, code := prog_9_method_5_code, exceptionTable := #[], attributes := #[] }
def k14m4 : Method := { name := "maxPasses", desc := "()I", sig := { parameters := [], returnType := some .int }, accessFlags := 1, code := some k14c4 }
def k14c5 : Code := { maxStack := 1, maxLocals := 1, code := prog_9_method_6_code, exceptionTable := #[], attributes := #[] }
def k14m5 : Method := { name := "updates", desc := "()Lcom/example/gauger/gauger/engine/Updates;", sig := { parameters := [], returnType := some (.object "com/example/gauger/gauger/engine/Updates") }, accessFlags := 1, code := some k14c5 }
def k14c6 : Code := { maxStack := 1, maxLocals := 1, code := prog_9_method_7_code, exceptionTable := #[], attributes := #[] }
def k14m6 : Method := { name := "scale", desc := "()Lcom/example/gauger/gauger/engine/Scale;", sig := { parameters := [], returnType := some (.object "com/example/gauger/gauger/engine/Scale") }, accessFlags := 1, code := some k14c6 }
def k14c7 : Code := { maxStack := 1, maxLocals := 1, code := prog_9_method_8_code, exceptionTable := #[], attributes := #[] }
def k14m7 : Method := { name := "dangling", desc := "()Lcom/example/gauger/gauger/engine/Dangling;", sig := { parameters := [], returnType := some (.object "com/example/gauger/gauger/engine/Dangling") }, accessFlags := 1, code := some k14c7 }
def k14c8 : Code := { maxStack := 1, maxLocals := 1, code := prog_9_method_9_code, exceptionTable := #[], attributes := #[] }
def k14m8 : Method := { name := "personal", desc := "()Ljava/util/Set;", sig := { parameters := [], returnType := some (.object "java/util/Set") }, accessFlags := 1, code := some k14c8 }
/-- com/example/gauger/gauger/engine/PageRankSettings -/
def k14 : Class := { plain "com/example/gauger/gauger/engine/PageRankSettings" (some 0) with
  accessFlags := 49
  interfaces := #[]
  cf := some (fileOf pool14 14 #[.nestMembers #[8]] #[{ accessFlags := 2, nameIndex := 5, descriptorIndex := 60, attributes := #[] }, { accessFlags := 1, nameIndex := 11, descriptorIndex := 63, attributes := #[] }, { accessFlags := 1, nameIndex := 18, descriptorIndex := 63, attributes := #[] }, { accessFlags := 1, nameIndex := 22, descriptorIndex := 63, attributes := #[] }, { accessFlags := 1, nameIndex := 26, descriptorIndex := 64, attributes := #[] }, { accessFlags := 1, nameIndex := 31, descriptorIndex := 65, attributes := #[] }, { accessFlags := 1, nameIndex := 36, descriptorIndex := 66, attributes := #[] }, { accessFlags := 1, nameIndex := 41, descriptorIndex := 67, attributes := #[] }, { accessFlags := 1, nameIndex := 46, descriptorIndex := 68, attributes := #[] }] 49 2 #[] #[{ accessFlags := 25, nameIndex := 56, descriptorIndex := 57, attributes := #[] }, { accessFlags := 18, nameIndex := 11, descriptorIndex := 12, attributes := #[] }, { accessFlags := 18, nameIndex := 18, descriptorIndex := 12, attributes := #[] }, { accessFlags := 18, nameIndex := 22, descriptorIndex := 12, attributes := #[] }, { accessFlags := 18, nameIndex := 26, descriptorIndex := 27, attributes := #[] }, { accessFlags := 18, nameIndex := 31, descriptorIndex := 32, attributes := #[] }, { accessFlags := 18, nameIndex := 36, descriptorIndex := 37, attributes := #[] }, { accessFlags := 18, nameIndex := 41, descriptorIndex := 42, attributes := #[] }, { accessFlags := 18, nameIndex := 46, descriptorIndex := 47, attributes := #[] }])
  fields := #[{ name := "DEFAULTS", type := (.object "com/example/gauger/gauger/engine/PageRankSettings"), accessFlags := 25, slot := 0, constantValue := 0 }, { name := "damping", type := .double, accessFlags := 18, slot := 0, constantValue := 0 }, { name := "start", type := .double, accessFlags := 18, slot := 1, constantValue := 0 }, { name := "tolerance", type := .double, accessFlags := 18, slot := 2, constantValue := 0 }, { name := "maxPasses", type := .int, accessFlags := 18, slot := 3, constantValue := 0 }, { name := "updates", type := (.object "com/example/gauger/gauger/engine/Updates"), accessFlags := 18, slot := 4, constantValue := 0 }, { name := "scale", type := (.object "com/example/gauger/gauger/engine/Scale"), accessFlags := 18, slot := 5, constantValue := 0 }, { name := "dangling", type := (.object "com/example/gauger/gauger/engine/Dangling"), accessFlags := 18, slot := 6, constantValue := 0 }, { name := "personal", type := (.object "java/util/Set"), accessFlags := 18, slot := 7, constantValue := 0 }]
  methods := #[k14m0, k14m1, k14m2, k14m3, k14m4, k14m5, k14m6, k14m7, k14m8]
  instanceTypes := #[.double, .double, .double, .int, (.object "com/example/gauger/gauger/engine/Updates"), (.object "com/example/gauger/gauger/engine/Scale"), (.object "com/example/gauger/gauger/engine/Dangling"), (.object "java/util/Set")]
  staticTypes := #[(.object "com/example/gauger/gauger/engine/PageRankSettings")]
  resolved := ⟨[none, none, none, none, none, none, none, some (.field 2 1), none, none, none, none, none, none, none, none, some (.field 2 2), none, none, none, some (.field 2 3), none, none, none, some (.field 2 4), none, none, none, none, some (.field 2 5), none, none, none, none, some (.field 2 6), none, none, none, none, some (.field 2 7), none, none, none, none, some (.field 2 8), none, none, none, none, none, none, none, none, none, none, none, none, none, none, none, none, none, none, none, none, none, none, none, none, none, none, none, none, none, none, none]⟩
  statics := none }

def pool15 : Array CpInfo := pool [(2, .class_ 4), (1, u "java/lang/Object"), (0, u "<init>"), (0, u "()V"), (1, .class_ 10), (1, u "java/util/AbstractCollection"), (66, .class_ 78), (0, u "java/util/Collection")] 81

def k15m0 : Method := { name := "<init>", desc := "()V", sig := { parameters := [], returnType := none }, accessFlags := 4, code := none }
/-- java/util/AbstractCollection -/
def k15 : Class := { plain "java/util/AbstractCollection" (some 0) with
  accessFlags := 1057
  interfaces := #[11]
  cf := some (fileOf pool15 8 #[] #[{ accessFlags := 4, nameIndex := 5, descriptorIndex := 6, attributes := #[] }] 1057 2 #[77] #[])
  fields := #[]
  methods := #[k15m0]
  instanceTypes := #[]
  staticTypes := #[]
  resolved := Array.replicate 160 none
  statics := none }

def pool16 : Array CpInfo := pool [(2, .class_ 4), (1, u "java/util/AbstractCollection"), (0, u "<init>"), (0, u "()V"), (1, .class_ 10), (1, u "java/util/ImmutableCollections"), (2, .class_ 14), (0, u "java/util/ImmutableCollections$AbstractImmutableCollection")] 41

def k16m0 : Method := { name := "<init>", desc := "()V", sig := { parameters := [], returnType := none }, accessFlags := 0, code := none }
/-- java/util/ImmutableCollections$AbstractImmutableCollection -/
def k16 : Class := { plain "java/util/ImmutableCollections$AbstractImmutableCollection" (some 15) with
  accessFlags := 1056
  interfaces := #[]
  cf := some (fileOf pool16 13 #[.nestHost 8] #[{ accessFlags := 0, nameIndex := 5, descriptorIndex := 6, attributes := #[] }] 1056 2 #[] #[])
  fields := #[]
  methods := #[k16m0]
  instanceTypes := #[]
  staticTypes := #[]
  resolved := Array.replicate 56 none
  statics := none }

def pool17 : Array CpInfo := pool [(2, .class_ 4), (1, u "java/util/ImmutableCollections$AbstractImmutableCollection"), (0, u "<init>"), (0, u "()V"), (0, .class_ 8), (0, u "java/util/Set"), (7, .class_ 17), (0, u "java/util/ImmutableCollections$AbstractImmutableSet"), (43, .class_ 62), (0, u "java/util/ImmutableCollections")] 3

def k17m0 : Method := { name := "<init>", desc := "()V", sig := { parameters := [], returnType := none }, accessFlags := 0, code := none }
/-- java/util/ImmutableCollections$AbstractImmutableSet -/
def k17 : Class := { plain "java/util/ImmutableCollections$AbstractImmutableSet" (some 16) with
  accessFlags := 1056
  interfaces := #[12]
  cf := some (fileOf pool17 16 #[.nestHost 61] #[{ accessFlags := 0, nameIndex := 5, descriptorIndex := 6, attributes := #[] }] 1056 2 #[7] #[])
  fields := #[]
  methods := #[k17m0]
  instanceTypes := #[]
  staticTypes := #[]
  resolved := Array.replicate 66 none
  statics := none }

def pool18 : Array CpInfo := pool [(1, .class_ 2), (0, u "java/util/ImmutableCollections"), (1, .class_ 6), (1, u "java/util/ImmutableCollections$AbstractImmutableSet"), (3, .class_ 12), (1, u "java/util/ImmutableCollections$SetN"), (0, u "size"), (0, u "I"), (4, u "elements"), (0, u "[Ljava/lang/Object;"), (86, .class_ 108), (0, u "java/io/Serializable")] 59

/-- java/util/ImmutableCollections$SetN -/
def k18 : Class := { plain "java/util/ImmutableCollections$SetN" (some 17) with
  accessFlags := 48
  interfaces := #[5]
  cf := some (fileOf pool18 10 #[.nestHost 1] #[] 48 4 #[107] #[{ accessFlags := 16, nameIndex := 19, descriptorIndex := 20, attributes := #[] }, { accessFlags := 16, nameIndex := 13, descriptorIndex := 14, attributes := #[] }])
  fields := #[{ name := "elements", type := (.array (.object "java/lang/Object")), accessFlags := 16, slot := 0, constantValue := 0 }, { name := "size", type := .int, accessFlags := 16, slot := 1, constantValue := 0 }]
  methods := #[]
  instanceTypes := #[(.array (.object "java/lang/Object")), .int]
  staticTypes := #[]
  resolved := Array.replicate 168 none
  statics := none }

def pool19 : Array CpInfo := pool [(1, u "java/lang/Cloneable"), (0, .class_ 1), (0, u "java/lang/Object"), (0, .class_ 3)] 3

/-- java/lang/Cloneable -/
def k19 : Class := { plain "java/lang/Cloneable" (some 0) with
  accessFlags := 1537
  interfaces := #[]
  cf := some (fileOf pool19 2 #[] #[] 1537 4 #[] #[])
  fields := #[]
  methods := #[]
  instanceTypes := #[]
  staticTypes := #[]
  resolved := Array.replicate 8 none
  statics := none }

/-- the primitive byte -/
def k20 : Class := { plain "byte" none with kind := .primitive 'B', accessFlags := 0x411 }
/-- [B -/
def k21 : Class := { plain "[B" (some 0) with kind := .array 20 .byte, interfaces := #[19, 5], accessFlags := 1041 }

/-- the primitive int -/
def k22 : Class := { plain "int" none with kind := .primitive 'I', accessFlags := 0x411 }
/-- [I -/
def k23 : Class := { plain "[I" (some 0) with kind := .array 22 .int, interfaces := #[19, 5], accessFlags := 1041 }

/-- [Ljava/lang/Object; -/
def k24 : Class := { plain "[Ljava/lang/Object;" (some 0) with kind := .array 0 (.object "java/lang/Object"), interfaces := #[19, 5], accessFlags := 1041 }

def heap : Heap := #[{ cls := 7, slots := #[.ref 5, .null, .null], vm := .statics 7 },
  { cls := 8, slots := #[.ref 6, .null, .null], vm := .statics 8 },
  { cls := 9, slots := #[.ref 7, .null, .null, .null], vm := .statics 9 },
  { cls := 13, slots := #[.long 0, .int 0, .null, .null, .null, .null, .ref 8, .null, .int 0, .int 0], vm := .statics 13 },
  { cls := 24, slots := #[], vm := .none },
  { cls := 7, slots := #[.null, .int 0, .int 0], vm := .none },
  { cls := 8, slots := #[.null, .int 0, .int 0], vm := .none },
  { cls := 9, slots := #[.null, .int 0, .int 0], vm := .none },
  { cls := 18, slots := #[.ref 4, .int 0], vm := .none }]
def classes : Array Class := #[k0, k1, k2, k3, k4, k5, k6, k7, k8, k9, k10, k11, k12, k13, k14, k15, k16, k17, k18, k19, k20, k21, k22, k23, k24]
def interned : List (Array UInt16 × Addr) := []
def slotsUsed : Nat := 31
def theMethod : MethodId := ⟨1, 1⟩
def args0 : Array Value := #[.int 5, .int 5, .int 5]
def aboutOver (below : List Frame) : State where
  vm := { classes := classes, interned := interned.toArray }
  heap := heap
  slotsUsed := slotsUsed
  threads := #[{ frames := .invoking theMethod args0 :: below }]
def below0 : List Frame := [.native { method := ⟨0, 0⟩, args := #[] }]
def about1 : State := aboutOver below0
def p0 : Program := .bare "" "" ""
def e0 : Env := launch0.env 0 0 0
theorem w_frames : about1.frames = Frame.invoking theMethod args0 :: below0 := rfl
set_option maxRecDepth 65536 in
theorem w_args : argsFit about1.vm theMethod args0 = true := by decide +kernel
set_option maxRecDepth 65536 in
theorem w_heap : heapFits about1 = true := by decide +kernel
set_option maxRecDepth 65536 in
theorem w_runnable : about1.curStatus? = some .runnable := by decide +kernel
set_option maxRecDepth 65536 in
theorem w_alone : about1.alone = true := by decide +kernel
set_option maxRecDepth 65536 in
theorem w_named : about1.methodNamed? x = some theMethod := by decide +kernel
set_option maxRecDepth 65536 in
theorem w_hears : about1.hears theMethod below0 = true := by decide +kernel
set_option maxRecDepth 65536 in
theorem w_ripe : about1.ripe theMethod args0 below0 = true := by decide +kernel
theorem w_running : about1.status = .running := rfl
set_option maxRecDepth 65536 in
theorem w_room : about1.hasRoom e0.platform room_1 = true :=
  launch0.hasRoom_least _ room_1 (by decide +kernel) (by decide +kernel) (by decide +kernel) (by decide +kernel) (by decide +kernel) (by decide +kernel)
theorem allAtoms_all (ts : List Jvm.Cond) (a : Array Jvm.Value) (st : Jvm.State) : (allAtoms ts).before a st = ts.all (fun c => c.before a st) := by
  induction ts with
  | nil => rfl
  | cons c t ih =>
    show (Jvm.Cond.and c (allAtoms t)).before a st = _
    rw [Jvm.Cond.before_and, ih, List.all_cons]
def words1 : List Jvm.Cond := Jvm.Cond.code x code maxLocals ret :: tables_1
/-- a 'code' word, met by the world's own term for the bytes: nothing is compared byte by byte -/
theorem code_word {y : MethodName} {bytes : ByteArray} {mx : Nat} {rt : Option FieldType} {a : Array Value} {s : State} {m : MethodId} {meth : Method} {c : Code} (h1 : s.methodNamed? y = some m) (h2 : s.vm.method? m = some meth) (h3 : meth.code = some c) (h4 : c.code = bytes)
    (h5 : (c.maxLocals == mx && c.exceptionTable.isEmpty && decide (c.maxStack ≤ mostOperands) && decide (meth.sig.returnType = rt) && !meth.locks && decide (parseMethodDescriptor y.desc = some meth.sig)) = true) : (Jvm.Cond.code y bytes mx rt).before a s = true := by
  simp only [Bool.and_eq_true, beq_iff_eq, Bool.not_eq_true', decide_eq_true_eq] at h5
  obtain ⟨⟨⟨⟨⟨g1, g2⟩, g3⟩, g4⟩, g5⟩, g6⟩ := h5
  simp [Cond.before, Cond.holds, Cond.value, h1, h2, h3, h4, g1, g2, g3, g4, g5, g6]
def isCode : Jvm.Cond → Bool
  | .code _ _ _ _ => true
  | _ => false
theorem all_split {L : List Jvm.Cond} {P : Jvm.Cond → Bool} (h1 : L.all (fun c => isCode c || P c) = true) (h2 : ∀ c ∈ L.filter isCode, P c = true) : L.all P = true := by
  refine List.all_eq_true.mpr fun c hc => ?_
  have h := List.all_eq_true.mp h1 c hc
  rcases Bool.eq_false_or_eq_true (isCode c) with hi | hi
  · exact h2 c (List.mem_filter.mpr ⟨hc, hi⟩)
  · simpa [hi] using h
set_option maxRecDepth 65536 in
theorem w_c0 : (Jvm.Cond.code x code maxLocals ret).before args0 about1 = true := code_word (m := ⟨1, 1⟩) (meth := k1m1) (c := k1c1) (by decide +kernel) rfl rfl rfl (by decide +kernel)
set_option maxRecDepth 65536 in
theorem w_c1 : (Jvm.Cond.code ({ cls := "com/example/gauger/gauger/engine/PageRankSettings$Builder", name := "<init>", desc := "()V" } : Jvm.MethodName) prog_10_method_1_code (1 : Nat) (Option.none : Option Jvm.ClassFile.FieldType)).before args0 about1 = true := code_word (m := ⟨2, 0⟩) (meth := k2m0) (c := k2c0) (by decide +kernel) rfl rfl rfl (by decide +kernel)
set_option maxRecDepth 65536 in
theorem w_c2 : (Jvm.Cond.code ({ cls := "java/lang/Object", name := "<init>", desc := "()V" } : Jvm.MethodName) object_method_1_code (1 : Nat) (Option.none : Option Jvm.ClassFile.FieldType)).before args0 about1 = true := code_word (m := ⟨0, 0⟩) (meth := k0m0) (c := k0c0) (by decide +kernel) rfl rfl rfl (by decide +kernel)
set_option maxRecDepth 65536 in
theorem w_c3 : (Jvm.Cond.code ({ cls := "java/util/Set", name := "of", desc := "()Ljava/util/Set;" } : Jvm.MethodName) jdk_96_method_17_code (0 : Nat) (Option.some (Jvm.ClassFile.FieldType.object "java/util/Set"))).before args0 about1 = true := code_word (m := ⟨12, 0⟩) (meth := k12m0) (c := k12c0) (by decide +kernel) rfl rfl rfl (by decide +kernel)
set_option maxRecDepth 65536 in
theorem w_c4 : (Jvm.Cond.code ({ cls := "com/example/gauger/gauger/engine/PageRankSettings$Builder", name := "build", desc := "()Lcom/example/gauger/gauger/engine/PageRankSettings;" } : Jvm.MethodName) prog_10_method_10_code (1 : Nat) (Option.some (Jvm.ClassFile.FieldType.object "com/example/gauger/gauger/engine/PageRankSettings"))).before args0 about1 = true := code_word (m := ⟨2, 2⟩) (meth := k2m2) (c := k2c2) (by decide +kernel) rfl rfl rfl (by decide +kernel)
set_option maxRecDepth 65536 in
theorem w_c5 : (Jvm.Cond.code ({ cls := "com/example/gauger/gauger/engine/PageRankSettings", name := "<init>", desc := "(Lcom/example/gauger/gauger/engine/PageRankSettings$Builder;)V" } : Jvm.MethodName) prog_9_method_1_code (2 : Nat) (Option.none : Option Jvm.ClassFile.FieldType)).before args0 about1 = true := code_word (m := ⟨14, 0⟩) (meth := k14m0) (c := k14c0) (by decide +kernel) rfl rfl rfl (by decide +kernel)
set_option maxRecDepth 65536 in
theorem w_c6 : (Jvm.Cond.code ({ cls := "com/example/gauger/gauger/engine/PageRankSettings$Builder", name := "maxPasses", desc := "(I)Lcom/example/gauger/gauger/engine/PageRankSettings$Builder;" } : Jvm.MethodName) prog_10_method_5_code (2 : Nat) (Option.some (Jvm.ClassFile.FieldType.object "com/example/gauger/gauger/engine/PageRankSettings$Builder"))).before args0 about1 = true := code_word (m := ⟨2, 1⟩) (meth := k2m1) (c := k2c1) (by decide +kernel) rfl rfl rfl (by decide +kernel)
set_option maxRecDepth 65536 in
theorem w_c7 : (Jvm.Cond.code ({ cls := "com/example/gauger/gauger/engine/PageRankSettings", name := "maxPasses", desc := "()I" } : Jvm.MethodName) prog_9_method_5_code (1 : Nat) (Option.some Jvm.ClassFile.FieldType.int)).before args0 about1 = true := code_word (m := ⟨14, 4⟩) (meth := k14m4) (c := k14c4) (by decide +kernel) rfl rfl rfl (by decide +kernel)
set_option maxRecDepth 65536 in
theorem w_c8 : (Jvm.Cond.code ({ cls := "com/example/gauger/gauger/engine/PageRankSettings", name := "damping", desc := "()D" } : Jvm.MethodName) prog_9_method_2_code (1 : Nat) (Option.some Jvm.ClassFile.FieldType.double)).before args0 about1 = true := code_word (m := ⟨14, 1⟩) (meth := k14m1) (c := k14c1) (by decide +kernel) rfl rfl rfl (by decide +kernel)
set_option maxRecDepth 65536 in
theorem w_c9 : (Jvm.Cond.code ({ cls := "com/example/gauger/gauger/engine/PageRankSettings", name := "start", desc := "()D" } : Jvm.MethodName) prog_9_method_3_code (1 : Nat) (Option.some Jvm.ClassFile.FieldType.double)).before args0 about1 = true := code_word (m := ⟨14, 2⟩) (meth := k14m2) (c := k14c2) (by decide +kernel) rfl rfl rfl (by decide +kernel)
set_option maxRecDepth 65536 in
theorem w_c10 : (Jvm.Cond.code ({ cls := "com/example/gauger/gauger/engine/PageRankSettings", name := "tolerance", desc := "()D" } : Jvm.MethodName) prog_9_method_4_code (1 : Nat) (Option.some Jvm.ClassFile.FieldType.double)).before args0 about1 = true := code_word (m := ⟨14, 3⟩) (meth := k14m3) (c := k14c3) (by decide +kernel) rfl rfl rfl (by decide +kernel)
set_option maxRecDepth 65536 in
theorem w_c11 : (Jvm.Cond.code ({ cls := "com/example/gauger/gauger/engine/PageRankSettings", name := "updates", desc := "()Lcom/example/gauger/gauger/engine/Updates;" } : Jvm.MethodName) prog_9_method_6_code (1 : Nat) (Option.some (Jvm.ClassFile.FieldType.object "com/example/gauger/gauger/engine/Updates"))).before args0 about1 = true := code_word (m := ⟨14, 5⟩) (meth := k14m5) (c := k14c5) (by decide +kernel) rfl rfl rfl (by decide +kernel)
set_option maxRecDepth 65536 in
theorem w_c12 : (Jvm.Cond.code ({ cls := "com/example/gauger/gauger/engine/PageRankSettings", name := "scale", desc := "()Lcom/example/gauger/gauger/engine/Scale;" } : Jvm.MethodName) prog_9_method_7_code (1 : Nat) (Option.some (Jvm.ClassFile.FieldType.object "com/example/gauger/gauger/engine/Scale"))).before args0 about1 = true := code_word (m := ⟨14, 6⟩) (meth := k14m6) (c := k14c6) (by decide +kernel) rfl rfl rfl (by decide +kernel)
set_option maxRecDepth 65536 in
theorem w_c13 : (Jvm.Cond.code ({ cls := "com/example/gauger/gauger/engine/PageRankSettings", name := "dangling", desc := "()Lcom/example/gauger/gauger/engine/Dangling;" } : Jvm.MethodName) prog_9_method_8_code (1 : Nat) (Option.some (Jvm.ClassFile.FieldType.object "com/example/gauger/gauger/engine/Dangling"))).before args0 about1 = true := code_word (m := ⟨14, 7⟩) (meth := k14m7) (c := k14c7) (by decide +kernel) rfl rfl rfl (by decide +kernel)
set_option maxRecDepth 65536 in
theorem w_c14 : (Jvm.Cond.code ({ cls := "com/example/gauger/gauger/engine/PageRankSettings", name := "personal", desc := "()Ljava/util/Set;" } : Jvm.MethodName) prog_9_method_9_code (1 : Nat) (Option.some (Jvm.ClassFile.FieldType.object "java/util/Set"))).before args0 about1 = true := code_word (m := ⟨14, 8⟩) (meth := k14m8) (c := k14c8) (by decide +kernel) rfl rfl rfl (by decide +kernel)
def codes1 : List Jvm.Cond := [Jvm.Cond.code x code maxLocals ret, Jvm.Cond.code ({ cls := "com/example/gauger/gauger/engine/PageRankSettings$Builder", name := "<init>", desc := "()V" } : Jvm.MethodName) prog_10_method_1_code (1 : Nat) (Option.none : Option Jvm.ClassFile.FieldType), Jvm.Cond.code ({ cls := "java/lang/Object", name := "<init>", desc := "()V" } : Jvm.MethodName) object_method_1_code (1 : Nat) (Option.none : Option Jvm.ClassFile.FieldType), Jvm.Cond.code ({ cls := "java/util/Set", name := "of", desc := "()Ljava/util/Set;" } : Jvm.MethodName) jdk_96_method_17_code (0 : Nat) (Option.some (Jvm.ClassFile.FieldType.object "java/util/Set")), Jvm.Cond.code ({ cls := "com/example/gauger/gauger/engine/PageRankSettings$Builder", name := "build", desc := "()Lcom/example/gauger/gauger/engine/PageRankSettings;" } : Jvm.MethodName) prog_10_method_10_code (1 : Nat) (Option.some (Jvm.ClassFile.FieldType.object "com/example/gauger/gauger/engine/PageRankSettings")), Jvm.Cond.code ({ cls := "com/example/gauger/gauger/engine/PageRankSettings", name := "<init>", desc := "(Lcom/example/gauger/gauger/engine/PageRankSettings$Builder;)V" } : Jvm.MethodName) prog_9_method_1_code (2 : Nat) (Option.none : Option Jvm.ClassFile.FieldType), Jvm.Cond.code ({ cls := "com/example/gauger/gauger/engine/PageRankSettings$Builder", name := "maxPasses", desc := "(I)Lcom/example/gauger/gauger/engine/PageRankSettings$Builder;" } : Jvm.MethodName) prog_10_method_5_code (2 : Nat) (Option.some (Jvm.ClassFile.FieldType.object "com/example/gauger/gauger/engine/PageRankSettings$Builder")), Jvm.Cond.code ({ cls := "com/example/gauger/gauger/engine/PageRankSettings", name := "maxPasses", desc := "()I" } : Jvm.MethodName) prog_9_method_5_code (1 : Nat) (Option.some Jvm.ClassFile.FieldType.int), Jvm.Cond.code ({ cls := "com/example/gauger/gauger/engine/PageRankSettings", name := "damping", desc := "()D" } : Jvm.MethodName) prog_9_method_2_code (1 : Nat) (Option.some Jvm.ClassFile.FieldType.double), Jvm.Cond.code ({ cls := "com/example/gauger/gauger/engine/PageRankSettings", name := "start", desc := "()D" } : Jvm.MethodName) prog_9_method_3_code (1 : Nat) (Option.some Jvm.ClassFile.FieldType.double), Jvm.Cond.code ({ cls := "com/example/gauger/gauger/engine/PageRankSettings", name := "tolerance", desc := "()D" } : Jvm.MethodName) prog_9_method_4_code (1 : Nat) (Option.some Jvm.ClassFile.FieldType.double), Jvm.Cond.code ({ cls := "com/example/gauger/gauger/engine/PageRankSettings", name := "updates", desc := "()Lcom/example/gauger/gauger/engine/Updates;" } : Jvm.MethodName) prog_9_method_6_code (1 : Nat) (Option.some (Jvm.ClassFile.FieldType.object "com/example/gauger/gauger/engine/Updates")), Jvm.Cond.code ({ cls := "com/example/gauger/gauger/engine/PageRankSettings", name := "scale", desc := "()Lcom/example/gauger/gauger/engine/Scale;" } : Jvm.MethodName) prog_9_method_7_code (1 : Nat) (Option.some (Jvm.ClassFile.FieldType.object "com/example/gauger/gauger/engine/Scale")), Jvm.Cond.code ({ cls := "com/example/gauger/gauger/engine/PageRankSettings", name := "dangling", desc := "()Lcom/example/gauger/gauger/engine/Dangling;" } : Jvm.MethodName) prog_9_method_8_code (1 : Nat) (Option.some (Jvm.ClassFile.FieldType.object "com/example/gauger/gauger/engine/Dangling")), Jvm.Cond.code ({ cls := "com/example/gauger/gauger/engine/PageRankSettings", name := "personal", desc := "()Ljava/util/Set;" } : Jvm.MethodName) prog_9_method_9_code (1 : Nat) (Option.some (Jvm.ClassFile.FieldType.object "java/util/Set"))]
set_option maxRecDepth 65536 in
theorem codes_eq : words1.filter isCode = codes1 := rfl
theorem w_codes : ∀ c ∈ words1.filter isCode, c.before args0 about1 = true := by
  rw [codes_eq]
  intro c hc
  simp only [codes1, List.mem_cons, List.not_mem_nil, or_false] at hc
  rcases hc with rfl | rfl | rfl | rfl | rfl | rfl | rfl | rfl | rfl | rfl | rfl | rfl | rfl | rfl | rfl
  · exact w_c0
  · exact w_c1
  · exact w_c2
  · exact w_c3
  · exact w_c4
  · exact w_c5
  · exact w_c6
  · exact w_c7
  · exact w_c8
  · exact w_c9
  · exact w_c10
  · exact w_c11
  · exact w_c12
  · exact w_c13
  · exact w_c14
set_option maxRecDepth 65536 in
theorem w_t1 : (words1.take 24).all (fun c => isCode c || c.before args0 about1) = true := by decide +kernel
set_option maxRecDepth 65536 in
theorem w_t2 : ((words1.drop 24).take 24).all (fun c => isCode c || c.before args0 about1) = true := by decide +kernel
set_option maxRecDepth 65536 in
theorem w_t3 : (((words1.drop 24).drop 24).take 24).all (fun c => isCode c || c.before args0 about1) = true := by decide +kernel
set_option maxRecDepth 65536 in
theorem w_t4 : ((((words1.drop 24).drop 24).drop 24).take 24).all (fun c => isCode c || c.before args0 about1) = true := by decide +kernel
set_option maxRecDepth 65536 in
theorem w_t5 : (((((words1.drop 24).drop 24).drop 24).drop 24).take 24).all (fun c => isCode c || c.before args0 about1) = true := by decide +kernel
set_option maxRecDepth 65536 in
theorem w_t6 : (((((words1.drop 24).drop 24).drop 24).drop 24).drop 24).all (fun c => isCode c || c.before args0 about1) = true := by decide +kernel
theorem w_tables : (allAtoms (Jvm.Cond.code x code maxLocals ret :: tables_1)).before args0 about1 = true := by
  rw [allAtoms_all]
  show words1.all (fun c => c.before args0 about1) = true
  refine all_split ?_ w_codes
  rw [← List.take_append_drop 24 words1, List.all_append, w_t1, ← List.take_append_drop 24 (words1.drop 24), List.all_append, w_t2, ← List.take_append_drop 24 ((words1.drop 24).drop 24), List.all_append, w_t3, ← List.take_append_drop 24 (((words1.drop 24).drop 24).drop 24), List.all_append, w_t4, ← List.take_append_drop 24 ((((words1.drop 24).drop 24).drop 24).drop 24), List.all_append, w_t5, w_t6]
  rfl
set_option maxRecDepth 65536 in
theorem w_rest : rest_1_c.before args0 about1 = true := by decide +kernel
set_option maxRecDepth 65536 in
theorem w_case : (Jvm.Cond.and given_1 narrow_1).before args0 about1 = true := by decide +kernel
theorem w_applies : (headSpec (Jvm.Cond.code x code maxLocals ret :: tables_1) room_1).applies x e0.platform about1 = true :=
  (Spec.applies_iff w_frames).mpr ⟨w_running, w_runnable, w_alone, w_named, w_hears, w_ripe, w_room, w_tables⟩
theorem atStart : AtStart classFile x code maxLocals ret World_1 tables_1 room_1 Calls_1 rest_1 Pre_1 launch0 p0 e0 about1 theMethod args0 below0 :=
  ⟨lists_1, trivial, launch0.admits_env _ _ _, launch0.least_env, fairChoices_fair.cas, fairChoices_fair.clock, w_frames, w_args, w_heap, w_applies, trivial, w_rest, w_case⟩
end start1
theorem witness_1 : WitnessClaimed_1 := ⟨start1.p0, start1.e0, start1.about1, start1.theMethod, start1.args0, start1.below0, start1.atStart⟩
end Jvm.Pilot.@@N@@

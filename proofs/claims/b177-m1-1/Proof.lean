import JvmDerived
import JvmDerived.Pilot.@@N@@Statement
import JvmDerived.Pilot.@@N@@Code
set_option linter.unusedVariables false
set_option linter.unusedSimpArgs false
namespace Jvm.OwnWp
open Sem ClassFile Op Lib Jvm.Stand Jvm.Free Jvm.LawKit Jvm.RoadKit
/-- what holds of the method that is walked: its bytes, its class, its tables -/
def Cx (Z : State) (own nm : String) (bytes : ByteArray) (ml : Nat) (ret : Option FieldType) (p : Program) (s : State) (m : MethodId) (meth : Method) (c : Code) : Prop :=
  p.tables.exec = Jvm.exec ∧ Z.Warmed39 s.vm ∧ s.vm.findClass own = some m.cls ∧ c.code = bytes ∧ c.maxLocals = ml ∧ meth.sig.returnType = ret ∧ meth.locks = false ∧ meth.name = nm
/-- from the frame g over the heap h the method returns v at a heap of which Q holds; it has written fresh places alone -/
def Go (p : Program) (l : Launch) (e : Env) (R : Room) (s : State) (m : MethodId) (args : Array Value) (below : List Frame) (meth : Method) (c : Code) (n0 : Nat) (h : Heap) (ce sl : Nat) (g : JFrame) (Q : Option Value → Heap → Prop) : Prop :=
  ∀ (T : State) (L : List Loc), Stand p l e R s m args below meth c T L ce sl → Fr n0 L → T.heap = h →
    ∃ (s₂ : State) (v : Option Value) (L' : List Loc), Steps p.tables e below (T.setTop g) s₂ ∧ s₂.status = .running ∧ Ended s₂ below (.returned v) ∧ Fr n0 L' ∧ Q v s₂.heap ∧ FrameEnd s (.returned v) s₂ L' R.cells R.slots
/-- the contract of a method: called with the values as' over the heap h it returns as Q says -/
def Ctr (l : Launch) (Z : State) (y : MethodName) (bytes : ByteArray) (ml : Nat) (ret : Option FieldType) (ws : List Cond) (rm : Room) (n0 : Nat) (as' : Array Value) (h : Heap) (Q : Option Value → Heap → Prop) : Prop :=
  MetFree l y (head1 (Cond.code y bytes ml ret :: ws) rm) (fun a U => a = as' ∧ Z.Warmed39 U.vm ∧ U.heap = h) (fun _ _ _ _ _ => True) (fun _ U o U' => ∃ v L, o = .returned v ∧ (Q v U'.heap ∧ Fr n0 L) ∧ FrameEnd U o U' L rm.cells rm.slots)
section Walk
variable {p : Program} {l : Launch} {e : Env} {R : Room} {s : State} {m : MethodId} {args : Array Value} {below : List Frame} {meth : Method} {c : Code} {Z : State} {a0 : Array Value} {own nm : String} {bytes : ByteArray} {ml : Nat} {ret : Option FieldType} {n0 ce sl pc pc' : Nat} {h : Heap} {Ls Ls' : Array Slot} {S : List Value} {Q : Option Value → Heap → Prop}
theorem one {g g' : JFrame} (st : ∀ (T : State) (L : List Loc), Stand p l e R s m args below meth c T L ce sl → T.heap = h → ∀ t, Steps p.tables e below (T.setTop g') t → Steps p.tables e below (T.setTop g) t) (q : Go p l e R s m args below meth c n0 h ce sl g' Q) : Go p l e R s m args below meth c n0 h ce sl g Q := fun T L X N eT => by
  obtain ⟨s₂, v, L', a1, r⟩ := q T L X N eT
  exact ⟨s₂, v, L', st T L X eT _ a1, r⟩
/-- a step that goes to another state over the same heap -/
theorem oneT {g g' : JFrame} (st : ∀ (T : State) (L : List Loc), Stand p l e R s m args below meth c T L ce sl → T.heap = h → ∃ T', Stand p l e R s m args below meth c T' L ce sl ∧ T'.heap = h ∧ ∀ t, Steps p.tables e below (T'.setTop g') t → Steps p.tables e below (T.setTop g) t) (q : Go p l e R s m args below meth c n0 h ce sl g' Q) : Go p l e R s m args below meth c n0 h ce sl g Q := fun T L X N eT => by
  obtain ⟨T', X', eT', k⟩ := st T L X eT
  obtain ⟨s₂, v, L', a1, r⟩ := q T' L X' N eT'
  exact ⟨s₂, v, L', k _ a1, r⟩
theorem Go.cast {g g' : JFrame} (q : g = g') (k : Go p l e R s m args below meth c n0 h ce sl g' Q) : Go p l e R s m args below meth c n0 h ce sl g Q := q ▸ k
theorem Go.mono {g : JFrame} {Q' : Option Value → Heap → Prop} (k : Go p l e R s m args below meth c n0 h ce sl g Q') (q : ∀ v h, Q' v h → Q v h) : Go p l e R s m args below meth c n0 h ce sl g Q := fun T L X N eT => by
  obtain ⟨s₂, v, L', a1, a2, a3, a4, a5, r⟩ := k T L X N eT
  exact ⟨s₂, v, L', a1, a2, a3, a4, q _ _ a5, r⟩

theorem iloadN (K : Cx Z own nm bytes ml ret p s m meth c) {k : Fin 4} {v : Int32} (hd : decode bytes pc = .ok (.iload_n k, 1)) (hl : Ls[k.val]? = some (.val (.int v))) (hp : pc + 1 = pc') (q : Go p l e R s m args below meth c n0 h ce sl (mkF m pc' Ls (.int v :: S)) Q) : Go p l e R s m args below meth c n0 h ce sl (mkF m pc Ls S) Q := by
  subst hp; exact one (fun T L X _ t => Jvm.Free.XS.iloadN X.here K.1 rfl (hb K.2.2.2.1 hd) hl) q
theorem iload (K : Cx Z own nm bytes ml ret p s m meth c) {k : Nat} {v : Int32} (hd : decode bytes pc = .ok (.iload k, 2)) (hl : Ls[k]? = some (.val (.int v))) (hp : pc + 2 = pc') (q : Go p l e R s m args below meth c n0 h ce sl (mkF m pc' Ls (.int v :: S)) Q) : Go p l e R s m args below meth c n0 h ce sl (mkF m pc Ls S) Q := by
  subst hp; exact one (fun T L X _ t => Jvm.Free.XS.iload X.here K.1 rfl (hb K.2.2.2.1 hd) hl) q
theorem istoreN (K : Cx Z own nm bytes ml ret p s m meth c) {k : Fin 4} {v : Int32} (hd : decode bytes pc = .ok (.istore_n k, 1)) (hl : storeLocals Ls k.val (.int v) = some Ls') (hp : pc + 1 = pc') (q : Go p l e R s m args below meth c n0 h ce sl (mkF m pc' Ls' S) Q) : Go p l e R s m args below meth c n0 h ce sl (mkF m pc Ls (.int v :: S)) Q := by
  subst hp; exact one (fun T L X _ t => Jvm.Free.XS.istoreN X.here K.1 rfl (hb K.2.2.2.1 hd) rfl hl) q
theorem istore (K : Cx Z own nm bytes ml ret p s m meth c) {k : Nat} {v : Int32} (hd : decode bytes pc = .ok (.istore k, 2)) (hl : storeLocals Ls k (.int v) = some Ls') (hp : pc + 2 = pc') (q : Go p l e R s m args below meth c n0 h ce sl (mkF m pc' Ls' S) Q) : Go p l e R s m args below meth c n0 h ce sl (mkF m pc Ls (.int v :: S)) Q := by
  subst hp; exact one (fun T L X _ t => Jvm.Free.XS.istore X.here K.1 rfl (hb K.2.2.2.1 hd) rfl hl) q
theorem lloadN (K : Cx Z own nm bytes ml ret p s m meth c) {k : Fin 4} {v : Int64} (hd : decode bytes pc = .ok (.lload_n k, 1)) (hl : Ls[k.val]? = some (.val (.long v))) (hp : pc + 1 = pc') (q : Go p l e R s m args below meth c n0 h ce sl (mkF m pc' Ls (.long v :: S)) Q) : Go p l e R s m args below meth c n0 h ce sl (mkF m pc Ls S) Q := by
  subst hp; exact one (fun T L X _ t => Jvm.Free.XT.lloadN X.here K.1 rfl (hb K.2.2.2.1 hd) hl) q
theorem lload (K : Cx Z own nm bytes ml ret p s m meth c) {k : Nat} {v : Int64} (hd : decode bytes pc = .ok (.lload k, 2)) (hl : Ls[k]? = some (.val (.long v))) (hp : pc + 2 = pc') (q : Go p l e R s m args below meth c n0 h ce sl (mkF m pc' Ls (.long v :: S)) Q) : Go p l e R s m args below meth c n0 h ce sl (mkF m pc Ls S) Q := by
  subst hp; exact one (fun T L X _ t => Jvm.Free.XT.lload X.here K.1 rfl (hb K.2.2.2.1 hd) hl) q
theorem lstoreN (K : Cx Z own nm bytes ml ret p s m meth c) {k : Fin 4} {v : Int64} (hd : decode bytes pc = .ok (.lstore_n k, 1)) (hl : storeLocals Ls k.val (.long v) = some Ls') (hp : pc + 1 = pc') (q : Go p l e R s m args below meth c n0 h ce sl (mkF m pc' Ls' S) Q) : Go p l e R s m args below meth c n0 h ce sl (mkF m pc Ls (.long v :: S)) Q := by
  subst hp; exact one (fun T L X _ t => Jvm.Free.XT.lstoreN X.here K.1 rfl (hb K.2.2.2.1 hd) rfl hl) q
theorem lstore (K : Cx Z own nm bytes ml ret p s m meth c) {k : Nat} {v : Int64} (hd : decode bytes pc = .ok (.lstore k, 2)) (hl : storeLocals Ls k (.long v) = some Ls') (hp : pc + 2 = pc') (q : Go p l e R s m args below meth c n0 h ce sl (mkF m pc' Ls' S) Q) : Go p l e R s m args below meth c n0 h ce sl (mkF m pc Ls (.long v :: S)) Q := by
  subst hp; exact one (fun T L X _ t => Jvm.Free.XT.lstore X.here K.1 rfl (hb K.2.2.2.1 hd) rfl hl) q
theorem dloadN (K : Cx Z own nm bytes ml ret p s m meth c) {k : Fin 4} {v : UInt64} (hd : decode bytes pc = .ok (.dload_n k, 1)) (hl : Ls[k.val]? = some (.val (.double v))) (hp : pc + 1 = pc') (q : Go p l e R s m args below meth c n0 h ce sl (mkF m pc' Ls (.double v :: S)) Q) : Go p l e R s m args below meth c n0 h ce sl (mkF m pc Ls S) Q := by
  subst hp; exact one (fun T L X _ t => Jvm.Free.XS.dloadN X.here K.1 rfl (hb K.2.2.2.1 hd) hl) q
theorem dload (K : Cx Z own nm bytes ml ret p s m meth c) {k : Nat} {v : UInt64} (hd : decode bytes pc = .ok (.dload k, 2)) (hl : Ls[k]? = some (.val (.double v))) (hp : pc + 2 = pc') (q : Go p l e R s m args below meth c n0 h ce sl (mkF m pc' Ls (.double v :: S)) Q) : Go p l e R s m args below meth c n0 h ce sl (mkF m pc Ls S) Q := by
  subst hp; exact one (fun T L X _ t => Jvm.Free.XS.dload X.here K.1 rfl (hb K.2.2.2.1 hd) hl) q
theorem dstoreN (K : Cx Z own nm bytes ml ret p s m meth c) {k : Fin 4} {v : UInt64} (hd : decode bytes pc = .ok (.dstore_n k, 1)) (hl : storeLocals Ls k.val (.double v) = some Ls') (hp : pc + 1 = pc') (q : Go p l e R s m args below meth c n0 h ce sl (mkF m pc' Ls' S) Q) : Go p l e R s m args below meth c n0 h ce sl (mkF m pc Ls (.double v :: S)) Q := by
  subst hp; exact one (fun T L X _ t => Jvm.Free.XS.dstoreN X.here K.1 rfl (hb K.2.2.2.1 hd) rfl hl) q
theorem dstore (K : Cx Z own nm bytes ml ret p s m meth c) {k : Nat} {v : UInt64} (hd : decode bytes pc = .ok (.dstore k, 2)) (hl : storeLocals Ls k (.double v) = some Ls') (hp : pc + 2 = pc') (q : Go p l e R s m args below meth c n0 h ce sl (mkF m pc' Ls' S) Q) : Go p l e R s m args below meth c n0 h ce sl (mkF m pc Ls (.double v :: S)) Q := by
  subst hp; exact one (fun T L X _ t => Jvm.Free.XS.dstore X.here K.1 rfl (hb K.2.2.2.1 hd) rfl hl) q
theorem aloadN (K : Cx Z own nm bytes ml ret p s m meth c) {k : Fin 4} {v : Value} (hd : decode bytes pc = .ok (.aload_n k, 1)) (hl : Ls[k.val]? = some (.val v)) (hv : v.isRef = true) (hp : pc + 1 = pc') (q : Go p l e R s m args below meth c n0 h ce sl (mkF m pc' Ls (v :: S)) Q) : Go p l e R s m args below meth c n0 h ce sl (mkF m pc Ls S) Q := by
  subst hp; exact one (fun T L X _ t => Jvm.Free.XS.aloadN X.here K.1 rfl (hb K.2.2.2.1 hd) hl hv) q
theorem aload (K : Cx Z own nm bytes ml ret p s m meth c) {k : Nat} {v : Value} (hd : decode bytes pc = .ok (.aload k, 2)) (hl : Ls[k]? = some (.val v)) (hv : v.isRef = true) (hp : pc + 2 = pc') (q : Go p l e R s m args below meth c n0 h ce sl (mkF m pc' Ls (v :: S)) Q) : Go p l e R s m args below meth c n0 h ce sl (mkF m pc Ls S) Q := by
  subst hp; exact one (fun T L X _ t => Jvm.Free.XS.aload X.here K.1 rfl (hb K.2.2.2.1 hd) hl hv) q
theorem astoreN (K : Cx Z own nm bytes ml ret p s m meth c) {k : Fin 4} {v : Value} (hd : decode bytes pc = .ok (.astore_n k, 1)) (hv : v.isRef = true) (hl : storeLocals Ls k.val v = some Ls') (hp : pc + 1 = pc') (q : Go p l e R s m args below meth c n0 h ce sl (mkF m pc' Ls' S) Q) : Go p l e R s m args below meth c n0 h ce sl (mkF m pc Ls (v :: S)) Q := by
  subst hp; exact one (fun T L X _ t => Jvm.Free.XS.astoreN X.here K.1 rfl (hb K.2.2.2.1 hd) rfl hv hl) q
theorem astore (K : Cx Z own nm bytes ml ret p s m meth c) {k : Nat} {v : Value} (hd : decode bytes pc = .ok (.astore k, 2)) (hv : v.isRef = true) (hl : storeLocals Ls k v = some Ls') (hp : pc + 2 = pc') (q : Go p l e R s m args below meth c n0 h ce sl (mkF m pc' Ls' S) Q) : Go p l e R s m args below meth c n0 h ce sl (mkF m pc Ls (v :: S)) Q := by
  subst hp; exact one (fun T L X _ t => Jvm.Free.XS.astore X.here K.1 rfl (hb K.2.2.2.1 hd) rfl hv hl) q
theorem iconst (K : Cx Z own nm bytes ml ret p s m meth c) {i : Int} (v : Int32) (hd : decode bytes pc = .ok (.iconst i, 1)) (hv : Int32.ofInt i = v) (hp : pc + 1 = pc') (q : Go p l e R s m args below meth c n0 h ce sl (mkF m pc' Ls (.int v :: S)) Q) : Go p l e R s m args below meth c n0 h ce sl (mkF m pc Ls S) Q := by
  subst hp; exact one (fun T L X _ t => Jvm.Free.XT.iconstV X.here K.1 rfl v (hb K.2.2.2.1 hd) hv) q
theorem bipush (K : Cx Z own nm bytes ml ret p s m meth c) {i : Int} (v : Int32) (hd : decode bytes pc = .ok (.bipush i, 2)) (hv : (Int8.ofInt i).toInt32 = v) (hp : pc + 2 = pc') (q : Go p l e R s m args below meth c n0 h ce sl (mkF m pc' Ls (.int v :: S)) Q) : Go p l e R s m args below meth c n0 h ce sl (mkF m pc Ls S) Q := by
  subst hp; exact one (fun T L X _ t => Jvm.Free.XT.bipushV X.here K.1 rfl v (hb K.2.2.2.1 hd) hv) q
theorem sipush (K : Cx Z own nm bytes ml ret p s m meth c) {i : Int} (v : Int32) (hd : decode bytes pc = .ok (.sipush i, 3)) (hv : (Int16.ofInt i).toInt32 = v) (hp : pc + 3 = pc') (q : Go p l e R s m args below meth c n0 h ce sl (mkF m pc' Ls (.int v :: S)) Q) : Go p l e R s m args below meth c n0 h ce sl (mkF m pc Ls S) Q := by
  subst hp; exact one (fun T L X _ t => Jvm.Free.XT.sipushV X.here K.1 rfl v (hb K.2.2.2.1 hd) hv) q
theorem lconst (K : Cx Z own nm bytes ml ret p s m meth c) {i : Fin 2} (v : Int64) (hd : decode bytes pc = .ok (.lconst i, 1)) (hv : Int64.ofNat i = v) (hp : pc + 1 = pc') (q : Go p l e R s m args below meth c n0 h ce sl (mkF m pc' Ls (.long v :: S)) Q) : Go p l e R s m args below meth c n0 h ce sl (mkF m pc Ls S) Q := by
  subst hp; exact one (fun T L X _ t => Jvm.Free.XT.lconstV X.here K.1 rfl v (hb K.2.2.2.1 hd) hv) q
theorem istoreS (K : Cx Z own nm bytes ml ret p s m meth c) {k : Nat} {x : Int32} {o : Slot} (hd : decode bytes pc = .ok (.istore k, 2)) (hold : Ls[k]? = some o) (ho : One o) (hl : Ls.setIfInBounds k (.val (.int x)) = Ls') (hp : pc + 2 = pc') (q : Go p l e R s m args below meth c n0 h ce sl (mkF m pc' Ls' S) Q) : Go p l e R s m args below meth c n0 h ce sl (mkF m pc Ls (.int x :: S)) Q := by
  subst hp hl; exact one (fun T L X _ t => Jvm.Free.XS.istoreS X.here K.1 rfl (hb K.2.2.2.1 hd) rfl hold ho) q
theorem istoreNS (K : Cx Z own nm bytes ml ret p s m meth c) {k : Fin 4} {x : Int32} {o : Slot} (hd : decode bytes pc = .ok (.istore_n k, 1)) (hold : Ls[k.val]? = some o) (ho : One o) (hl : Ls.setIfInBounds k.val (.val (.int x)) = Ls') (hp : pc + 1 = pc') (q : Go p l e R s m args below meth c n0 h ce sl (mkF m pc' Ls' S) Q) : Go p l e R s m args below meth c n0 h ce sl (mkF m pc Ls (.int x :: S)) Q := by
  subst hp hl; exact one (fun T L X _ t => Jvm.Free.XS.istoreNS X.here K.1 rfl (hb K.2.2.2.1 hd) rfl hold ho) q
theorem dconst0 (K : Cx Z own nm bytes ml ret p s m meth c) {v : UInt64} (hd : decode bytes pc = .ok (.dconst 0, 1)) (hv : FP.dconst0 = v) (hp : pc + 1 = pc') (q : Go p l e R s m args below meth c n0 h ce sl (mkF m pc' Ls (.double v :: S)) Q) : Go p l e R s m args below meth c n0 h ce sl (mkF m pc Ls S) Q := by
  subst hp; exact one (fun T L X _ t => Jvm.Free.XS.dconst0 X.here K.1 rfl (hb K.2.2.2.1 hd) hv) q
theorem dconst1 (K : Cx Z own nm bytes ml ret p s m meth c) {v : UInt64} (hd : decode bytes pc = .ok (.dconst 1, 1)) (hv : FP.dconst1 = v) (hp : pc + 1 = pc') (q : Go p l e R s m args below meth c n0 h ce sl (mkF m pc' Ls (.double v :: S)) Q) : Go p l e R s m args below meth c n0 h ce sl (mkF m pc Ls S) Q := by
  subst hp; exact one (fun T L X _ t => Jvm.Free.XS.dconst1 X.here K.1 rfl (hb K.2.2.2.1 hd) hv) q
theorem anull (K : Cx Z own nm bytes ml ret p s m meth c) (hd : decode bytes pc = .ok (.aconst_null, 1)) (hp : pc + 1 = pc') (q : Go p l e R s m args below meth c n0 h ce sl (mkF m pc' Ls (.null :: S)) Q) : Go p l e R s m args below meth c n0 h ce sl (mkF m pc Ls S) Q := by
  subst hp; exact one (fun T L X _ t => Jvm.Free.XS.aconstNull X.here K.1 rfl (hb K.2.2.2.1 hd) ) q
theorem iinc (K : Cx Z own nm bytes ml ret p s m meth c) {k : Nat} {i : Int} {x : Int32} (v : Int32) (hd : decode bytes pc = .ok (.iinc k i, 3)) (hv : Int32.ofInt i = v) (hl : Ls[k]? = some (.val (.int x))) (hl' : storeLocals Ls k (.int (x + v)) = some Ls') (hp : pc + 3 = pc') (q : Go p l e R s m args below meth c n0 h ce sl (mkF m pc' Ls' S) Q) : Go p l e R s m args below meth c n0 h ce sl (mkF m pc Ls S) Q := by
  subst hp; exact one (fun T L X _ t => Jvm.Free.XT.iincV X.here K.1 rfl v (hb K.2.2.2.1 hd) hv hl hl') q
theorem iadd (K : Cx Z own nm bytes ml ret p s m meth c) {x y : Int32} (hd : decode bytes pc = .ok (.iadd, 1)) (hp : pc + 1 = pc') (q : Go p l e R s m args below meth c n0 h ce sl (mkF m pc' Ls (.int (x + y) :: S)) Q) : Go p l e R s m args below meth c n0 h ce sl (mkF m pc Ls (.int y :: .int x :: S)) Q := by
  subst hp; exact one (fun T L X _ t => Jvm.Free.XS.iadd X.here K.1 rfl (hb K.2.2.2.1 hd) rfl) q
theorem isub (K : Cx Z own nm bytes ml ret p s m meth c) {x y : Int32} (hd : decode bytes pc = .ok (.isub, 1)) (hp : pc + 1 = pc') (q : Go p l e R s m args below meth c n0 h ce sl (mkF m pc' Ls (.int (x - y) :: S)) Q) : Go p l e R s m args below meth c n0 h ce sl (mkF m pc Ls (.int y :: .int x :: S)) Q := by
  subst hp; exact one (fun T L X _ t => Jvm.Free.XS.isub X.here K.1 rfl (hb K.2.2.2.1 hd) rfl) q
theorem imul (K : Cx Z own nm bytes ml ret p s m meth c) {x y : Int32} (hd : decode bytes pc = .ok (.imul, 1)) (hp : pc + 1 = pc') (q : Go p l e R s m args below meth c n0 h ce sl (mkF m pc' Ls (.int (x * y) :: S)) Q) : Go p l e R s m args below meth c n0 h ce sl (mkF m pc Ls (.int y :: .int x :: S)) Q := by
  subst hp; exact one (fun T L X _ t => Jvm.Free.XS.imul X.here K.1 rfl (hb K.2.2.2.1 hd) rfl) q
theorem iand (K : Cx Z own nm bytes ml ret p s m meth c) {x y : Int32} (hd : decode bytes pc = .ok (.iand, 1)) (hp : pc + 1 = pc') (q : Go p l e R s m args below meth c n0 h ce sl (mkF m pc' Ls (.int (x &&& y) :: S)) Q) : Go p l e R s m args below meth c n0 h ce sl (mkF m pc Ls (.int y :: .int x :: S)) Q := by
  subst hp; exact one (fun T L X _ t => Jvm.Free.XS.iand X.here K.1 rfl (hb K.2.2.2.1 hd) rfl) q
theorem ior (K : Cx Z own nm bytes ml ret p s m meth c) {x y : Int32} (hd : decode bytes pc = .ok (.ior, 1)) (hp : pc + 1 = pc') (q : Go p l e R s m args below meth c n0 h ce sl (mkF m pc' Ls (.int (x ||| y) :: S)) Q) : Go p l e R s m args below meth c n0 h ce sl (mkF m pc Ls (.int y :: .int x :: S)) Q := by
  subst hp; exact one (fun T L X _ t => Jvm.Free.XT.ior X.here K.1 rfl (hb K.2.2.2.1 hd) rfl) q
theorem ixor (K : Cx Z own nm bytes ml ret p s m meth c) {x y : Int32} (hd : decode bytes pc = .ok (.ixor, 1)) (hp : pc + 1 = pc') (q : Go p l e R s m args below meth c n0 h ce sl (mkF m pc' Ls (.int (x ^^^ y) :: S)) Q) : Go p l e R s m args below meth c n0 h ce sl (mkF m pc Ls (.int y :: .int x :: S)) Q := by
  subst hp; exact one (fun T L X _ t => Jvm.Free.XT.ixor X.here K.1 rfl (hb K.2.2.2.1 hd) rfl) q
theorem ishl (K : Cx Z own nm bytes ml ret p s m meth c) {x y : Int32} (hd : decode bytes pc = .ok (.ishl, 1)) (hp : pc + 1 = pc') (q : Go p l e R s m args below meth c n0 h ce sl (mkF m pc' Ls (.int (x <<< (y &&& 31)) :: S)) Q) : Go p l e R s m args below meth c n0 h ce sl (mkF m pc Ls (.int y :: .int x :: S)) Q := by
  subst hp; exact one (fun T L X _ t => Jvm.Free.XT.ishl X.here K.1 rfl (hb K.2.2.2.1 hd) rfl) q
theorem ishr (K : Cx Z own nm bytes ml ret p s m meth c) {x y : Int32} (hd : decode bytes pc = .ok (.ishr, 1)) (hp : pc + 1 = pc') (q : Go p l e R s m args below meth c n0 h ce sl (mkF m pc' Ls (.int (x >>> (y &&& 31)) :: S)) Q) : Go p l e R s m args below meth c n0 h ce sl (mkF m pc Ls (.int y :: .int x :: S)) Q := by
  subst hp; exact one (fun T L X _ t => Jvm.Free.XT.ishr X.here K.1 rfl (hb K.2.2.2.1 hd) rfl) q
theorem iushr (K : Cx Z own nm bytes ml ret p s m meth c) {x y : Int32} (hd : decode bytes pc = .ok (.iushr, 1)) (hp : pc + 1 = pc') (q : Go p l e R s m args below meth c n0 h ce sl (mkF m pc' Ls (.int ((x.toUInt32 >>> (y &&& 31).toUInt32).toInt32) :: S)) Q) : Go p l e R s m args below meth c n0 h ce sl (mkF m pc Ls (.int y :: .int x :: S)) Q := by
  subst hp; exact one (fun T L X _ t => Jvm.Free.XT.iushr X.here K.1 rfl (hb K.2.2.2.1 hd) rfl) q
theorem irem_mod (x y : Int32) : x - (x / y) * y = x % y := by
  apply Int32.toInt_inj.mp
  have h1 := Int32.le_toInt (x % y)
  have h2 := Int32.toInt_lt (x % y)
  rw [Int32.toInt_sub, Int32.toInt_mul, Int32.toInt_div, Int.bmod_mul_bmod, Int.sub_bmod_bmod, Int.mul_comm (x.toInt.tdiv y.toInt), ← Int.tmod_def, ← Int32.toInt_mod]
  exact Int.bmod_eq_of_le_mul_two (by omega) (by omega)
theorem irem (K : Cx Z own nm bytes ml ret p s m meth c) {x y : Int32} (hd : decode bytes pc = .ok (.irem, 1)) (hy : y ≠ 0) (hp : pc + 1 = pc') (q : Go p l e R s m args below meth c n0 h ce sl (mkF m pc' Ls (.int (x % y) :: S)) Q) : Go p l e R s m args below meth c n0 h ce sl (mkF m pc Ls (.int y :: .int x :: S)) Q := by
  subst hp; rw [← irem_mod] at q; exact one (fun T L X _ t => Jvm.Free.XS.irem X.here K.1 rfl (hb K.2.2.2.1 hd) rfl hy) q
theorem idiv (K : Cx Z own nm bytes ml ret p s m meth c) {x y : Int32} (hd : decode bytes pc = .ok (.idiv, 1)) (hy : y ≠ 0) (hp : pc + 1 = pc') (q : Go p l e R s m args below meth c n0 h ce sl (mkF m pc' Ls (.int (x / y) :: S)) Q) : Go p l e R s m args below meth c n0 h ce sl (mkF m pc Ls (.int y :: .int x :: S)) Q := by
  subst hp; exact one (fun T L X _ t => Jvm.Free.XS.idiv X.here K.1 rfl (hb K.2.2.2.1 hd) rfl hy) q
theorem ladd (K : Cx Z own nm bytes ml ret p s m meth c) {x y : Int64} (hd : decode bytes pc = .ok (.ladd, 1)) (hp : pc + 1 = pc') (q : Go p l e R s m args below meth c n0 h ce sl (mkF m pc' Ls (.long (x + y) :: S)) Q) : Go p l e R s m args below meth c n0 h ce sl (mkF m pc Ls (.long y :: .long x :: S)) Q := by
  subst hp; exact one (fun T L X _ t => Jvm.Free.XT.ladd X.here K.1 rfl (hb K.2.2.2.1 hd) rfl) q
theorem lsub (K : Cx Z own nm bytes ml ret p s m meth c) {x y : Int64} (hd : decode bytes pc = .ok (.lsub, 1)) (hp : pc + 1 = pc') (q : Go p l e R s m args below meth c n0 h ce sl (mkF m pc' Ls (.long (x - y) :: S)) Q) : Go p l e R s m args below meth c n0 h ce sl (mkF m pc Ls (.long y :: .long x :: S)) Q := by
  subst hp; exact one (fun T L X _ t => Jvm.Free.XT.lsub X.here K.1 rfl (hb K.2.2.2.1 hd) rfl) q
theorem lmul (K : Cx Z own nm bytes ml ret p s m meth c) {x y : Int64} (hd : decode bytes pc = .ok (.lmul, 1)) (hp : pc + 1 = pc') (q : Go p l e R s m args below meth c n0 h ce sl (mkF m pc' Ls (.long (x * y) :: S)) Q) : Go p l e R s m args below meth c n0 h ce sl (mkF m pc Ls (.long y :: .long x :: S)) Q := by
  subst hp; exact one (fun T L X _ t => Jvm.Free.XT.lmul X.here K.1 rfl (hb K.2.2.2.1 hd) rfl) q
theorem land (K : Cx Z own nm bytes ml ret p s m meth c) {x y : Int64} (hd : decode bytes pc = .ok (.land, 1)) (hp : pc + 1 = pc') (q : Go p l e R s m args below meth c n0 h ce sl (mkF m pc' Ls (.long (x &&& y) :: S)) Q) : Go p l e R s m args below meth c n0 h ce sl (mkF m pc Ls (.long y :: .long x :: S)) Q := by
  subst hp; exact one (fun T L X _ t => Jvm.Free.XT.land X.here K.1 rfl (hb K.2.2.2.1 hd) rfl) q
theorem lor (K : Cx Z own nm bytes ml ret p s m meth c) {x y : Int64} (hd : decode bytes pc = .ok (.lor, 1)) (hp : pc + 1 = pc') (q : Go p l e R s m args below meth c n0 h ce sl (mkF m pc' Ls (.long (x ||| y) :: S)) Q) : Go p l e R s m args below meth c n0 h ce sl (mkF m pc Ls (.long y :: .long x :: S)) Q := by
  subst hp; exact one (fun T L X _ t => Jvm.Free.XT.lor X.here K.1 rfl (hb K.2.2.2.1 hd) rfl) q
theorem lxor (K : Cx Z own nm bytes ml ret p s m meth c) {x y : Int64} (hd : decode bytes pc = .ok (.lxor, 1)) (hp : pc + 1 = pc') (q : Go p l e R s m args below meth c n0 h ce sl (mkF m pc' Ls (.long (x ^^^ y) :: S)) Q) : Go p l e R s m args below meth c n0 h ce sl (mkF m pc Ls (.long y :: .long x :: S)) Q := by
  subst hp; exact one (fun T L X _ t => Jvm.Free.XT.lxor X.here K.1 rfl (hb K.2.2.2.1 hd) rfl) q
theorem lshl (K : Cx Z own nm bytes ml ret p s m meth c) {x : Int64} {y : Int32} (hd : decode bytes pc = .ok (.lshl, 1)) (hp : pc + 1 = pc') (q : Go p l e R s m args below meth c n0 h ce sl (mkF m pc' Ls (.long (x <<< (y.toInt64 &&& 63)) :: S)) Q) : Go p l e R s m args below meth c n0 h ce sl (mkF m pc Ls (.int y :: .long x :: S)) Q := by
  subst hp; exact one (fun T L X _ t => Jvm.Free.XT.lshl X.here K.1 rfl (hb K.2.2.2.1 hd) rfl) q
theorem lshr (K : Cx Z own nm bytes ml ret p s m meth c) {x : Int64} {y : Int32} (hd : decode bytes pc = .ok (.lshr, 1)) (hp : pc + 1 = pc') (q : Go p l e R s m args below meth c n0 h ce sl (mkF m pc' Ls (.long (x >>> (y.toInt64 &&& 63)) :: S)) Q) : Go p l e R s m args below meth c n0 h ce sl (mkF m pc Ls (.int y :: .long x :: S)) Q := by
  subst hp; exact one (fun T L X _ t => Jvm.Free.XT.lshr X.here K.1 rfl (hb K.2.2.2.1 hd) rfl) q
theorem lushr (K : Cx Z own nm bytes ml ret p s m meth c) {x : Int64} {y : Int32} (hd : decode bytes pc = .ok (.lushr, 1)) (hp : pc + 1 = pc') (q : Go p l e R s m args below meth c n0 h ce sl (mkF m pc' Ls (.long (XT.ushrL x y) :: S)) Q) : Go p l e R s m args below meth c n0 h ce sl (mkF m pc Ls (.int y :: .long x :: S)) Q := by
  subst hp; exact one (fun T L X _ t => Jvm.Free.XT.lushr X.here K.1 rfl (hb K.2.2.2.1 hd) rfl) q
theorem ldiv (K : Cx Z own nm bytes ml ret p s m meth c) {x y : Int64} (hd : decode bytes pc = .ok (.ldiv, 1)) (hy : y ≠ 0) (hp : pc + 1 = pc') (q : Go p l e R s m args below meth c n0 h ce sl (mkF m pc' Ls (.long (x / y) :: S)) Q) : Go p l e R s m args below meth c n0 h ce sl (mkF m pc Ls (.long y :: .long x :: S)) Q := by
  subst hp; exact one (fun T L X _ t => Jvm.Free.XT.ldiv X.here K.1 rfl (hb K.2.2.2.1 hd) rfl hy) q
theorem lrem (K : Cx Z own nm bytes ml ret p s m meth c) {x y : Int64} (hd : decode bytes pc = .ok (.lrem, 1)) (hy : y ≠ 0) (hp : pc + 1 = pc') (q : Go p l e R s m args below meth c n0 h ce sl (mkF m pc' Ls (.long (x % y) :: S)) Q) : Go p l e R s m args below meth c n0 h ce sl (mkF m pc Ls (.long y :: .long x :: S)) Q := by
  subst hp; rw [← lrem_mod] at q; exact one (fun T L X _ t => Jvm.Free.XT.lrem X.here K.1 rfl (hb K.2.2.2.1 hd) rfl hy) q
theorem lcmp (K : Cx Z own nm bytes ml ret p s m meth c) {x y : Int64} (hd : decode bytes pc = .ok (.lcmp, 1)) (hp : pc + 1 = pc') (q : Go p l e R s m args below meth c n0 h ce sl (mkF m pc' Ls (.int (XT.cmpL x y) :: S)) Q) : Go p l e R s m args below meth c n0 h ce sl (mkF m pc Ls (.long y :: .long x :: S)) Q := by
  subst hp; exact one (fun T L X _ t => Jvm.Free.XT.lcmp X.here K.1 rfl (hb K.2.2.2.1 hd) rfl) q
theorem i2l (K : Cx Z own nm bytes ml ret p s m meth c) {x : Int32} (hd : decode bytes pc = .ok (.i2l, 1)) (hp : pc + 1 = pc') (q : Go p l e R s m args below meth c n0 h ce sl (mkF m pc' Ls (.long x.toInt64 :: S)) Q) : Go p l e R s m args below meth c n0 h ce sl (mkF m pc Ls (.int x :: S)) Q := by
  subst hp; exact one (fun T L X _ t => Jvm.Free.XT.i2l X.here K.1 rfl (hb K.2.2.2.1 hd) rfl) q
theorem l2i (K : Cx Z own nm bytes ml ret p s m meth c) {x : Int64} (hd : decode bytes pc = .ok (.l2i, 1)) (hp : pc + 1 = pc') (q : Go p l e R s m args below meth c n0 h ce sl (mkF m pc' Ls (.int x.toInt32 :: S)) Q) : Go p l e R s m args below meth c n0 h ce sl (mkF m pc Ls (.long x :: S)) Q := by
  subst hp; exact one (fun T L X _ t => Jvm.Free.XT.l2i X.here K.1 rfl (hb K.2.2.2.1 hd) rfl) q
theorem i2c (K : Cx Z own nm bytes ml ret p s m meth c) {x : Int32} (hd : decode bytes pc = .ok (.i2c, 1)) (hp : pc + 1 = pc') (q : Go p l e R s m args below meth c n0 h ce sl (mkF m pc' Ls (.int x.toUInt32.toUInt16.toUInt32.toInt32 :: S)) Q) : Go p l e R s m args below meth c n0 h ce sl (mkF m pc Ls (.int x :: S)) Q := by
  subst hp; exact one (fun T L X _ t => Jvm.Free.XT.i2c X.here K.1 rfl (hb K.2.2.2.1 hd) rfl) q
theorem i2b (K : Cx Z own nm bytes ml ret p s m meth c) {x : Int32} (hd : decode bytes pc = .ok (.i2b, 1)) (hp : pc + 1 = pc') (q : Go p l e R s m args below meth c n0 h ce sl (mkF m pc' Ls (.int x.toInt8.toInt32 :: S)) Q) : Go p l e R s m args below meth c n0 h ce sl (mkF m pc Ls (.int x :: S)) Q := by
  subst hp; exact one (fun T L X _ t => Jvm.Free.XT.i2b X.here K.1 rfl (hb K.2.2.2.1 hd) rfl) q
theorem i2d (K : Cx Z own nm bytes ml ret p s m meth c) {x : Int32} (hd : decode bytes pc = .ok (.i2d, 1)) (hp : pc + 1 = pc') (q : Go p l e R s m args below meth c n0 h ce sl (mkF m pc' Ls (.double (FP.i2d x) :: S)) Q) : Go p l e R s m args below meth c n0 h ce sl (mkF m pc Ls (.int x :: S)) Q := by
  subst hp; exact one (fun T L X _ t => Jvm.Free.XS.i2dS X.here K.1 rfl (hb K.2.2.2.1 hd) rfl rfl) q
theorem l2d (K : Cx Z own nm bytes ml ret p s m meth c) {x : Int64} (hd : decode bytes pc = .ok (.l2d, 1)) (hp : pc + 1 = pc') (q : Go p l e R s m args below meth c n0 h ce sl (mkF m pc' Ls (.double (FP.l2d x) :: S)) Q) : Go p l e R s m args below meth c n0 h ce sl (mkF m pc Ls (.long x :: S)) Q := by
  subst hp; exact one (fun T L X _ t => Jvm.Free.XS.l2dS X.here K.1 rfl (hb K.2.2.2.1 hd) rfl rfl) q
theorem d2l (K : Cx Z own nm bytes ml ret p s m meth c) {x : UInt64} (hd : decode bytes pc = .ok (.d2l, 1)) (hp : pc + 1 = pc') (q : Go p l e R s m args below meth c n0 h ce sl (mkF m pc' Ls (.long (FP.d2l x) :: S)) Q) : Go p l e R s m args below meth c n0 h ce sl (mkF m pc Ls (.double x :: S)) Q := by
  subst hp; exact one (fun T L X _ t => Jvm.Free.XS.d2lS X.here K.1 rfl (hb K.2.2.2.1 hd) rfl rfl) q
theorem d2i (K : Cx Z own nm bytes ml ret p s m meth c) {x : UInt64} (hd : decode bytes pc = .ok (.d2i, 1)) (hp : pc + 1 = pc') (q : Go p l e R s m args below meth c n0 h ce sl (mkF m pc' Ls (.int (FP.d2i x) :: S)) Q) : Go p l e R s m args below meth c n0 h ce sl (mkF m pc Ls (.double x :: S)) Q := by
  subst hp; exact one (fun T L X _ t => Jvm.Free.XS.d2iS X.here K.1 rfl (hb K.2.2.2.1 hd) rfl rfl) q
theorem dadd (K : Cx Z own nm bytes ml ret p s m meth c) {x y : UInt64} (hd : decode bytes pc = .ok (.dadd, 1)) (hn : Jvm.Free.Fl.NoNaN64 (FP.dadd x y)) (hp : pc + 1 = pc') (q : Go p l e R s m args below meth c n0 h ce sl (mkF m pc' Ls (.double (FP.dadd x y) :: S)) Q) : Go p l e R s m args below meth c n0 h ce sl (mkF m pc Ls (.double y :: .double x :: S)) Q := by
  subst hp; exact one (fun T L X _ t => Jvm.Free.XS.daddS X.here K.1 rfl (hb K.2.2.2.1 hd) rfl hn rfl) q
theorem dsub (K : Cx Z own nm bytes ml ret p s m meth c) {x y : UInt64} (hd : decode bytes pc = .ok (.dsub, 1)) (hn : Jvm.Free.Fl.NoNaN64 (FP.dsub x y)) (hp : pc + 1 = pc') (q : Go p l e R s m args below meth c n0 h ce sl (mkF m pc' Ls (.double (FP.dsub x y) :: S)) Q) : Go p l e R s m args below meth c n0 h ce sl (mkF m pc Ls (.double y :: .double x :: S)) Q := by
  subst hp; exact one (fun T L X _ t => Jvm.Free.XS.dsubS X.here K.1 rfl (hb K.2.2.2.1 hd) rfl hn rfl) q
theorem dmul (K : Cx Z own nm bytes ml ret p s m meth c) {x y : UInt64} (hd : decode bytes pc = .ok (.dmul, 1)) (hn : Jvm.Free.Fl.NoNaN64 (FP.dmul x y)) (hp : pc + 1 = pc') (q : Go p l e R s m args below meth c n0 h ce sl (mkF m pc' Ls (.double (FP.dmul x y) :: S)) Q) : Go p l e R s m args below meth c n0 h ce sl (mkF m pc Ls (.double y :: .double x :: S)) Q := by
  subst hp; exact one (fun T L X _ t => Jvm.Free.XS.dmulS X.here K.1 rfl (hb K.2.2.2.1 hd) rfl hn rfl) q
theorem ddiv (K : Cx Z own nm bytes ml ret p s m meth c) {x y : UInt64} (hd : decode bytes pc = .ok (.ddiv, 1)) (hn : Jvm.Free.Fl.NoNaN64 (FP.ddiv x y)) (hp : pc + 1 = pc') (q : Go p l e R s m args below meth c n0 h ce sl (mkF m pc' Ls (.double (FP.ddiv x y) :: S)) Q) : Go p l e R s m args below meth c n0 h ce sl (mkF m pc Ls (.double y :: .double x :: S)) Q := by
  subst hp; exact one (fun T L X _ t => Jvm.Free.XS.ddivS X.here K.1 rfl (hb K.2.2.2.1 hd) rfl hn rfl) q
theorem dcmp (K : Cx Z own nm bytes ml ret p s m meth c) {o : CmpOp} {x y : UInt64} (hd : decode bytes pc = .ok (.dcmp o, 1)) (hp : pc + 1 = pc') (q : Go p l e R s m args below meth c n0 h ce sl (mkF m pc' Ls (.int (cmpValue (FP.dcmp x y) o) :: S)) Q) : Go p l e R s m args below meth c n0 h ce sl (mkF m pc Ls (.double y :: .double x :: S)) Q := by
  subst hp; exact one (fun T L X _ t => Jvm.Free.XS.dcmpS X.here K.1 rfl (hb K.2.2.2.1 hd) rfl rfl) q
theorem dup (K : Cx Z own nm bytes ml ret p s m meth c) {x : Value} (hd : decode bytes pc = .ok (.dup, 1)) (hc : x.category = 1) (hp : pc + 1 = pc') (q : Go p l e R s m args below meth c n0 h ce sl (mkF m pc' Ls (x :: x :: S)) Q) : Go p l e R s m args below meth c n0 h ce sl (mkF m pc Ls (x :: S)) Q := by
  subst hp; exact one (fun T L X _ t => Jvm.Free.XS.dup X.here K.1 rfl (hb K.2.2.2.1 hd) rfl hc) q
theorem pop (K : Cx Z own nm bytes ml ret p s m meth c) {x : Value} (hd : decode bytes pc = .ok (.pop, 1)) (hc : x.category = 1) (hp : pc + 1 = pc') (q : Go p l e R s m args below meth c n0 h ce sl (mkF m pc' Ls S) Q) : Go p l e R s m args below meth c n0 h ce sl (mkF m pc Ls (x :: S)) Q := by
  subst hp; exact one (fun T L X _ t => Jvm.Free.XT.pop X.here K.1 rfl (hb K.2.2.2.1 hd) rfl hc) q
theorem dupX1 (K : Cx Z own nm bytes ml ret p s m meth c) {x y : Value} (hd : decode bytes pc = .ok (.dup_x1, 1)) (hc : x.category = 1) (hc' : y.category = 1) (hp : pc + 1 = pc') (q : Go p l e R s m args below meth c n0 h ce sl (mkF m pc' Ls (x :: y :: x :: S)) Q) : Go p l e R s m args below meth c n0 h ce sl (mkF m pc Ls (x :: y :: S)) Q := by
  subst hp; exact one (fun T L X _ t => Jvm.Free.XT.dupX1 X.here K.1 rfl (hb K.2.2.2.1 hd) rfl hc hc') q
theorem dup2 (K : Cx Z own nm bytes ml ret p s m meth c) {x y : Value} (hd : decode bytes pc = .ok (.dup2, 1)) (hc : x.category = 1) (hc' : y.category = 1) (hp : pc + 1 = pc') (q : Go p l e R s m args below meth c n0 h ce sl (mkF m pc' Ls (x :: y :: x :: y :: S)) Q) : Go p l e R s m args below meth c n0 h ce sl (mkF m pc Ls (x :: y :: S)) Q := by
  subst hp; exact one (fun T L X _ t => Jvm.Free.XT.dup2 X.here K.1 rfl (hb K.2.2.2.1 hd) rfl hc hc') q
theorem dup2L (K : Cx Z own nm bytes ml ret p s m meth c) {x : Int64} (hd : decode bytes pc = .ok (.dup2, 1)) (hp : pc + 1 = pc') (q : Go p l e R s m args below meth c n0 h ce sl (mkF m pc' Ls (.long x :: .long x :: S)) Q) : Go p l e R s m args below meth c n0 h ce sl (mkF m pc Ls (.long x :: S)) Q := by
  subst hp; exact one (fun T L X _ t => Jvm.Free.XT.dup2L X.here K.1 rfl (hb K.2.2.2.1 hd) rfl) q
theorem goto' (K : Cx Z own nm bytes ml ret p s m meth c) {o : Int} (hd : decode bytes pc = .ok (.goto o, 3)) (ho : 0 ≤ (pc : Int) + o) (hp : ((pc : Int) + o).toNat = pc') (q : Go p l e R s m args below meth c n0 h ce sl (mkF m pc' Ls S) Q) : Go p l e R s m args below meth c n0 h ce sl (mkF m pc Ls S) Q :=
  one (fun T L X _ t => Jvm.Free.XS.goto X.here K.1 rfl rfl (hb K.2.2.2.1 hd) ho hp) q
theorem ifY (K : Cx Z own nm bytes ml ret p s m meth c) {cd : ClassFile.Cond} {o : Int} {x : Int32} (hd : decode bytes pc = .ok (.ifCond cd o, 3)) (hc : ifCond.holds cd x = true) (ho : 0 ≤ (pc : Int) + o) (hp : ((pc : Int) + o).toNat = pc') (q : Go p l e R s m args below meth c n0 h ce sl (mkF m pc' Ls S) Q) : Go p l e R s m args below meth c n0 h ce sl (mkF m pc Ls (.int x :: S)) Q :=
  one (fun T L X _ t => Jvm.Free.XS.ifYes X.here K.1 rfl rfl (hb K.2.2.2.1 hd) rfl hc ho hp) q
theorem ifN (K : Cx Z own nm bytes ml ret p s m meth c) {cd : ClassFile.Cond} {o : Int} {x : Int32} (hd : decode bytes pc = .ok (.ifCond cd o, 3)) (hc : ifCond.holds cd x = false) (hp : pc + 3 = pc') (q : Go p l e R s m args below meth c n0 h ce sl (mkF m pc' Ls S) Q) : Go p l e R s m args below meth c n0 h ce sl (mkF m pc Ls (.int x :: S)) Q := by
  subst hp; exact one (fun T L X _ t => Jvm.Free.XS.ifNo X.here K.1 rfl (hb K.2.2.2.1 hd) rfl hc) q
theorem icY (K : Cx Z own nm bytes ml ret p s m meth c) {cd : ClassFile.Cond} {o : Int} {x y : Int32} (hd : decode bytes pc = .ok (.if_icmp cd o, 3)) (hc : if_icmp.holds cd x y = true) (ho : 0 ≤ (pc : Int) + o) (hp : ((pc : Int) + o).toNat = pc') (q : Go p l e R s m args below meth c n0 h ce sl (mkF m pc' Ls S) Q) : Go p l e R s m args below meth c n0 h ce sl (mkF m pc Ls (.int y :: .int x :: S)) Q :=
  one (fun T L X _ t => Jvm.Free.XS.icmpYes X.here K.1 rfl rfl (hb K.2.2.2.1 hd) rfl hc ho hp) q
theorem icN (K : Cx Z own nm bytes ml ret p s m meth c) {cd : ClassFile.Cond} {o : Int} {x y : Int32} (hd : decode bytes pc = .ok (.if_icmp cd o, 3)) (hc : if_icmp.holds cd x y = false) (hp : pc + 3 = pc') (q : Go p l e R s m args below meth c n0 h ce sl (mkF m pc' Ls S) Q) : Go p l e R s m args below meth c n0 h ce sl (mkF m pc Ls (.int y :: .int x :: S)) Q := by
  subst hp; exact one (fun T L X _ t => Jvm.Free.XS.icmpNo X.here K.1 rfl (hb K.2.2.2.1 hd) rfl hc) q
theorem nullY (K : Cx Z own nm bytes ml ret p s m meth c) {o : Int} (hd : decode bytes pc = .ok (.ifnull o, 3)) (ho : 0 ≤ (pc : Int) + o) (hp : ((pc : Int) + o).toNat = pc') (q : Go p l e R s m args below meth c n0 h ce sl (mkF m pc' Ls S) Q) : Go p l e R s m args below meth c n0 h ce sl (mkF m pc Ls (.null :: S)) Q :=
  one (fun T L X _ t => Jvm.Free.XS.ifnullYes X.here K.1 rfl rfl (hb K.2.2.2.1 hd) rfl ho hp) q
theorem nullN (K : Cx Z own nm bytes ml ret p s m meth c) {o : Int} {b : Addr} (hd : decode bytes pc = .ok (.ifnull o, 3)) (hp : pc + 3 = pc') (q : Go p l e R s m args below meth c n0 h ce sl (mkF m pc' Ls S) Q) : Go p l e R s m args below meth c n0 h ce sl (mkF m pc Ls (.ref b :: S)) Q := by
  subst hp; exact one (fun T L X _ t => Jvm.Free.XS.ifnullNo X.here K.1 rfl (hb K.2.2.2.1 hd) rfl) q
theorem nonnullY (K : Cx Z own nm bytes ml ret p s m meth c) {o : Int} {b : Addr} (hd : decode bytes pc = .ok (.ifnonnull o, 3)) (ho : 0 ≤ (pc : Int) + o) (hp : ((pc : Int) + o).toNat = pc') (q : Go p l e R s m args below meth c n0 h ce sl (mkF m pc' Ls S) Q) : Go p l e R s m args below meth c n0 h ce sl (mkF m pc Ls (.ref b :: S)) Q :=
  one (fun T L X _ t => Jvm.Free.XT.ifnonnullYes X.here K.1 rfl rfl (hb K.2.2.2.1 hd) rfl ho hp) q
theorem nonnullN (K : Cx Z own nm bytes ml ret p s m meth c) {o : Int} (hd : decode bytes pc = .ok (.ifnonnull o, 3)) (hp : pc + 3 = pc') (q : Go p l e R s m args below meth c n0 h ce sl (mkF m pc' Ls S) Q) : Go p l e R s m args below meth c n0 h ce sl (mkF m pc Ls (.null :: S)) Q := by
  subst hp; exact one (fun T L X _ t => Jvm.Free.XT.ifnonnullNo X.here K.1 rfl (hb K.2.2.2.1 hd) rfl) q
theorem acY (K : Cx Z own nm bytes ml ret p s m meth c) {cd : ClassFile.ACond} {o : Int} {x y : Value} (hd : decode bytes pc = .ok (.if_acmp cd o, 3)) (hx : x.isRef = true) (hy : y.isRef = true) (hc : XT.acmp cd x y = true) (ho : 0 ≤ (pc : Int) + o) (hp : ((pc : Int) + o).toNat = pc') (q : Go p l e R s m args below meth c n0 h ce sl (mkF m pc' Ls S) Q) : Go p l e R s m args below meth c n0 h ce sl (mkF m pc Ls (y :: x :: S)) Q :=
  one (fun T L X _ t => Jvm.Free.XT.acmpYes X.here K.1 rfl rfl (hb K.2.2.2.1 hd) rfl hx hy hc ho hp) q
theorem acN (K : Cx Z own nm bytes ml ret p s m meth c) {cd : ClassFile.ACond} {o : Int} {x y : Value} (hd : decode bytes pc = .ok (.if_acmp cd o, 3)) (hx : x.isRef = true) (hy : y.isRef = true) (hc : XT.acmp cd x y = false) (hp : pc + 3 = pc') (q : Go p l e R s m args below meth c n0 h ce sl (mkF m pc' Ls S) Q) : Go p l e R s m args below meth c n0 h ce sl (mkF m pc Ls (y :: x :: S)) Q := by
  subst hp; exact one (fun T L X _ t => Jvm.Free.XT.acmpNo X.here K.1 rfl (hb K.2.2.2.1 hd) rfl hx hy hc) q
theorem ldcI (K : Cx Z own nm bytes ml ret p s m meth c) {i : Nat} {v : Int32} (w : (Cond.constant own i v).before a0 Z = true) (hd : decode bytes pc = .ok (.ldc i, 2)) (hp : pc + 2 = pc') (q : Go p l e R s m args below meth c n0 h ce sl (mkF m pc' Ls (.int v :: S)) Q) : Go p l e R s m args below meth c n0 h ce sl (mkF m pc Ls S) Q := by
  subst hp; exact one (fun T L X _ t => X.ldcI K.1 K.2.2.1 (mvT K.2.1 w) rfl (hb K.2.2.2.1 hd)) q
theorem ldcWI (K : Cx Z own nm bytes ml ret p s m meth c) {i : Nat} {v : Int32} (w : (Cond.constant own i v).before a0 Z = true) (hd : decode bytes pc = .ok (.ldc_w i, 3)) (hp : pc + 3 = pc') (q : Go p l e R s m args below meth c n0 h ce sl (mkF m pc' Ls (.int v :: S)) Q) : Go p l e R s m args below meth c n0 h ce sl (mkF m pc Ls S) Q := by
  subst hp; exact one (fun T L X _ t => X.ldcWI K.1 K.2.2.1 (mvT K.2.1 w) rfl (hb K.2.2.2.1 hd)) q
theorem ldc2J (K : Cx Z own nm bytes ml ret p s m meth c) {i : Nat} {v : Int64} (w : (Cond.constantLong own i v).before a0 Z = true) (hd : decode bytes pc = .ok (.ldc2_w i, 3)) (hp : pc + 3 = pc') (q : Go p l e R s m args below meth c n0 h ce sl (mkF m pc' Ls (.long v :: S)) Q) : Go p l e R s m args below meth c n0 h ce sl (mkF m pc Ls S) Q := by
  subst hp; exact one (fun T L X _ t => X.ldc2J K.1 K.2.2.1 (mvT K.2.1 w) rfl (hb K.2.2.2.1 hd)) q
theorem ldc2D (K : Cx Z own nm bytes ml ret p s m meth c) {i : Nat} {v : UInt64} (w : (Cond.constantDouble own i v).before a0 Z = true) (hd : decode bytes pc = .ok (.ldc2_w i, 3)) (hp : pc + 3 = pc') (q : Go p l e R s m args below meth c n0 h ce sl (mkF m pc' Ls (.double v :: S)) Q) : Go p l e R s m args below meth c n0 h ce sl (mkF m pc Ls S) Q := by
  subst hp; exact one (fun T L X _ t => X.ldc2DoubleC K.1 K.2.2.1 (mvT (args := args) K.2.1 w) (g := mkF m pc Ls S) rfl (hb K.2.2.2.1 hd) t) q
theorem getf (K : Cx Z own nm bytes ml ret p s m meth c) {i : Nat} {R0 O n d : String} {a : Addr} {v : Value} (w : (Cond.fieldLink own i R0 n d).before a0 Z = true) (via : Via Z R0 O n d) (F : Fld Z h a O n d v) (hd : decode bytes pc = .ok (.getfield i, 3)) (hp : pc + 3 = pc') (q : Go p l e R s m args below meth c n0 h ce sl (mkF m pc' Ls (v :: S)) Q) : Go p l e R s m args below meth c n0 h ce sl (mkF m pc Ls (.ref a :: S)) Q := by
  subst hp; exact oneT (fun T L X eT => getF X K.1 K.2.1 K.2.2.1 (host := "") (Or.inl w) via eT F rfl rfl (hb K.2.2.2.1 hd)) q
theorem getfN (K : Cx Z own nm bytes ml ret p s m meth c) {i : Nat} {R0 O n d host : String} {a : Addr} {v : Value} (w : (Cond.fieldLinkNest own i R0 n d host).before a0 Z = true) (via : Via Z R0 O n d) (F : Fld Z h a O n d v) (hd : decode bytes pc = .ok (.getfield i, 3)) (hp : pc + 3 = pc') (q : Go p l e R s m args below meth c n0 h ce sl (mkF m pc' Ls (v :: S)) Q) : Go p l e R s m args below meth c n0 h ce sl (mkF m pc Ls (.ref a :: S)) Q := by
  subst hp; exact oneT (fun T L X eT => getF X K.1 K.2.1 K.2.2.1 (Or.inr w) via eT F rfl rfl (hb K.2.2.2.1 hd)) q
theorem getfR (K : Cx Z own nm bytes ml ret p s m meth c) {i : Nat} {O n d : String} {a : Addr} {v : Value} (w : (Cond.fieldRef own i O n d).before a0 Z = true) (F : Fld Z h a O n d v) (hd : decode bytes pc = .ok (.getfield i, 3)) (hp : pc + 3 = pc') (q : Go p l e R s m args below meth c n0 h ce sl (mkF m pc' Ls (v :: S)) Q) : Go p l e R s m args below meth c n0 h ce sl (mkF m pc Ls (.ref a :: S)) Q := by
  subst hp
  refine one (fun T L X eT t k => ?_) q
  have hT : Z.Warmed39 T.vm := wtrans K.2.1 X.warmed
  obtain ⟨c1, k1, i1, f1, g1, g2⟩ := Cond.fieldRef_spec (s := Z.setVm T.vm) (cur := m.cls) (by show T.vm.findClass own = _; rw [X.warmed.alike.findClass]; exact K.2.2.1) (Cond.fieldRef_warmed39 hT w)
  obtain ⟨cell, cf, kf, i2, f2, h1, h2, h3, h4, -, -, h7⟩ := F
  obtain ⟨k', hi, -⟩ := State.fieldFound?_setVm (s := Z) hT.alike h2
  cases g1.symm.trans hi
  exact (X.getfieldR K.1 (g := mkF m pc Ls (.ref a :: S)) rfl g2 h3 rfl (by rw [eT]; exact h1) h4 h7 (hb K.2.2.2.1 hd) (Steps.refl _)).trans k
theorem gets (K : Cx Z own nm bytes ml ret p s m meth c) {i : Nat} {R0 O n d : String} {v : Value} (w : (Cond.fieldLink own i R0 n d).before a0 Z = true) (via : Via Z R0 O n d) (F : Sta Z h O n d v) (hd : decode bytes pc = .ok (.getstatic i, 3)) (hp : pc + 3 = pc') (q : Go p l e R s m args below meth c n0 h ce sl (mkF m pc' Ls (v :: S)) Q) : Go p l e R s m args below meth c n0 h ce sl (mkF m pc Ls S) Q := by
  subst hp; exact oneT (fun T L X eT => getS X K.1 K.2.1 K.2.2.1 (host := "") w via eT F rfl (hb K.2.2.2.1 hd)) q
theorem putf (K : Cx Z own nm bytes ml ret p s m meth c) {i kk : Nat} {R0 O n d C : String} {ty : FieldType} {a : Addr} {v old : Value} (w : (Cond.fieldLink own i R0 n d).before a0 Z = true) (via : Via Z R0 O n d) (F : Fld Z h a O n d old) (E : Exa Z h a C) (L : (Cond.lays C O n d).before a0 Z = true ∨ ((Cond.laysFinal C O n d).before a0 Z = true ∧ own = O ∧ nm = "<init>")) (wi : (Cond.instantiable C kk).before a0 Z = true) (hty : parseFieldDescriptor d = some ty) (hn : narrow ty v = v) (hf : fits ty v = true) (ga : n0 ≤ a) (hd : decode bytes pc = .ok (.putfield i, 3)) (hp : pc + 3 = pc') (q : ∀ h', Wr h h' a (Jvm.RoadKit.slotOf Z O n d) v → Go p l e R s m args below meth c n0 h' ce sl (mkF m pc' Ls S) Q) : Go p l e R s m args below meth c n0 h ce sl (mkF m pc Ls (v :: .ref a :: S)) Q := by
  subst hp
  intro T L0 X N eT
  obtain ⟨T', h', X', e', W, st⟩ := putF X K.1 K.2.1 K.2.2.1 (host := "") (Or.inl w) via eT F E (L.imp id fun ⟨a, b, c⟩ => ⟨a, b, K.2.2.2.2.2.2.2.trans c⟩) wi hty hn hf (g := mkF m pc Ls (v :: .ref a :: S)) rfl rfl (hb K.2.2.2.1 hd)
  obtain ⟨s₂, u, L', a1, r⟩ := q h' W T' _ X' (Fr.snoc X' N ga) e'
  exact ⟨s₂, u, L', st _ a1, r⟩
theorem newObj (K : Cx Z own nm bytes ml ret p s m meth c) {i n : Nat} {C : String} (w : (Cond.classLink own i C).before a0 Z = true) (wi : (Cond.instantiable C n).before a0 Z = true) (wz : (Cond.initialized C).before a0 Z = true) (hd : decode bytes pc = .ok (.new i, 3)) (hc : ce + 1 ≤ R.cells) (hl : sl + n ≤ R.slots) (hp : pc + 3 = pc') (q : ∀ h' x, x = h.size → Ext h h' → Exa Z h' x C → (∀ {O nm d : String} {ty : FieldType}, Laid Z a0 C O nm d → parseFieldDescriptor d = some ty → Fld Z h' x O nm d (defaultValue ty)) → Go p l e R s m args below meth c n0 h' (ce + 1) (sl + n) (mkF m pc' Ls (.ref x :: S)) Q) : Go p l e R s m args below meth c n0 h ce sl (mkF m pc Ls S) Q := by
  subst hp
  intro T L0 X N eT
  obtain ⟨T', h', X', e', E, A, D, -, st⟩ := newO X K.1 K.2.1 K.2.2.1 w wi wz eT (g := mkF m pc Ls S) rfl (hb K.2.2.2.1 hd) hc hl
  obtain ⟨s₂, u, L', a1, r⟩ := q h' h.size rfl E A D T' _ X' N e'
  exact ⟨s₂, u, L', st _ a1, r⟩
theorem initObj (K : Cx Z own nm bytes ml ret p s m meth c) {i : Nat} {a : Addr} (w1 : (Cond.methodLink own i Lib.objectInit).before a0 Z = true) (w2 : (Cond.instanceMethod Lib.objectInit).before a0 Z = true) (w3 : (Cond.code Lib.objectInit ⟨#[0xb1]⟩ 1 none).before a0 Z = true) (hd : decode bytes pc = .ok (.invokespecial i, 3)) (hz : Ls.size = ml) (hf : 1 ≤ R.frames) (hW : (S.map fun v => v.category).sum + 12 ≤ R.locals) (hp : pc + 3 = pc') (q : Go p l e R s m args below meth c n0 h ce sl (mkF m pc' Ls S) Q) : Go p l e R s m args below meth c n0 h ce sl (mkF m pc Ls (.ref a :: S)) Q := by
  subst hp; exact oneT (fun T L X eT => initO X K.1 K.2.1 K.2.2.1 w1 w2 w3 eT rfl (hz.trans K.2.2.2.2.1.symm) rfl (hb K.2.2.2.1 hd) hf (W := (S.map fun v => v.category).sum) (by show 2 * 0 + _ ≤ _; omega) hW) q
/-- a private method's own 'selects' -/
theorem priv_sel {s : State} {args : Array Value} {y : MethodName} {kk : Nat} (wi : (Cond.instantiable y.cls kk).before args s = true) (hpriv : s.PrivateAt y) (hinst : (Cond.instanceMethod y).before args s = true) (hy : y.cls ≠ "java/lang/invoke/MethodHandle" ∧ y.cls ≠ "java/lang/invoke/VarHandle") : (Cond.selects y.cls y y).before args s = true := by
  obtain ⟨c2, k2, i1, i2, i3, i4⟩ := Cond.instantiable_spec wi
  exact selects_self_of_private i1 i2 (Bool.or_eq_false_iff.mp i4.1).1 hpriv hinst hy
/-! calls -/
theorem back {W len : Nat} {y : MethodName} {by' : ByteArray} {ml' : Nat} {ret' : Option FieldType} {rm : Room} {as' : Array Value} {Q' : Option Value → Heap → Prop} (K : Cx Z own nm bytes ml ret p s m meth c) (C : Ctr l Z y by' ml' ret' [] rm n0 as' h Q') (wc : (Cond.code y by' ml' ret').before a0 Z = true) (wz : (Cond.initialized y.cls).before a0 Z = true) (hf : rm.frames + 1 ≤ R.frames) (hl : W + (ml' + 11) + rm.locals ≤ R.locals) :
    Back l R p e below s args y len W (fun A a => a = as' ∧ A.U.heap = h ∧ A.cells + rm.cells ≤ R.cells ∧ A.slots + rm.slots ≤ R.slots) (fun A _ v B => ∃ L, (Q' v B.U.heap ∧ Fr n0 L) ∧ B.locs = A.locs ++ L ∧ B.cells = A.cells + rm.cells ∧ B.slots = A.slots + rm.slots) :=
  backOf (Q := fun v h L => Q' v h ∧ Fr n0 L) C K.2.1 wc wz hf hl
theorem callStatic (K : Cx Z own nm bytes ml ret p s m meth c) {i : Nat} {y : MethodName} {by' : ByteArray} {ml' : Nat} {ret' : Option FieldType} {rm : Room} {Q' : Option Value → Heap → Prop}  {argsL : List Value} (w1 : (Cond.methodLink own i y).before a0 Z = true) (w2 : (Cond.static y).before a0 Z = true) (wz : (Cond.initialized y.cls).before a0 Z = true) (wc : (Cond.code y by' ml' ret').before a0 Z = true) (hy : y.cls ≠ "java/lang/invoke/MethodHandle" ∧ y.cls ≠ "java/lang/invoke/VarHandle") (Cc : Ctr l Z y by' ml' ret' [] rm n0 argsL.toArray h Q') (hlen : ∀ sig, parseMethodDescriptor y.desc = some sig → argsL.length = sig.parameters.length) (hd : decode bytes pc = .ok (.invokestatic i, 3)) (hz : Ls.size = ml) (hf : rm.frames + 1 ≤ R.frames) (hW : (S.map fun v => v.category).sum + (ml' + 11) + rm.locals ≤ R.locals) (hc : ce + rm.cells ≤ R.cells) (hsl : sl + rm.slots ≤ R.slots) {st : List Value} (hst : st = (argsL.reverse ++ S)) (hp : pc + 3 = pc') (q : ∀ v h', Q' v h' → Go p l e R s m args below meth c n0 h' (ce + rm.cells) (sl + rm.slots) (mkF m pc' Ls (v.toList ++ S)) Q) : Go p l e R s m args below meth c n0 h ce sl (mkF m pc Ls st) Q := by
  subst hp hst
  intro T L0 X N eT
  obtain ⟨v, _, ⟨T', L1, k1, n1⟩, -, X', ⟨Lc, hQ, l', y', z'⟩, st'⟩ := Jvm.LawKit.callS X K.1 K.2.2.1 (mvT K.2.1 w1) (mvT K.2.1 w2) (mvT K.2.1 wz) (mvT K.2.1 wc) hy (back (W := (S.map fun v => v.category).sum) K Cc wc wz hf hW) (g := mkF m pc Ls (argsL.reverse ++ S)) rfl (hz.trans K.2.2.2.2.1.symm) (argsL := argsL) (rest := S) hlen rfl (by show 2 * 0 + _ ≤ _; omega) (hb K.2.2.2.1 hd) (fun _ _ => ⟨rfl, eT, hc, hsl⟩)
  dsimp only [Pt.U, Pt.locs, Pt.cells, Pt.slots] at X' l' y' z' st'
  subst l' y' z'
  obtain ⟨s₂, u, L', a1, r⟩ := q v _ hQ.1 T' _ X' (Fr.app N hQ.2) rfl
  exact ⟨s₂, u, L', st' _ a1, r⟩
theorem callInit (K : Cx Z own nm bytes ml ret p s m meth c) {i : Nat} {y : MethodName} {by' : ByteArray} {ml' : Nat} {ret' : Option FieldType} {rm : Room} {Q' : Option Value → Heap → Prop} {b : Addr} {argsL : List Value} (hy1 : y.name = "<init>") (w1 : (Cond.methodLink own i y).before a0 Z = true) (w2 : (Cond.instanceMethod y).before a0 Z = true) (wz : (Cond.initialized y.cls).before a0 Z = true) (wc : (Cond.code y by' ml' none).before a0 Z = true) (hr : ret' = none) (hy : y.cls ≠ "java/lang/invoke/MethodHandle" ∧ y.cls ≠ "java/lang/invoke/VarHandle") (Cc : Ctr l Z y by' ml' ret' [] rm n0 (.ref b :: argsL).toArray h Q') (hlen : ∀ sig, parseMethodDescriptor y.desc = some sig → argsL.length = sig.parameters.length) (hd : decode bytes pc = .ok (.invokespecial i, 3)) (hz : Ls.size = ml) (hf : rm.frames + 1 ≤ R.frames) (hW : (S.map fun v => v.category).sum + (ml' + 11) + rm.locals ≤ R.locals) (hc : ce + rm.cells ≤ R.cells) (hsl : sl + rm.slots ≤ R.slots) {st : List Value} (hst : st = (argsL.reverse ++ .ref b :: S)) (hp : pc + 3 = pc') (q : ∀ v h', Q' v h' → Go p l e R s m args below meth c n0 h' (ce + rm.cells) (sl + rm.slots) (mkF m pc' Ls (v.toList ++ S)) Q) : Go p l e R s m args below meth c n0 h ce sl (mkF m pc Ls st) Q := by
  subst hp hst
  intro T L0 X N eT
  subst hr
  obtain ⟨v, _, ⟨T', L1, k1, n1⟩, -, X', ⟨Lc, hQ, l', y', z'⟩, st'⟩ := X.specialBack K.1 hy1 K.2.2.1 (mvT K.2.1 w1) (mvT K.2.1 w2) (mvT K.2.1 wc) hy (back (W := (S.map fun v => v.category).sum) K Cc wc wz hf hW) (g := mkF m pc Ls (argsL.reverse ++ .ref b :: S)) rfl (hz.trans K.2.2.2.2.1.symm) (Steps.refl _) (a := b) (argsL := argsL) (rest := S) hlen rfl (by show 2 * 0 + _ ≤ _; omega) (hb K.2.2.2.1 hd) (fun _ _ => ⟨rfl, eT, hc, hsl⟩)
  dsimp only [Pt.U, Pt.locs, Pt.cells, Pt.slots] at X' l' y' z' st'
  subst l' y' z'
  obtain ⟨s₂, u, L', a1, r⟩ := q v _ hQ.1 T' _ X' (Fr.app N hQ.2) rfl
  exact ⟨s₂, u, L', st'.trans a1, r⟩
theorem callInitNest (K : Cx Z own nm bytes ml ret p s m meth c) {i : Nat} {y : MethodName} {by' : ByteArray} {ml' : Nat} {ret' : Option FieldType} {rm : Room} {Q' : Option Value → Heap → Prop} {b : Addr} {argsL : List Value} {host : String} (hy1 : y.name = "<init>") (w1 : (Cond.methodLinkNest own i y host).before a0 Z = true) (w2 : (Cond.instanceMethod y).before a0 Z = true) (wz : (Cond.initialized y.cls).before a0 Z = true) (wc : (Cond.code y by' ml' none).before a0 Z = true) (hr : ret' = none) (hy : y.cls ≠ "java/lang/invoke/MethodHandle" ∧ y.cls ≠ "java/lang/invoke/VarHandle") (Cc : Ctr l Z y by' ml' ret' [] rm n0 (.ref b :: argsL).toArray h Q') (hlen : ∀ sig, parseMethodDescriptor y.desc = some sig → argsL.length = sig.parameters.length) (hd : decode bytes pc = .ok (.invokespecial i, 3)) (hz : Ls.size = ml) (hf : rm.frames + 1 ≤ R.frames) (hW : (S.map fun v => v.category).sum + (ml' + 11) + rm.locals ≤ R.locals) (hc : ce + rm.cells ≤ R.cells) (hsl : sl + rm.slots ≤ R.slots) {st : List Value} (hst : st = (argsL.reverse ++ .ref b :: S)) (hp : pc + 3 = pc') (q : ∀ v h', Q' v h' → Go p l e R s m args below meth c n0 h' (ce + rm.cells) (sl + rm.slots) (mkF m pc' Ls (v.toList ++ S)) Q) : Go p l e R s m args below meth c n0 h ce sl (mkF m pc Ls st) Q := by
  subst hp hst
  intro T L0 X N eT
  subst hr
  obtain ⟨v, _, ⟨T', L1, k1, n1⟩, -, X', ⟨Lc, hQ, l', y', z'⟩, st'⟩ := X.specialBackNest K.1 hy1 K.2.2.1 (Cond.methodLinkNest_wide K.2.1 w1 :) (mvT K.2.1 w2) (mvT K.2.1 wc) hy (back (W := (S.map fun v => v.category).sum) K Cc wc wz hf hW) (g := mkF m pc Ls (argsL.reverse ++ .ref b :: S)) rfl (hz.trans K.2.2.2.2.1.symm) (Steps.refl _) (a := b) (argsL := argsL) (rest := S) hlen rfl (by show 2 * 0 + _ ≤ _; omega) (hb K.2.2.2.1 hd) (fun _ _ => ⟨rfl, eT, hc, hsl⟩)
  dsimp only [Pt.U, Pt.locs, Pt.cells, Pt.slots] at X' l' y' z' st'
  subst l' y' z'
  obtain ⟨s₂, u, L', a1, r⟩ := q v _ hQ.1 T' _ X' (Fr.app N hQ.2) rfl
  exact ⟨s₂, u, L', st'.trans a1, r⟩
theorem callVirt (K : Cx Z own nm bytes ml ret p s m meth c) {i : Nat} {y : MethodName} {by' : ByteArray} {ml' : Nat} {ret' : Option FieldType} {rm : Room} {Q' : Option Value → Heap → Prop} {b : Addr} {argsL : List Value} {C : String} (w1 : (Cond.methodLink own i y).before a0 Z = true) (w2 : (Cond.declares y).before a0 Z = true) (w3 : (Cond.selects C y y).before a0 Z = true) (w4 : (Cond.instanceMethod y).before a0 Z = true) (wz : (Cond.initialized y.cls).before a0 Z = true) (wc : (Cond.code y by' ml' ret').before a0 Z = true) (hy : y.cls ≠ "java/lang/invoke/MethodHandle" ∧ y.cls ≠ "java/lang/invoke/VarHandle") (E : Exa Z h b C) (Cc : Ctr l Z y by' ml' ret' [] rm n0 (.ref b :: argsL).toArray h Q') (hlen : ∀ sig, parseMethodDescriptor y.desc = some sig → argsL.length = sig.parameters.length) (hd : decode bytes pc = .ok (.invokevirtual i, 3)) (hz : Ls.size = ml) (hf : rm.frames + 1 ≤ R.frames) (hW : (S.map fun v => v.category).sum + (ml' + 11) + rm.locals ≤ R.locals) (hc : ce + rm.cells ≤ R.cells) (hsl : sl + rm.slots ≤ R.slots) {st : List Value} (hst : st = (argsL.reverse ++ .ref b :: S)) (hp : pc + 3 = pc') (q : ∀ v h', Q' v h' → Go p l e R s m args below meth c n0 h' (ce + rm.cells) (sl + rm.slots) (mkF m pc' Ls (v.toList ++ S)) Q) : Go p l e R s m args below meth c n0 h ce sl (mkF m pc Ls st) Q := by
  subst hp hst
  intro T L0 X N eT
  obtain ⟨cq, kq, qa, qb, qc⟩ := isOf K.2.1 eT E
  obtain ⟨v, _, ⟨T', L1, k1, n1⟩, -, X', ⟨Lc, hQ, l', y', z'⟩, st'⟩ := X.virtualBack K.1 (y := y) (z := y) K.2.2.1 (mvT K.2.1 w1) (mvT K.2.1 w2) (notFace_of_selects (args := #[]) (mvT K.2.1 w3)) (mvT K.2.1 w3) (mvT K.2.1 w4) hy (back (W := (S.map fun v => v.category).sum) K Cc wc wz hf hW) qa qc (g := mkF m pc Ls (argsL.reverse ++ .ref b :: S)) rfl (hz.trans K.2.2.2.2.1.symm) (Steps.refl _) (argsL := argsL) (rest := S) hlen rfl (by show 2 * 0 + _ ≤ _; omega) (hb K.2.2.2.1 hd) (fun _ _ => ⟨rfl, eT, hc, hsl⟩)
  dsimp only [Pt.U, Pt.locs, Pt.cells, Pt.slots] at X' l' y' z' st'
  subst l' y' z'
  obtain ⟨s₂, u, L', a1, r⟩ := q v _ hQ.1 T' _ X' (Fr.app N hQ.2) rfl
  exact ⟨s₂, u, L', st'.trans a1, r⟩
theorem callFace (K : Cx Z own nm bytes ml ret p s m meth c) {i cnt : Nat} {y : MethodName} {by' : ByteArray} {ml' : Nat} {ret' : Option FieldType} {rm : Room} {Q' : Option Value → Heap → Prop} {b : Addr} {argsL : List Value} {z : MethodName} {C : String} (w1 : (Cond.methodLink own i y).before a0 Z = true) (w2 : (Cond.declares y).before a0 Z = true) (w5 : (Cond.interfaceMethod y.cls y.cls y.name y.desc).before a0 Z = true) (k5 : ((Cond.interfaceMethod y.cls y.cls y.name y.desc).onTables && (Cond.interfaceMethod y.cls y.cls y.name y.desc).keepsFace) = true) (w3 : (Cond.selects C y z).before a0 Z = true) (w4 : (Cond.instanceMethod z).before a0 Z = true) (w6 : (Cond.publicMethod z).before a0 Z = true) (w7 : (Cond.unhidden C y.name y.desc).before a0 Z = true) (w8 : (Cond.castable C y.cls).before a0 Z = true) (wz : (Cond.initialized z.cls).before a0 Z = true) (wc : (Cond.code z by' ml' ret').before a0 Z = true) (hy : y.cls ≠ "java/lang/invoke/MethodHandle" ∧ y.cls ≠ "java/lang/invoke/VarHandle") (E : Exa Z h b C) (Cc : Ctr l Z z by' ml' ret' [] rm n0 (.ref b :: argsL).toArray h Q') (hlen : ∀ sig, parseMethodDescriptor y.desc = some sig → argsL.length = sig.parameters.length) (hd : decode bytes pc = .ok (.invokeinterface i cnt, 5)) (hz : Ls.size = ml) (hf : rm.frames + 1 ≤ R.frames) (hW : (S.map fun v => v.category).sum + (ml' + 11) + rm.locals ≤ R.locals) (hc : ce + rm.cells ≤ R.cells) (hsl : sl + rm.slots ≤ R.slots) {st : List Value} (hst : st = (argsL.reverse ++ .ref b :: S)) (hp : pc + 5 = pc') (q : ∀ v h', Q' v h' → Go p l e R s m args below meth c n0 h' (ce + rm.cells) (sl + rm.slots) (mkF m pc' Ls (v.toList ++ S)) Q) : Go p l e R s m args below meth c n0 h ce sl (mkF m pc Ls st) Q := by
  subst hp hst
  intro T L0 X N eT
  obtain ⟨cq, kq, qa, qb, qc⟩ := isOf K.2.1 eT E
  obtain ⟨v, _, ⟨T', L1, k1, n1⟩, -, X', ⟨Lc, hQ, l', y', z'⟩, st'⟩ := X.interfaceBack K.1 (xi := y) (y := z) K.2.2.1 (mvT K.2.1 w1) (mvT K.2.1 w2) (mvT K.2.1 w5 k5) (mvT K.2.1 w3) (mvT K.2.1 w4) (mvT K.2.1 w6) (mvT K.2.1 w7) (mvT K.2.1 w8) hy (back (W := (S.map fun v => v.category).sum) K Cc wc wz hf hW) qa qb qc (g := mkF m pc Ls (argsL.reverse ++ .ref b :: S)) rfl (hz.trans K.2.2.2.2.1.symm) (Steps.refl _) (argsL := argsL) (rest := S) hlen rfl (by show 2 * 0 + _ ≤ _; omega) (hb K.2.2.2.1 hd) (fun _ _ => ⟨rfl, eT, hc, hsl⟩)
  dsimp only [Pt.U, Pt.locs, Pt.cells, Pt.slots] at X' l' y' z' st'
  subst l' y' z'
  obtain ⟨s₂, u, L', a1, r⟩ := q v _ hQ.1 T' _ X' (Fr.app N hQ.2) rfl
  exact ⟨s₂, u, L', st'.trans a1, r⟩
theorem callPriv (K : Cx Z own nm bytes ml ret p s m meth c) {i : Nat} {y : MethodName} {by' : ByteArray} {ml' : Nat} {ret' : Option FieldType} {rm : Room} {Q' : Option Value → Heap → Prop} {b : Addr} {argsL : List Value} {C : String} {kk : Nat} (w1 : (Cond.methodLink own i y).before a0 Z = true) (w2 : (Cond.instanceMethod y).before a0 Z = true) (w3 : (Cond.privateMethod y).before a0 Z = true) (w5 : (Cond.instantiable y.cls kk).before a0 Z = true) (wz : (Cond.initialized y.cls).before a0 Z = true) (wc : (Cond.code y by' ml' ret').before a0 Z = true) (hy : y.cls ≠ "java/lang/invoke/MethodHandle" ∧ y.cls ≠ "java/lang/invoke/VarHandle") (E : Exa Z h b C) (Cc : Ctr l Z y by' ml' ret' [] rm n0 (.ref b :: argsL).toArray h Q') (hlen : ∀ sig, parseMethodDescriptor y.desc = some sig → argsL.length = sig.parameters.length) (hd : decode bytes pc = .ok (.invokevirtual i, 3)) (hz : Ls.size = ml) (hf : rm.frames + 1 ≤ R.frames) (hW : (S.map fun v => v.category).sum + (ml' + 11) + rm.locals ≤ R.locals) (hc : ce + rm.cells ≤ R.cells) (hsl : sl + rm.slots ≤ R.slots) {st : List Value} (hst : st = (argsL.reverse ++ .ref b :: S)) (hp : pc + 3 = pc') (q : ∀ v h', Q' v h' → Go p l e R s m args below meth c n0 h' (ce + rm.cells) (sl + rm.slots) (mkF m pc' Ls (v.toList ++ S)) Q) : Go p l e R s m args below meth c n0 h ce sl (mkF m pc Ls st) Q := by
  subst hp hst
  intro T L0 X N eT
  obtain ⟨cell, kc, f1, f2, f3, f4, -⟩ := E
  have hpr : s.PrivateAt y := Cond.privateMethod_at (mvP K.2.1 w3 (args := #[]))
  obtain ⟨v, _, ⟨T', L1, k1, n1⟩, -, X', ⟨Lc, hQ, l', y', z'⟩, st'⟩ := X.privateBack K.1 (y := y) K.2.2.1 (mvT K.2.1 w1) (mvT K.2.1 w2) (priv_sel (mvT K.2.1 w5) hpr (mvT K.2.1 w2) hy) hpr (mvT K.2.1 wc) hy (back (W := (S.map fun v => v.category).sum) K Cc wc wz hf hW) (g := mkF m pc Ls (argsL.reverse ++ .ref b :: S)) rfl (hz.trans K.2.2.2.2.1.symm) (Steps.refl _) (a := b) (by rw [eT]; exact f1) (fun q hq => by rw [hq] at f4; cases f4) (argsL := argsL) (rest := S) hlen rfl (by show 2 * 0 + _ ≤ _; omega) (hb K.2.2.2.1 hd) (fun _ _ => ⟨rfl, eT, hc, hsl⟩)
  dsimp only [Pt.U, Pt.locs, Pt.cells, Pt.slots] at X' l' y' z' st'
  subst l' y' z'
  obtain ⟨s₂, u, L', a1, r⟩ := q v _ hQ.1 T' _ X' (Fr.app N hQ.2) rfl
  exact ⟨s₂, u, L', st'.trans a1, r⟩
theorem retW (K : Cx Z own nm bytes ml ret p s m meth c) {t : FieldType} {w : Value} {i : Instr} (hi : (i = .ireturn ∧ (t = .int ∨ t = .boolean ∨ t = .byte ∨ t = .char ∨ t = .short) ∧ ∃ z, w = .int z) ∨ (i = .lreturn ∧ t = .long ∧ ∃ z, w = .long z) ∨ (i = .dreturn ∧ t = .double ∧ ∃ z, w = .double z) ∨ (i = .freturn ∧ t = .float ∧ ∃ z, w = .float z) ∨ (i = .areturn ∧ t.isReference = true ∧ w.isRef = true)) (hr : ret = some t) (hn : narrow t w = w) (hd : decode bytes pc = .ok (i, 1)) (hc : ce ≤ R.cells) (hsl : sl ≤ R.slots) (q : Q (some w) h) : Go p l e R s m args below meth c n0 h ce sl (mkF m pc Ls (w :: S)) Q := by
  intro T L0 X N eT
  obtain ⟨fs, hl, hrun, hended, hW, hsame⟩ := X.leave (v := some w) (fun q => by rw [K.2.2.2.2.2.1, hr] at q; cases q) K.2.2.2.2.2.2.1
  exact ⟨_, some w, L0, retOut X K.1 (K.2.2.2.2.2.1.trans hr) hn hi (hb K.2.2.2.1 hd) hl, hrun, hended, N, eT ▸ q, ⟨_, rfl⟩, hW, hsame.mono hc hsl⟩
theorem retV (K : Cx Z own nm bytes ml ret p s m meth c) (hr : ret = none) (hd : decode bytes pc = .ok (.return_, 1)) (hc : ce ≤ R.cells) (hsl : sl ≤ R.slots) (q : Q none h) : Go p l e R s m args below meth c n0 h ce sl (mkF m pc Ls []) Q := by
  intro T L0 X N eT
  obtain ⟨fs, hl, hrun, hended, hW, hsame⟩ := X.leave (v := none) (fun _ => rfl) K.2.2.2.2.2.2.1
  exact ⟨_, none, L0, X.returnOut K.1 (K.2.2.2.2.2.1.trans hr) (hb K.2.2.2.1 hd) hl, hrun, hended, N, eT ▸ q, ⟨_, rfl⟩, hW, hsame.mono hc hsl⟩
theorem retI (K : Cx Z own nm bytes ml ret p s m meth c) {z : Int32} (hr : ret = some .int) (hd : decode bytes pc = .ok (.ireturn, 1)) (hc : ce ≤ R.cells) (hsl : sl ≤ R.slots) (q : Q (some (.int z)) h) : Go p l e R s m args below meth c n0 h ce sl (mkF m pc Ls (.int z :: S)) Q := retW K (by exact Or.inl ⟨rfl, Or.inl rfl, _, rfl⟩) hr rfl hd hc hsl q
theorem retL (K : Cx Z own nm bytes ml ret p s m meth c) {z : Int64} (hr : ret = some .long) (hd : decode bytes pc = .ok (.lreturn, 1)) (hc : ce ≤ R.cells) (hsl : sl ≤ R.slots) (q : Q (some (.long z)) h) : Go p l e R s m args below meth c n0 h ce sl (mkF m pc Ls (.long z :: S)) Q := retW K (by exact Or.inr (Or.inl ⟨rfl, rfl, _, rfl⟩)) hr rfl hd hc hsl q
theorem retD (K : Cx Z own nm bytes ml ret p s m meth c) {z : UInt64} (hr : ret = some .double) (hd : decode bytes pc = .ok (.dreturn, 1)) (hc : ce ≤ R.cells) (hsl : sl ≤ R.slots) (q : Q (some (.double z)) h) : Go p l e R s m args below meth c n0 h ce sl (mkF m pc Ls (.double z :: S)) Q := retW K (by exact Or.inr (Or.inr (Or.inl ⟨rfl, rfl, _, rfl⟩))) hr rfl hd hc hsl q
theorem retA (K : Cx Z own nm bytes ml ret p s m meth c) {t : FieldType} {w : Value} (hr : ret = some t) (ht : t.isReference = true) (hw : w.isRef = true) (hd : decode bytes pc = .ok (.areturn, 1)) (hc : ce ≤ R.cells) (hsl : sl ≤ R.slots) (q : Q (some w) h) : Go p l e R s m args below meth c n0 h ce sl (mkF m pc Ls (w :: S)) Q := retW K (Or.inr (Or.inr (Or.inr (Or.inr ⟨rfl, ht, hw⟩)))) hr (by cases t <;> first | rfl | exact absurd ht (by decide)) hd hc hsl q
theorem retB (K : Cx Z own nm bytes ml ret p s m meth c) {t : FieldType} {z : Int32} (hr : ret = some t) (ht : t = .boolean ∨ t = .byte ∨ t = .char ∨ t = .short) (hd : decode bytes pc = .ok (.ireturn, 1)) (hc : ce ≤ R.cells) (hsl : sl ≤ R.slots) (q : Q (some (.int (nar t z))) h) : Go p l e R s m args below meth c n0 h ce sl (mkF m pc Ls (.int z :: S)) Q := by
  intro T L0 X N eT
  obtain ⟨fs, hl, hrun, hended, hW, hsame⟩ := X.leave (v := some (.int (nar t z))) (fun q => by rw [K.2.2.2.2.2.1, hr] at q; cases q) K.2.2.2.2.2.2.1
  exact ⟨_, some (.int (nar t z)), L0, retN X K.1 (t := t) (K.2.2.2.2.2.1.trans hr) ht (hb K.2.2.2.1 hd) hl, hrun, hended, N, eT ▸ q, ⟨_, rfl⟩, hW, hsame.mono hc hsl⟩
end Walk
/-! arrays -/
def Vec (Z : State) (h : Heap) (a : Addr) (ty : FieldType) (xs : List Value) : Prop := ∃ cl : Cell, Arr Z h a cl ty ∧ cl.slots.toList = xs ∧ xs.length < 2147483648
/-- an array of references, with what may lie in it -/
def VecR (Z : State) (h : Heap) (a : Addr) (C : String) (xs : List Value) : Prop := ∃ cl : Cell, Arr Z h a cl (.object C) ∧ cl.slots.toList = xs ∧ xs.length < 2147483648 ∧ Ovr Z cl.cls C
section Vecs
variable {Z : State} {h h' : Heap} {a b : Addr} {ty : FieldType} {xs : List Value} {v : Value} {sl : Nat} {ws : List Addr} {C : String}
theorem Vec.lt (F : Vec Z h a ty xs) : a < h.size := by obtain ⟨c, A, -⟩ := F; exact A.lt
theorem Vec.ext (F : Vec Z h a ty xs) (E : Ext h h') : Vec Z h' a ty xs := by obtain ⟨c, A, r⟩ := F; exact ⟨c, A.ext E, r⟩
theorem Vec.other (F : Vec Z h b ty xs) (W : Wr h h' a sl v) (q : b ≠ a) : Vec Z h' b ty xs := by obtain ⟨c, A, r⟩ := F; exact ⟨c, A.other W q, r⟩
theorem Vec.keep (F : Vec Z h a ty xs) (K : Keep h h' ws) (q : a ∉ ws) : Vec Z h' a ty xs := by obtain ⟨c, A, r⟩ := F; exact ⟨c, ⟨K.2.1 a c A.1 q, A.2⟩, r⟩
theorem Vec.set (F : Vec Z h a ty xs) {i : Nat} (W : Wr h h' a i v) : Vec Z h' a ty (xs.set i v) := by
  obtain ⟨c, A, rfl, r⟩ := F
  exact ⟨_, A.same W, by simp [Cell.setSlot], by simpa using r⟩
theorem Vec.len (F : Vec Z h a ty xs) : xs.length < 2147483648 := by obtain ⟨c, A, rfl, r⟩ := F; exact r
theorem VecR.lt (F : VecR Z h a C xs) : a < h.size := by obtain ⟨c, A, -⟩ := F; exact A.lt
theorem VecR.ext (F : VecR Z h a C xs) (E : Ext h h') : VecR Z h' a C xs := by obtain ⟨c, A, r⟩ := F; exact ⟨c, A.ext E, r⟩
theorem VecR.other (F : VecR Z h b C xs) (W : Wr h h' a sl v) (q : b ≠ a) : VecR Z h' b C xs := by obtain ⟨c, A, r⟩ := F; exact ⟨c, A.other W q, r⟩
theorem VecR.keep (F : VecR Z h a C xs) (K : Keep h h' ws) (q : a ∉ ws) : VecR Z h' a C xs := by obtain ⟨c, A, r⟩ := F; exact ⟨c, ⟨K.2.1 a c A.1 q, A.2⟩, r⟩
theorem VecR.vec (F : VecR Z h a C xs) : Vec Z h a (.object C) xs := by obtain ⟨c, A, r1, r2, -⟩ := F; exact ⟨c, A, r1, r2⟩
theorem VecR.set (F : VecR Z h a C xs) {i : Nat} (W : Wr h h' a i v) : VecR Z h' a C (xs.set i v) := by
  obtain ⟨c, A, rfl, r, o⟩ := F
  exact ⟨_, A.same W, by simp [Cell.setSlot], by simpa using r, o⟩
theorem clamp {j : Int32} {i : Nat} (hj : j.toInt = i) : j.toNatClampNeg = i ∧ ¬ j < 0 := by
  refine ⟨by simp [Int32.toNatClampNeg, hj], ?_⟩
  rw [Int32.lt_iff_toInt_lt, hj]; simp only [Int32.reduceToInt]; omega
end Vecs
def DV (Z : State) (h : Heap) (a : Addr) (xs : List UInt64) : Prop := Vec Z h a .double (xs.map Value.double)
theorem DV.lt {Z : State} {h : Heap} {a : Addr} {xs : List UInt64} (F : DV Z h a xs) : a < h.size := Vec.lt F
theorem DV.ext {Z : State} {h h' : Heap} {a : Addr} {xs : List UInt64} (F : DV Z h a xs) (E : Ext h h') : DV Z h' a xs := Vec.ext F E
theorem DV.other {Z : State} {h h' : Heap} {a b : Addr} {xs : List UInt64} {sl : Nat} {v : Value} (F : DV Z h b xs) (W : Wr h h' a sl v) (q : b ≠ a) : DV Z h' b xs := Vec.other F W q
theorem DV.keep {Z : State} {h h' : Heap} {a : Addr} {xs : List UInt64} {ws : List Addr} (F : DV Z h a xs) (K : Keep h h' ws) (q : a ∉ ws) : DV Z h' a xs := Vec.keep F K q
theorem DV.set {Z : State} {h h' : Heap} {a : Addr} {xs : List UInt64} {i : Nat} {x : UInt64} (F : DV Z h a xs) (W : Wr h h' a i (Value.double x)) : DV Z h' a (xs.set i x) := by
  have q := Vec.set F W
  rwa [← List.map_set] at q
def IV (Z : State) (h : Heap) (a : Addr) (xs : List Int32) : Prop := Vec Z h a .int (xs.map Value.int)
theorem IV.lt {Z : State} {h : Heap} {a : Addr} {xs : List Int32} (F : IV Z h a xs) : a < h.size := Vec.lt F
theorem IV.ext {Z : State} {h h' : Heap} {a : Addr} {xs : List Int32} (F : IV Z h a xs) (E : Ext h h') : IV Z h' a xs := Vec.ext F E
theorem IV.other {Z : State} {h h' : Heap} {a b : Addr} {xs : List Int32} {sl : Nat} {v : Value} (F : IV Z h b xs) (W : Wr h h' a sl v) (q : b ≠ a) : IV Z h' b xs := Vec.other F W q
theorem IV.keep {Z : State} {h h' : Heap} {a : Addr} {xs : List Int32} {ws : List Addr} (F : IV Z h a xs) (K : Keep h h' ws) (q : a ∉ ws) : IV Z h' a xs := Vec.keep F K q
theorem IV.set {Z : State} {h h' : Heap} {a : Addr} {xs : List Int32} {i : Nat} {x : Int32} (F : IV Z h a xs) (W : Wr h h' a i (Value.int x)) : IV Z h' a (xs.set i x) := by
  have q := Vec.set F W
  rwa [← List.map_set] at q
def JV (Z : State) (h : Heap) (a : Addr) (xs : List Int64) : Prop := Vec Z h a .long (xs.map Value.long)
theorem JV.lt {Z : State} {h : Heap} {a : Addr} {xs : List Int64} (F : JV Z h a xs) : a < h.size := Vec.lt F
theorem JV.ext {Z : State} {h h' : Heap} {a : Addr} {xs : List Int64} (F : JV Z h a xs) (E : Ext h h') : JV Z h' a xs := Vec.ext F E
theorem JV.other {Z : State} {h h' : Heap} {a b : Addr} {xs : List Int64} {sl : Nat} {v : Value} (F : JV Z h b xs) (W : Wr h h' a sl v) (q : b ≠ a) : JV Z h' b xs := Vec.other F W q
theorem JV.keep {Z : State} {h h' : Heap} {a : Addr} {xs : List Int64} {ws : List Addr} (F : JV Z h a xs) (K : Keep h h' ws) (q : a ∉ ws) : JV Z h' a xs := Vec.keep F K q
theorem JV.set {Z : State} {h h' : Heap} {a : Addr} {xs : List Int64} {i : Nat} {x : Int64} (F : JV Z h a xs) (W : Wr h h' a i (Value.long x)) : JV Z h' a (xs.set i x) := by
  have q := Vec.set F W
  rwa [← List.map_set] at q
def ZV (Z : State) (h : Heap) (a : Addr) (xs : List Int32) : Prop := Vec Z h a .boolean (xs.map Value.int)
theorem ZV.lt {Z : State} {h : Heap} {a : Addr} {xs : List Int32} (F : ZV Z h a xs) : a < h.size := Vec.lt F
theorem ZV.ext {Z : State} {h h' : Heap} {a : Addr} {xs : List Int32} (F : ZV Z h a xs) (E : Ext h h') : ZV Z h' a xs := Vec.ext F E
theorem ZV.other {Z : State} {h h' : Heap} {a b : Addr} {xs : List Int32} {sl : Nat} {v : Value} (F : ZV Z h b xs) (W : Wr h h' a sl v) (q : b ≠ a) : ZV Z h' b xs := Vec.other F W q
theorem ZV.keep {Z : State} {h h' : Heap} {a : Addr} {xs : List Int32} {ws : List Addr} (F : ZV Z h a xs) (K : Keep h h' ws) (q : a ∉ ws) : ZV Z h' a xs := Vec.keep F K q
theorem ZV.set {Z : State} {h h' : Heap} {a : Addr} {xs : List Int32} {i : Nat} {x : Int32} (F : ZV Z h a xs) (W : Wr h h' a i (Value.int x)) : ZV Z h' a (xs.set i x) := by
  have q := Vec.set F W
  rwa [← List.map_set] at q
theorem DV.new {Z : State} {h : Heap} {a : Addr} {N : Nat} (F : Vec Z h a (newarray.typeOf .double) (List.replicate N (defaultValue (newarray.typeOf .double)))) : DV Z h a (List.replicate N 0) := by
  unfold DV; rw [List.map_replicate]; exact F
theorem IV.new {Z : State} {h : Heap} {a : Addr} {N : Nat} (F : Vec Z h a (newarray.typeOf .int) (List.replicate N (defaultValue (newarray.typeOf .int)))) : IV Z h a (List.replicate N 0) := by
  unfold IV; rw [List.map_replicate]; exact F
theorem JV.new {Z : State} {h : Heap} {a : Addr} {N : Nat} (F : Vec Z h a (newarray.typeOf .long) (List.replicate N (defaultValue (newarray.typeOf .long)))) : JV Z h a (List.replicate N 0) := by
  unfold JV; rw [List.map_replicate]; exact F
theorem ZV.new {Z : State} {h : Heap} {a : Addr} {N : Nat} (F : Vec Z h a (newarray.typeOf .boolean) (List.replicate N (defaultValue (newarray.typeOf .boolean)))) : ZV Z h a (List.replicate N 0) := by
  unfold ZV; rw [List.map_replicate]; exact F
def HV (Z : State) (h : Heap) (a : Addr) (xs : List Nat) : Prop := Vec Z h a .int (xs.map (fun c : Nat => Value.int (Int32.ofNat c)))
theorem HV.lt {Z : State} {h : Heap} {a : Addr} {xs : List Nat} (F : HV Z h a xs) : a < h.size := Vec.lt F
theorem HV.ext {Z : State} {h h' : Heap} {a : Addr} {xs : List Nat} (F : HV Z h a xs) (E : Ext h h') : HV Z h' a xs := Vec.ext F E
theorem HV.other {Z : State} {h h' : Heap} {a b : Addr} {xs : List Nat} {sl : Nat} {v : Value} (F : HV Z h b xs) (W : Wr h h' a sl v) (q : b ≠ a) : HV Z h' b xs := Vec.other F W q
theorem HV.keep {Z : State} {h h' : Heap} {a : Addr} {xs : List Nat} {ws : List Addr} (F : HV Z h a xs) (K : Keep h h' ws) (q : a ∉ ws) : HV Z h' a xs := Vec.keep F K q
theorem HV.set {Z : State} {h h' : Heap} {a : Addr} {xs : List Nat} {i c : Nat} (F : HV Z h a xs) (W : Wr h h' a i (.int (Int32.ofNat c))) : HV Z h' a (xs.set i c) := by
  have q := Vec.set F W
  unfold HV
  rw [List.map_set]; exact q
theorem HV.new {Z : State} {h : Heap} {a : Addr} {N : Nat} (F : Vec Z h a (newarray.typeOf .int) (List.replicate N (defaultValue (newarray.typeOf .int)))) : HV Z h a (List.replicate N 0) := by
  unfold HV; rw [List.map_replicate]; exact F
theorem mapAt {α : Type} {f : α → Value} {xs : List α} {i : Nat} {x : α} (h : xs[i]? = some x) : (xs.map f)[i]? = some (f x) := by rw [List.getElem?_map, h]; rfl
theorem mapLt {α : Type} {f : α → Value} {xs : List α} {i : Nat} (h : i < xs.length) : i < (xs.map f).length := by rwa [List.length_map]
theorem getDAt {α : Type} {xs : List α} {i : Nat} {d : α} (h : i < xs.length) : xs[i]? = some (xs.getD i d) := by rw [List.getD_eq_getElem?_getD, List.getElem?_eq_getElem h]; rfl
section Walk2
variable {p : Program} {l : Launch} {e : Env} {R : Room} {s : State} {m : MethodId} {args : Array Value} {below : List Frame} {meth : Method} {c : Code} {Z : State} {a0 : Array Value} {own nm : String} {bytes : ByteArray} {ml : Nat} {ret : Option FieldType} {n0 ce sl pc pc' : Nat} {h : Heap} {Ls Ls' : Array Slot} {S : List Value} {Q : Option Value → Heap → Prop} {a : Addr} {ty : FieldType} {xs : List Value} {v : Value} {j : Int32} {i : Nat}
theorem inb {cl : Cell} (e1 : cl.slots.toList = xs) (hj : j.toInt = i) (hi : i < xs.length) : ¬ (j < 0 ∨ cl.slots.size ≤ j.toNatClampNeg) := by
  obtain ⟨q1, q2⟩ := clamp hj
  subst e1
  rw [q1]; simp at hi; intro q; rcases q with q | q
  · exact q2 q
  · omega
theorem inv {cl : Cell} (e1 : cl.slots.toList = xs) (hj : j.toInt = i) (hv : xs[i]? = some v) : cl.slots[j.toNatClampNeg]? = some v := by
  obtain ⟨q1, q2⟩ := clamp hj
  subst e1
  rw [q1]; simpa using hv
theorem ltOf (hv : xs[i]? = some v) : i < xs.length := (List.getElem?_eq_some_iff.mp hv).1
theorem iaload (K : Cx Z own nm bytes ml ret p s m meth c) (F : Vec Z h a .int xs) (hj : j.toInt = i) (hv : xs[i]? = some v) (hd : decode bytes pc = .ok (.iaload, 1)) (hp : pc + 1 = pc') (q : Go p l e R s m args below meth c n0 h ce sl (mkF m pc' Ls (v :: S)) Q) : Go p l e R s m args below meth c n0 h ce sl (mkF m pc Ls (.int j :: .ref a :: S)) Q := by
  subst hp; obtain ⟨cl, A, e1, e2⟩ := F
  exact one (fun T L X eT t => X.iaload K.1 (by rw [eT]; exact A.1) (State.isArrayOf_alike K.2.1.alike A.2.1) A.2.2 (inb e1 hj (ltOf hv)) (inv e1 hj hv) (g := mkF m pc Ls (.int j :: .ref a :: S)) rfl rfl (hb K.2.2.2.1 hd) t) q
theorem laload (K : Cx Z own nm bytes ml ret p s m meth c) (F : Vec Z h a .long xs) (hj : j.toInt = i) (hv : xs[i]? = some v) (hd : decode bytes pc = .ok (.laload, 1)) (hp : pc + 1 = pc') (q : Go p l e R s m args below meth c n0 h ce sl (mkF m pc' Ls (v :: S)) Q) : Go p l e R s m args below meth c n0 h ce sl (mkF m pc Ls (.int j :: .ref a :: S)) Q := by
  subst hp; obtain ⟨cl, A, e1, e2⟩ := F
  exact one (fun T L X eT t => X.laload K.1 (by rw [eT]; exact A.1) (State.isArrayOf_alike K.2.1.alike A.2.1) A.2.2 (inb e1 hj (ltOf hv)) (inv e1 hj hv) (g := mkF m pc Ls (.int j :: .ref a :: S)) rfl rfl (hb K.2.2.2.1 hd) t) q
theorem daload (K : Cx Z own nm bytes ml ret p s m meth c) (F : Vec Z h a .double xs) (hj : j.toInt = i) (hv : xs[i]? = some v) (hd : decode bytes pc = .ok (.daload, 1)) (hp : pc + 1 = pc') (q : Go p l e R s m args below meth c n0 h ce sl (mkF m pc' Ls (v :: S)) Q) : Go p l e R s m args below meth c n0 h ce sl (mkF m pc Ls (.int j :: .ref a :: S)) Q := by
  subst hp; obtain ⟨cl, A, e1, e2⟩ := F
  exact one (fun T L X eT t => X.daload K.1 (by rw [eT]; exact A.1) (State.isArrayOf_alike K.2.1.alike A.2.1) A.2.2 (inb e1 hj (ltOf hv)) (inv e1 hj hv) (g := mkF m pc Ls (.int j :: .ref a :: S)) rfl rfl (hb K.2.2.2.1 hd) t) q
theorem zaload (K : Cx Z own nm bytes ml ret p s m meth c) (F : Vec Z h a .boolean xs) (hj : j.toInt = i) (hv : xs[i]? = some v) (hd : decode bytes pc = .ok (.baload, 1)) (hp : pc + 1 = pc') (q : Go p l e R s m args below meth c n0 h ce sl (mkF m pc' Ls (v :: S)) Q) : Go p l e R s m args below meth c n0 h ce sl (mkF m pc Ls (.int j :: .ref a :: S)) Q := by
  subst hp; obtain ⟨cl, A, e1, e2⟩ := F
  exact one (fun T L X eT t => X.baloadBooleans K.1 (by rw [eT]; exact A.1) (State.isArrayOf_alike K.2.1.alike A.2.1) A.2.2 (inb e1 hj (ltOf hv)) (inv e1 hj hv) (g := mkF m pc Ls (.int j :: .ref a :: S)) rfl rfl (hb K.2.2.2.1 hd) t) q
theorem baload (K : Cx Z own nm bytes ml ret p s m meth c) (F : Vec Z h a .byte xs) (hj : j.toInt = i) (hv : xs[i]? = some v) (hd : decode bytes pc = .ok (.baload, 1)) (hp : pc + 1 = pc') (q : Go p l e R s m args below meth c n0 h ce sl (mkF m pc' Ls (v :: S)) Q) : Go p l e R s m args below meth c n0 h ce sl (mkF m pc Ls (.int j :: .ref a :: S)) Q := by
  subst hp; obtain ⟨cl, A, e1, e2⟩ := F
  exact one (fun T L X eT t => X.baloadBytes K.1 (by rw [eT]; exact A.1) (State.isArrayOf_alike K.2.1.alike A.2.1) A.2.2 (inb e1 hj (ltOf hv)) (inv e1 hj hv) (g := mkF m pc Ls (.int j :: .ref a :: S)) rfl rfl (hb K.2.2.2.1 hd) t) q
theorem aaload (K : Cx Z own nm bytes ml ret p s m meth c) (F : Vec Z h a ty xs) (ht : ty.isReference = true) (hj : j.toInt = i) (hv : xs[i]? = some v) (hd : decode bytes pc = .ok (.aaload, 1)) (hp : pc + 1 = pc') (q : Go p l e R s m args below meth c n0 h ce sl (mkF m pc' Ls (v :: S)) Q) : Go p l e R s m args below meth c n0 h ce sl (mkF m pc Ls (.int j :: .ref a :: S)) Q := by
  subst hp; obtain ⟨cl, A, e1, e2⟩ := F
  exact one (fun T L X eT t => X.aaload K.1 (by rw [eT]; exact A.1) (State.isArrayOf_alike K.2.1.alike A.2.1) ht A.2.2 (inb e1 hj (ltOf hv)) (inv e1 hj hv) (g := mkF m pc Ls (.int j :: .ref a :: S)) rfl rfl (hb K.2.2.2.1 hd) t) q
theorem alen (K : Cx Z own nm bytes ml ret p s m meth c) (F : Vec Z h a ty xs) (hd : decode bytes pc = .ok (.arraylength, 1)) (hp : pc + 1 = pc') (q : Go p l e R s m args below meth c n0 h ce sl (mkF m pc' Ls (.int xs.length.toInt32 :: S)) Q) : Go p l e R s m args below meth c n0 h ce sl (mkF m pc Ls (.ref a :: S)) Q := by
  subst hp; obtain ⟨cl, A, e1, e2⟩ := F
  have hz : cl.slots.size = xs.length := by rw [← e1]; simp
  rw [← hz] at q
  exact one (fun T L X eT t => X.arraylength K.1 (by rw [eT]; exact A.1) (State.isArrayOf_alike K.2.1.alike A.2.1) (g := mkF m pc Ls (.ref a :: S)) rfl rfl (hb K.2.2.2.1 hd) t) q
theorem iastore (K : Cx Z own nm bytes ml ret p s m meth c) {x : Int32} (F : Vec Z h a .int xs) (hj : j.toInt = i) (hi : i < xs.length) (ga : n0 ≤ a) (hd : decode bytes pc = .ok (.iastore, 1)) (hp : pc + 1 = pc') (q : ∀ h', Wr h h' a i (.int x) → Go p l e R s m args below meth c n0 h' ce sl (mkF m pc' Ls S) Q) : Go p l e R s m args below meth c n0 h ce sl (mkF m pc Ls (.int x :: .int j :: .ref a :: S)) Q := by
  subst hp; obtain ⟨cl, A, e1, e2⟩ := F
  intro T L0 X N eT
  obtain ⟨T', h', X', e', W, st⟩ := stI X K.1 K.2.1 eT A (inb e1 hj hi) (g := mkF m pc Ls (.int x :: .int j :: .ref a :: S)) rfl rfl (hb K.2.2.2.1 hd)
  rw [(clamp hj).1] at W
  obtain ⟨s₂, u, L', a1, r⟩ := q h' W T' _ X' (Fr.snoc X' N ga) e'
  exact ⟨s₂, u, L', st _ a1, r⟩
theorem lastore (K : Cx Z own nm bytes ml ret p s m meth c) {x : Int64} (F : Vec Z h a .long xs) (hj : j.toInt = i) (hi : i < xs.length) (ga : n0 ≤ a) (hd : decode bytes pc = .ok (.lastore, 1)) (hp : pc + 1 = pc') (q : ∀ h', Wr h h' a i (.long x) → Go p l e R s m args below meth c n0 h' ce sl (mkF m pc' Ls S) Q) : Go p l e R s m args below meth c n0 h ce sl (mkF m pc Ls (.long x :: .int j :: .ref a :: S)) Q := by
  subst hp; obtain ⟨cl, A, e1, e2⟩ := F
  intro T L0 X N eT
  obtain ⟨T', h', X', e', W, st⟩ := stJ X K.1 K.2.1 eT A (inb e1 hj hi) (g := mkF m pc Ls (.long x :: .int j :: .ref a :: S)) rfl rfl (hb K.2.2.2.1 hd)
  rw [(clamp hj).1] at W
  obtain ⟨s₂, u, L', a1, r⟩ := q h' W T' _ X' (Fr.snoc X' N ga) e'
  exact ⟨s₂, u, L', st _ a1, r⟩
theorem dastore (K : Cx Z own nm bytes ml ret p s m meth c) {x : UInt64} (F : Vec Z h a .double xs) (hj : j.toInt = i) (hi : i < xs.length) (ga : n0 ≤ a) (hd : decode bytes pc = .ok (.dastore, 1)) (hp : pc + 1 = pc') (q : ∀ h', Wr h h' a i (.double x) → Go p l e R s m args below meth c n0 h' ce sl (mkF m pc' Ls S) Q) : Go p l e R s m args below meth c n0 h ce sl (mkF m pc Ls (.double x :: .int j :: .ref a :: S)) Q := by
  subst hp; obtain ⟨cl, A, e1, e2⟩ := F
  intro T L0 X N eT
  obtain ⟨T', h', X', e', W, st⟩ := stD X K.1 K.2.1 eT A (inb e1 hj hi) (g := mkF m pc Ls (.double x :: .int j :: .ref a :: S)) rfl rfl (hb K.2.2.2.1 hd)
  rw [(clamp hj).1] at W
  obtain ⟨s₂, u, L', a1, r⟩ := q h' W T' _ X' (Fr.snoc X' N ga) e'
  exact ⟨s₂, u, L', st _ a1, r⟩
theorem zastore (K : Cx Z own nm bytes ml ret p s m meth c) {x : Int32} (F : Vec Z h a .boolean xs) (hj : j.toInt = i) (hi : i < xs.length) (ga : n0 ≤ a) (hd : decode bytes pc = .ok (.bastore, 1)) (hp : pc + 1 = pc') (q : ∀ h', Wr h h' a i (.int (nar .boolean x)) → Go p l e R s m args below meth c n0 h' ce sl (mkF m pc' Ls S) Q) : Go p l e R s m args below meth c n0 h ce sl (mkF m pc Ls (.int x :: .int j :: .ref a :: S)) Q := by
  subst hp; obtain ⟨cl, A, e1, e2⟩ := F
  intro T L0 X N eT
  obtain ⟨T', h', X', e', W, st⟩ := stZ X K.1 K.2.1 eT A (inb e1 hj hi) (g := mkF m pc Ls (.int x :: .int j :: .ref a :: S)) rfl rfl (hb K.2.2.2.1 hd)
  rw [(clamp hj).1] at W
  obtain ⟨s₂, u, L', a1, r⟩ := q h' W T' _ X' (Fr.snoc X' N ga) e'
  exact ⟨s₂, u, L', st _ a1, r⟩
theorem bastore (K : Cx Z own nm bytes ml ret p s m meth c) {x : Int32} (F : Vec Z h a .byte xs) (hj : j.toInt = i) (hi : i < xs.length) (ga : n0 ≤ a) (hd : decode bytes pc = .ok (.bastore, 1)) (hp : pc + 1 = pc') (q : ∀ h', Wr h h' a i (.int (nar .byte x)) → Go p l e R s m args below meth c n0 h' ce sl (mkF m pc' Ls S) Q) : Go p l e R s m args below meth c n0 h ce sl (mkF m pc Ls (.int x :: .int j :: .ref a :: S)) Q := by
  subst hp; obtain ⟨cl, A, e1, e2⟩ := F
  intro T L0 X N eT
  obtain ⟨T', h', X', e', W, st⟩ := stB X K.1 K.2.1 eT A (inb e1 hj hi) (g := mkF m pc Ls (.int x :: .int j :: .ref a :: S)) rfl rfl (hb K.2.2.2.1 hd)
  rw [(clamp hj).1] at W
  obtain ⟨s₂, u, L', a1, r⟩ := q h' W T' _ X' (Fr.snoc X' N ga) e'
  exact ⟨s₂, u, L', st _ a1, r⟩
theorem aastore (K : Cx Z own nm bytes ml ret p s m meth c) {C : String} (F : VecR Z h a C xs) (hS : v = .null ∨ ∃ y, v = .ref y ∧ Ins Z h y C true) (hj : j.toInt = i) (hi : i < xs.length) (ga : n0 ≤ a) (hd : decode bytes pc = .ok (.aastore, 1)) (hp : pc + 1 = pc') (q : ∀ h', Wr h h' a i v → Go p l e R s m args below meth c n0 h' ce sl (mkF m pc' Ls S) Q) : Go p l e R s m args below meth c n0 h ce sl (mkF m pc Ls (v :: .int j :: .ref a :: S)) Q := by
  subst hp; obtain ⟨cl, A, e1, e2, O⟩ := F
  intro T L0 X N eT
  have hSt : Sto Z h a v := by
    rcases hS with rfl | ⟨y, rfl, I⟩
    · exact Or.inl rfl
    · exact Sto.of A O I
  obtain ⟨T', h', X', e', W, st⟩ := stR X K.1 K.2.1 eT A (inb e1 hj hi) rfl hSt (g := mkF m pc Ls (v :: .int j :: .ref a :: S)) rfl rfl (hb K.2.2.2.1 hd)
  rw [(clamp hj).1] at W
  obtain ⟨s₂, u, L', a1, r⟩ := q h' W T' _ X' (Fr.snoc X' N ga) e'
  exact ⟨s₂, u, L', st _ a1, r⟩
theorem newArr (K : Cx Z own nm bytes ml ret p s m meth c) {aty : ArrayType} {n : Int32} {N : Nat} (w : (Cond.arrayClass (newarray.typeOf aty)).before a0 Z = true) (hn : n.toInt = N) (hb : N * 8 ≤ 536870912) (hd : decode bytes pc = .ok (.newarray aty, 2)) (hc : ce + 1 ≤ R.cells) (hl : sl + N ≤ R.slots) (hp : pc + 2 = pc') (q : ∀ h' x, x = h.size → Ext h h' → Vec Z h' x (newarray.typeOf aty) (List.replicate N (defaultValue (newarray.typeOf aty))) → Go p l e R s m args below meth c n0 h' (ce + 1) (sl + N) (mkF m pc' Ls (.ref x :: S)) Q) : Go p l e R s m args below meth c n0 h ce sl (mkF m pc Ls (.int n :: S)) Q := by
  subst hp
  obtain ⟨c1, c2⟩ := clamp hn
  intro T L0 X N0 eT
  obtain ⟨T', h', cA, X', e', E, A, st⟩ := newP X K.1 K.2.1 w eT (g := mkF m pc Ls (.int n :: S)) rfl (Jvm.hb K.2.2.2.1 hd) rfl c2 (cap := N) (Nat.le_of_eq c1) hb hc hl
  obtain ⟨s₂, u, L', a1, r⟩ := q h' h.size rfl E ⟨_, A, by simp [newA, c1], by simp; omega⟩ T' _ X' N0 e'
  exact ⟨s₂, u, L', st _ a1, r⟩
theorem newArrC (K : Cx Z own nm bytes ml ret p s m meth c) {aty : ArrayType} {n : Int32} {N cap : Nat} (w : (Cond.arrayClass (newarray.typeOf aty)).before a0 Z = true) (hn : n.toInt = N) (hcap : N ≤ cap) (hb : cap * 8 ≤ 536870912) (hd : decode bytes pc = .ok (.newarray aty, 2)) (hc : ce + 1 ≤ R.cells) (hl : sl + cap ≤ R.slots) (hp : pc + 2 = pc') (q : ∀ h' x, x = h.size → Ext h h' → Vec Z h' x (newarray.typeOf aty) (List.replicate N (defaultValue (newarray.typeOf aty))) → Go p l e R s m args below meth c n0 h' (ce + 1) (sl + cap) (mkF m pc' Ls (.ref x :: S)) Q) : Go p l e R s m args below meth c n0 h ce sl (mkF m pc Ls (.int n :: S)) Q := by
  subst hp
  obtain ⟨c1, c2⟩ := clamp hn
  intro T L0 X N0 eT
  obtain ⟨T', h', cA, X', e', E, A, st⟩ := newP X K.1 K.2.1 w eT (g := mkF m pc Ls (.int n :: S)) rfl (Jvm.hb K.2.2.2.1 hd) rfl c2 (cap := cap) (by omega) hb hc hl
  obtain ⟨s₂, u, L', a1, r⟩ := q h' h.size rfl E ⟨_, A, by simp [newA, c1], by simp; omega⟩ T' _ X' N0 e'
  exact ⟨s₂, u, L', st _ a1, r⟩
theorem newArrR (K : Cx Z own nm bytes ml ret p s m meth c) {k : Nat} {C : String} {n : Int32} {N : Nat} (w1 : (Cond.classLink own k C).before a0 Z = true) (w2 : (Cond.arrayOver (.object C)).before a0 Z = true) (hn : n.toInt = N) (hb : N * 8 ≤ 536870912) (hd : decode bytes pc = .ok (.anewarray k, 3)) (hc : ce + 1 ≤ R.cells) (hl : sl + N ≤ R.slots) (hp : pc + 3 = pc') (q : ∀ h' x, x = h.size → Ext h h' → VecR Z h' x C (List.replicate N .null) → Go p l e R s m args below meth c n0 h' (ce + 1) (sl + N) (mkF m pc' Ls (.ref x :: S)) Q) : Go p l e R s m args below meth c n0 h ce sl (mkF m pc Ls (.int n :: S)) Q := by
  subst hp
  obtain ⟨c1, c2⟩ := clamp hn
  intro T L0 X N0 eT
  obtain ⟨T', h', cA, X', e', E, A, O, st⟩ := newR X K.1 K.2.1 K.2.2.1 w1 w2 eT (g := mkF m pc Ls (.int n :: S)) rfl (Jvm.hb K.2.2.2.1 hd) rfl c2 (cap := N) (Nat.le_of_eq c1) hb hc hl
  obtain ⟨s₂, u, L', a1, r⟩ := q h' h.size rfl E ⟨_, A, by simp [newA, c1, defaultValue], by simp; omega, O⟩ T' _ X' N0 e'
  exact ⟨s₂, u, L', st _ a1, r⟩
theorem cast' (K : Cx Z own nm bytes ml ret p s m meth c) {k : Nat} {K' : String} (w : (Cond.classLink own k K').before a0 Z = true) (F : Ins Z h a K' true) (hd : decode bytes pc = .ok (.checkcast k, 3)) (hp : pc + 3 = pc') (q : Go p l e R s m args below meth c n0 h ce sl (mkF m pc' Ls (.ref a :: S)) Q) : Go p l e R s m args below meth c n0 h ce sl (mkF m pc Ls (.ref a :: S)) Q := by
  subst hp; exact oneT (fun T L X eT => castY X K.1 K.2.1 K.2.2.1 w eT F (g := mkF m pc Ls (.ref a :: S)) rfl rfl (hb K.2.2.2.1 hd)) q
end Walk2
/-- a body's walk is its contract -/
theorem ctr {l : Launch} {Z : State} {y : MethodName} {bytes : ByteArray} {ml : Nat} {ret : Option FieldType} {ws : List Cond} {rm : Room} {n0 : Nat} {as' : Array Value} {h : Heap} {Q : Option Value → Heap → Prop} {own nm : String} (ho : y.cls = own) (hn : y.name = nm) {Ls : Array Slot} (hpl : plainFor y = true) (hef : ∀ m : MethodId, entryFrame m as' ml = mkF m 0 Ls [])
    (body : ∀ (p : Program) (e : Env) (s : State) (m : MethodId) (below : List Frame) (meth : Method) (c : Code), Cx Z own nm bytes ml ret p s m meth c → s.heap = h → Go p l e rm s m as' below meth c n0 h 0 0 (mkF m 0 Ls []) Q) : Ctr l Z y bytes ml ret ws rm n0 as' h Q := by
  subst ho hn
  refine MetFree.of_bodySF hpl hisR ?_
  intro p e s m args below meth c s₁ Bd hml hP hK
  obtain ⟨rfl, hZ, hh⟩ := hP
  have X0 : Stand p l e rm s m _ below meth c s₁ [] 0 0 := Stand.of_body Bd
  have e0 : s₁.heap = h := by rw [← hh, Bd.state]; rfl
  obtain ⟨s₂, v, L', a1, a2, a3, a4, a5, a6⟩ := body p e s m below meth c ⟨Bd.exec, hZ, findClass_of_methodNamed Bd.named, Bd.bytes, hml, Bd.returns, BodyLoose.notSynchronized Bd, (name_of_methodNamed Bd.named Bd.method).1⟩ hh s₁ [] X0 (Fr.nil n0) e0
  exact ⟨s₂, _, castTop (hef m) a1, a2, a3, v, L', rfl, ⟨a5, a4⟩, a6⟩
/-- a term that the case sets equal to a double -/
theorem eqD {args : Array Value} {first s : State} {o : Option Outcome} {idx : List Nat} {a b : Term} {n : UInt64} (h : (Cond.eq a b).value args first o s idx = some true) (hb : b.eval args first o idx s = some (.double n)) : a.eval args first o idx s = some (.double n) := by
  simp only [Cond.value, hb] at h
  cases ha : a.eval args first o idx s with
  | none => simp [ha] at h
  | some x => cases x <;> simp [ha] at h ⊢; exact h
/-- a term that the case sets equal to a reference -/
theorem eqR {args : Array Value} {first s : State} {o : Option Outcome} {idx : List Nat} {a b : Term} {n : Addr} (h : (Cond.eq a b).value args first o s idx = some true) (hb : b.eval args first o idx s = some (.ref n)) : a.eval args first o idx s = some (.ref n) := by
  simp only [Cond.value, hb] at h
  cases ha : a.eval args first o idx s with
  | none => simp [ha] at h
  | some x => cases x <;> simp [ha] at h ⊢; exact h
theorem eqI {args : Array Value} {first s : State} {o : Option Outcome} {idx : List Nat} {a b : Term} {n : Int32} (h : (Cond.eq a b).value args first o s idx = some true) (hb : b.eval args first o idx s = some (.int n)) : a.eval args first o idx s = some (.int n) := by
  simp only [Cond.value, hb] at h
  cases ha : a.eval args first o idx s with
  | none => simp [ha] at h
  | some x => cases x <;> simp [ha] at h ⊢; exact h
/-! the branch behind a comparison of doubles -/
def dge (r : Option Ordering) : Prop := r = some .eq ∨ r = some .gt
def dle (r : Option Ordering) : Prop := r = some .lt ∨ r = some .eq
section Dd
variable {r : Option Ordering}
theorem dd_l_eq_t (h : r = some .eq) : ifCond.holds .eq (cmpValue r .l) = true := by
  revert h; try unfold dge
  try unfold dle
  rcases r with _ | (_ | _ | _) <;> decide
theorem dd_l_eq_f (h : ¬ r = some .eq) : ifCond.holds .eq (cmpValue r .l) = false := by
  revert h; try unfold dge
  try unfold dle
  rcases r with _ | (_ | _ | _) <;> decide
theorem dd_l_ne_t (h : ¬ r = some .eq) : ifCond.holds .ne (cmpValue r .l) = true := by
  revert h; try unfold dge
  try unfold dle
  rcases r with _ | (_ | _ | _) <;> decide
theorem dd_l_ne_f (h : r = some .eq) : ifCond.holds .ne (cmpValue r .l) = false := by
  revert h; try unfold dge
  try unfold dle
  rcases r with _ | (_ | _ | _) <;> decide
theorem dd_l_lt_t (h : ¬ dge r) : ifCond.holds .lt (cmpValue r .l) = true := by
  revert h; try unfold dge
  try unfold dle
  rcases r with _ | (_ | _ | _) <;> decide
theorem dd_l_lt_f (h : dge r) : ifCond.holds .lt (cmpValue r .l) = false := by
  revert h; try unfold dge
  try unfold dle
  rcases r with _ | (_ | _ | _) <;> decide
theorem dd_l_ge_t (h : dge r) : ifCond.holds .ge (cmpValue r .l) = true := by
  revert h; try unfold dge
  try unfold dle
  rcases r with _ | (_ | _ | _) <;> decide
theorem dd_l_ge_f (h : ¬ dge r) : ifCond.holds .ge (cmpValue r .l) = false := by
  revert h; try unfold dge
  try unfold dle
  rcases r with _ | (_ | _ | _) <;> decide
theorem dd_l_gt_t (h : r = some .gt) : ifCond.holds .gt (cmpValue r .l) = true := by
  revert h; try unfold dge
  try unfold dle
  rcases r with _ | (_ | _ | _) <;> decide
theorem dd_l_gt_f (h : ¬ r = some .gt) : ifCond.holds .gt (cmpValue r .l) = false := by
  revert h; try unfold dge
  try unfold dle
  rcases r with _ | (_ | _ | _) <;> decide
theorem dd_l_le_t (h : ¬ r = some .gt) : ifCond.holds .le (cmpValue r .l) = true := by
  revert h; try unfold dge
  try unfold dle
  rcases r with _ | (_ | _ | _) <;> decide
theorem dd_l_le_f (h : r = some .gt) : ifCond.holds .le (cmpValue r .l) = false := by
  revert h; try unfold dge
  try unfold dle
  rcases r with _ | (_ | _ | _) <;> decide
theorem dd_g_eq_t (h : r = some .eq) : ifCond.holds .eq (cmpValue r .g) = true := by
  revert h; try unfold dge
  try unfold dle
  rcases r with _ | (_ | _ | _) <;> decide
theorem dd_g_eq_f (h : ¬ r = some .eq) : ifCond.holds .eq (cmpValue r .g) = false := by
  revert h; try unfold dge
  try unfold dle
  rcases r with _ | (_ | _ | _) <;> decide
theorem dd_g_ne_t (h : ¬ r = some .eq) : ifCond.holds .ne (cmpValue r .g) = true := by
  revert h; try unfold dge
  try unfold dle
  rcases r with _ | (_ | _ | _) <;> decide
theorem dd_g_ne_f (h : r = some .eq) : ifCond.holds .ne (cmpValue r .g) = false := by
  revert h; try unfold dge
  try unfold dle
  rcases r with _ | (_ | _ | _) <;> decide
theorem dd_g_lt_t (h : r = some .lt) : ifCond.holds .lt (cmpValue r .g) = true := by
  revert h; try unfold dge
  try unfold dle
  rcases r with _ | (_ | _ | _) <;> decide
theorem dd_g_lt_f (h : ¬ r = some .lt) : ifCond.holds .lt (cmpValue r .g) = false := by
  revert h; try unfold dge
  try unfold dle
  rcases r with _ | (_ | _ | _) <;> decide
theorem dd_g_ge_t (h : ¬ r = some .lt) : ifCond.holds .ge (cmpValue r .g) = true := by
  revert h; try unfold dge
  try unfold dle
  rcases r with _ | (_ | _ | _) <;> decide
theorem dd_g_ge_f (h : r = some .lt) : ifCond.holds .ge (cmpValue r .g) = false := by
  revert h; try unfold dge
  try unfold dle
  rcases r with _ | (_ | _ | _) <;> decide
theorem dd_g_gt_t (h : ¬ dle r) : ifCond.holds .gt (cmpValue r .g) = true := by
  revert h; try unfold dge
  try unfold dle
  rcases r with _ | (_ | _ | _) <;> decide
theorem dd_g_gt_f (h : dle r) : ifCond.holds .gt (cmpValue r .g) = false := by
  revert h; try unfold dge
  try unfold dle
  rcases r with _ | (_ | _ | _) <;> decide
theorem dd_g_le_t (h : dle r) : ifCond.holds .le (cmpValue r .g) = true := by
  revert h; try unfold dge
  try unfold dle
  rcases r with _ | (_ | _ | _) <;> decide
theorem dd_g_le_f (h : ¬ dle r) : ifCond.holds .le (cmpValue r .g) = false := by
  revert h; try unfold dge
  try unfold dle
  rcases r with _ | (_ | _ | _) <;> decide
end Dd
end Jvm.OwnWp
namespace Jvm.OwnHist
/-- the histogram's bucket of a value, its highest value, a value's edge: in plain numbers -/
def shf (v : Nat) : Nat := Nat.log2 v - 7
def bkt (v : Nat) : Nat := if v < 256 then v else 256 + (shf v - 1) * 128 + (v / 2 ^ shf v - 128)
def hiN (b : Nat) : Nat := if b < 256 then b else ((b - 256) % 128 + 129) * 2 ^ ((b - 256) / 128 + 1) - 1
def edgeN (v : Nat) : Nat := if v < 256 then v else (v / 2 ^ shf v + 1) * 2 ^ shf v - 1
theorem log_ge {v : Nat} (h : 256 ≤ v) : 8 ≤ Nat.log2 v := (Nat.le_log2 (by omega)).mpr (by simpa using h)
theorem quot {v : Nat} (h : 256 ≤ v) : 1 ≤ shf v ∧ 128 ≤ v / 2 ^ shf v ∧ v / 2 ^ shf v ≤ 255 := by
  have h8 := log_ge h
  have e : Nat.log2 v = shf v + 7 := by unfold shf; omega
  have h1 := Nat.log2_self_le (n := v) (by omega)
  have h2 := Nat.lt_log2_self (n := v)
  rw [e] at h1 h2
  have hp := Nat.two_pow_pos (shf v)
  have e1 : 2 ^ (shf v + 7) = 128 * 2 ^ shf v := by rw [Nat.pow_add]; omega
  have e2 : 2 ^ (shf v + 7 + 1) = 256 * 2 ^ shf v := by rw [Nat.add_assoc, Nat.pow_add]; omega
  rw [e1] at h1; rw [e2] at h2
  refine ⟨by unfold shf; omega, (Nat.le_div_iff_mul_le hp).mpr h1, ?_⟩
  have : v / 2 ^ shf v < 256 := (Nat.div_lt_iff_lt_mul hp).mpr h2
  omega
theorem shf_le {v : Nat} (h : 256 ≤ v) (h2 : v < 2 ^ 63) : shf v ≤ 55 := by
  have : Nat.log2 v < 63 := (Nat.log2_lt (by omega)).mpr h2
  unfold shf; omega
theorem bkt_lt {v : Nat} (h : v < 2 ^ 63) : bkt v < 7296 := by
  unfold bkt
  split
  · omega
  · rename_i q
    obtain ⟨a, b, c⟩ := quot (v := v) (by omega)
    have := shf_le (v := v) (by omega) h
    omega
theorem hi_bkt (v : Nat) : hiN (bkt v) = edgeN v := by
  unfold bkt edgeN
  split
  · rename_i q; unfold hiN; rw [if_pos q]
  · rename_i q
    obtain ⟨a, b, c⟩ := quot (v := v) (by omega)
    generalize v / 2 ^ shf v = k at *
    generalize shf v = s at *
    unfold hiN
    rw [if_neg (by omega)]
    have e1 : (256 + (s - 1) * 128 + (k - 128) - 256) % 128 + 129 = k + 1 := by omega
    have e2 : (256 + (s - 1) * 128 + (k - 128) - 256) / 128 + 1 = s := by omega
    rw [e1, e2]
theorem hi_succ (i : Nat) : hiN i < hiN (i + 1) := by
  unfold hiN
  by_cases h : i + 1 < 256
  · rw [if_pos (by omega), if_pos h]; omega
  · by_cases h0 : i < 256
    · obtain rfl : i = 255 := by omega
      decide +kernel
    · rw [if_neg h0, if_neg h]
      obtain ⟨j, rfl⟩ : ∃ j, i = 256 + j := ⟨i - 256, by omega⟩
      rw [show 256 + j + 1 - 256 = j + 1 by omega, show 256 + j - 256 = j by omega]
      have hp := Nat.two_pow_pos (j / 128 + 1)
      by_cases h1 : j % 128 = 127
      · have e2 : (j + 1) % 128 = 0 := by omega
        have e3 : (j + 1) / 128 = j / 128 + 1 := by omega
        rw [e2, e3, h1, Nat.pow_succ 2 (j / 128 + 1)]
        generalize 2 ^ (j / 128 + 1) = P at *
        omega
      · have e2 : (j + 1) % 128 = j % 128 + 1 := by omega
        have e3 : (j + 1) / 128 = j / 128 := by omega
        rw [e2, e3]
        generalize 2 ^ (j / 128 + 1) = P at *
        have e4 : (j % 128 + 1 + 129) * P = (j % 128 + 129) * P + P := by rw [Nat.add_right_comm, Nat.succ_mul]
        have : 0 < (j % 128 + 129) * P := Nat.mul_pos (by omega) hp
        omega
theorem hi_lt {i j : Nat} (h : i < j) : hiN i < hiN j := by
  induction j with
  | zero => omega
  | succ j ih =>
    by_cases e : i = j
    · subst e; exact hi_succ i
    · exact Nat.lt_trans (ih (by omega)) (hi_succ j)
theorem hi_le {i j : Nat} (h : i ≤ j) : hiN i ≤ hiN j := by
  rcases Nat.lt_or_eq_of_le h with q | q
  · exact Nat.le_of_lt (hi_lt q)
  · rw [q]; exact Nat.le_refl _
theorem edge_or {v : Nat} (h : 256 ≤ v) : (v / 2 ^ shf v + 1) * 2 ^ shf v - 1 = (v / 2 ^ shf v) * 2 ^ shf v + (2 ^ shf v - 1) := by
  have hp := Nat.two_pow_pos (shf v)
  rw [Nat.succ_mul]; omega
theorem edge_bound (v : Nat) : v ≤ edgeN v ∧ edgeN v - v ≤ v / 128 := by
  unfold edgeN
  split
  · omega
  · rename_i q
    have h : 256 ≤ v := by omega
    obtain ⟨a, b, c⟩ := quot h
    rw [edge_or h]
    have hp := Nat.two_pow_pos (shf v)
    have hm := Nat.div_add_mod v (2 ^ shf v)
    have hl := Nat.mod_lt v hp
    rw [Nat.mul_comm] at hm
    have h7 : 2 ^ shf v * 128 ≤ v := by
      have := Nat.mul_le_mul_right (2 ^ shf v) b
      omega
    have : 2 ^ shf v ≤ v / 128 := (Nat.le_div_iff_mul_le (by decide)).mpr h7
    omega
theorem edge_lt {v : Nat} (h : v < 2 ^ 63) : edgeN v < 2 ^ 63 := by
  unfold edgeN
  split
  · omega
  · rename_i q
    have h2 : 256 ≤ v := by omega
    obtain ⟨a, b, c⟩ := quot h2
    have hs := shf_le h2 h
    have hp := Nat.two_pow_pos (shf v)
    have h3 : (v / 2 ^ shf v + 1) * 2 ^ shf v ≤ 256 * 2 ^ 55 := Nat.mul_le_mul (by omega) (Nat.pow_le_pow_right (by decide) hs)
    have : 0 < (v / 2 ^ shf v + 1) * 2 ^ shf v := Nat.mul_pos (by omega) hp
    omega

theorem toInt_of_nat {x : Int64} {n : Nat} (h : x.toBitVec.toNat = n) (hn : n < 2 ^ 63) : x.toInt = n := by
  show x.toBitVec.toInt = n
  rw [BitVec.toInt_eq_toNat_cond, h, if_pos (by omega)]
theorem nat_of_toInt {x : Int64} (h : 0 ≤ x.toInt) : (x.toBitVec.toNat : Int) = x.toInt ∧ x.toBitVec.toNat < 2 ^ 63 := by
  have h1 : x.toInt = x.toBitVec.toInt := rfl
  rw [h1] at h ⊢
  rw [BitVec.toInt_eq_toNat_cond] at h ⊢
  have := x.toBitVec.isLt
  split at h <;> split <;> omega
theorem nat_of_toInt32 {x : Int32} (h : 0 ≤ x.toInt) : (x.toBitVec.toNat : Int) = x.toInt ∧ x.toBitVec.toNat < 2 ^ 31 := by
  have h1 : x.toInt = x.toBitVec.toInt := rfl
  rw [h1] at h ⊢
  rw [BitVec.toInt_eq_toNat_cond] at h ⊢
  have := x.toBitVec.isLt
  split at h <;> split <;> omega
theorem sh_amt {y : Int32} {k : Nat} (hy : y.toInt = k) (hk : k < 64) : (y.toInt64 &&& 63).toBitVec.toNat = k := by
  have e : y.toInt64.toInt = k := by rw [Int32.toInt_toInt64]; exact hy
  obtain ⟨a, -⟩ := nat_of_toInt (x := y.toInt64) (by omega)
  have e2 : (y.toInt64 &&& 63).toBitVec.toNat = y.toInt64.toBitVec.toNat &&& 63 := by
    show (y.toInt64.toBitVec &&& (63 : Int64).toBitVec).toNat = _
    rw [BitVec.toNat_and]; rfl
  rw [e2, show (63 : Nat) = 2 ^ 6 - 1 from rfl, Nat.and_two_pow_sub_one_eq_mod]
  omega
theorem ushr_nn {x : Int64} {y : Int32} {k : Nat} (hx : 0 ≤ x.toInt) (hy : y.toInt = k) (hk : k < 64) : (Jvm.Free.XT.ushrL x y).toInt = x.toInt / (2 ^ k : Nat) := by
  obtain ⟨a, b⟩ := nat_of_toInt hx
  have h := sh_amt hy hk
  have e : (Jvm.Free.XT.ushrL x y).toBitVec.toNat = x.toBitVec.toNat / 2 ^ k := by
    show ((x.toUInt64 >>> (y.toInt64 &&& 63).toUInt64)).toNat = _
    rw [UInt64.toNat_shiftRight]
    show x.toBitVec.toNat >>> ((y.toInt64 &&& 63).toBitVec.toNat % 64) = _
    rw [h, Nat.mod_eq_of_lt hk, Nat.shiftRight_eq_div_pow]
  have l : x.toBitVec.toNat / 2 ^ k < 2 ^ 63 := Nat.lt_of_le_of_lt (Nat.div_le_self _ _) b
  rw [toInt_of_nat e l, ← a]; simp
theorem shl_nat {x : Int64} {y : Int32} {k : Nat} (hx : 0 ≤ x.toInt) (hy : y.toInt = k) (hk : k < 64) : (x <<< (y.toInt64 &&& 63)).toBitVec.toNat = x.toBitVec.toNat * 2 ^ k % 2 ^ 64 := by
  have h := sh_amt hy hk
  show (x.toBitVec <<< ((y.toInt64 &&& 63).toBitVec.smod 64)).toNat = _
  have e : (y.toInt64 &&& 63).toBitVec.smod 64 = BitVec.ofNat 64 k := by
    have : (y.toInt64 &&& 63).toBitVec = BitVec.ofNat 64 k := BitVec.eq_of_toNat_eq (by rw [h]; simp; omega)
    rw [this]
    apply BitVec.eq_of_toInt_eq
    rw [BitVec.toInt_smod]
    have e1 : (BitVec.ofNat 64 k).toInt = k := by rw [BitVec.toInt_eq_toNat_cond]; simp; omega
    have e2 : (64 : BitVec 64).toInt = 64 := rfl
    rw [e1, e2, Int.fmod_eq_emod_of_nonneg _ (by decide)]
    omega
  rw [e, BitVec.shiftLeft_eq', BitVec.toNat_shiftLeft, Nat.shiftLeft_eq]
  simp
  rw [Nat.mod_eq_of_lt (a := k) (by omega)]
theorem sub1_nat {x : Int64} (h : x.toBitVec.toNat ≠ 0) : (x - 1).toBitVec.toNat = x.toBitVec.toNat - 1 := by
  show (x.toBitVec - (1 : Int64).toBitVec).toNat = _
  rw [BitVec.toNat_sub]
  have := x.toBitVec.isLt
  have e : (1 : Int64).toBitVec.toNat = 1 := rfl
  rw [e]; omega
/-- (m << s) - 1, where it fits -/
theorem top_nn {x : Int64} {y : Int32} {k : Nat} (hx : 1 ≤ x.toInt) (hy : y.toInt = k) (hk : k < 64) (hb : x.toInt * (2 ^ k : Nat) ≤ 9223372036854775808) : (x <<< (y.toInt64 &&& 63) - 1).toInt = x.toInt * (2 ^ k : Nat) - 1 := by
  obtain ⟨a, b⟩ := nat_of_toInt (x := x) (by omega)
  have h1 := shl_nat (x := x) (by omega) hy hk
  have hp := Nat.two_pow_pos k
  have e0 : ((x.toBitVec.toNat * 2 ^ k : Nat) : Int) = x.toInt * (2 ^ k : Nat) := by rw [Int.natCast_mul, a]
  have h2 : x.toBitVec.toNat * 2 ^ k ≤ 9223372036854775808 := by omega
  have h0 : 0 < x.toBitVec.toNat * 2 ^ k := Nat.mul_pos (by omega) hp
  rw [Nat.mod_eq_of_lt (by omega)] at h1
  have h3 := sub1_nat (x := x <<< (y.toInt64 &&& 63)) (by rw [h1]; omega)
  rw [h1] at h3
  rw [toInt_of_nat h3 (by omega)]
  omega
/-- v | (2^s - 1) -/
theorem or_nn {x y : Int64} {k : Nat} (hx : 0 ≤ x.toInt) (hk : k ≤ 62) (hy : y.toInt = (2 ^ k : Nat) - 1) : (x ||| y).toInt = x.toInt / (2 ^ k : Nat) * (2 ^ k : Nat) + ((2 ^ k : Nat) - 1) := by
  have hp := Nat.two_pow_pos k
  obtain ⟨a, b⟩ := nat_of_toInt hx
  obtain ⟨c, d⟩ := nat_of_toInt (x := y) (by omega)
  have hle : 2 ^ k ≤ 2 ^ 62 := Nat.pow_le_pow_right (by decide) hk
  have e : (x ||| y).toBitVec.toNat = x.toBitVec.toNat / 2 ^ k * 2 ^ k + (2 ^ k - 1) := by
    show (x.toBitVec ||| y.toBitVec).toNat = _
    rw [BitVec.toNat_or, show y.toBitVec.toNat = 2 ^ k - 1 by omega]
    generalize x.toBitVec.toNat = X
    have h1 : X = 2 ^ k * (X / 2 ^ k) + X % 2 ^ k := (Nat.div_add_mod X (2 ^ k)).symm
    have h2 : X % 2 ^ k < 2 ^ k := Nat.mod_lt _ hp
    conv => lhs; rw [h1]
    rw [Nat.two_pow_add_eq_or_of_lt h2, Nat.or_assoc]
    have h3 : X % 2 ^ k ||| (2 ^ k - 1) = 2 ^ k - 1 := by
      apply Nat.eq_of_testBit_eq
      intro i
      rw [Nat.testBit_or, Nat.testBit_two_pow_sub_one, Nat.testBit_mod_two_pow]
      by_cases q : i < k <;> simp [q]
    rw [h3, ← Nat.two_pow_add_eq_or_of_lt (by omega), Nat.mul_comm]
  have hdm : x.toBitVec.toNat / 2 ^ k * 2 ^ k ≤ x.toBitVec.toNat := Nat.div_mul_le_self _ _
  have hlt : x.toBitVec.toNat / 2 ^ k * 2 ^ k + (2 ^ k - 1) < 2 ^ 63 := by
    have h5 : x.toBitVec.toNat / 2 ^ k < 2 ^ (63 - k) := by
      rw [Nat.div_lt_iff_lt_mul hp, ← Nat.pow_add, show 63 - k + k = 63 by omega]; exact b
    have h6 : (x.toBitVec.toNat / 2 ^ k + 1) * 2 ^ k ≤ 2 ^ (63 - k) * 2 ^ k := Nat.mul_le_mul_right _ h5
    rw [← Nat.pow_add, show 63 - k + k = 63 by omega, Nat.succ_mul] at h6
    omega
  have hc : ((2 ^ k - 1 : Nat) : Int) = ((2 ^ k : Nat) : Int) - 1 := by omega
  rw [toInt_of_nat e hlt, Int.natCast_add, Int.natCast_mul, hc, Int.natCast_ediv, ← a]
theorem log_div {a k : Nat} (h : 2 ^ k ≤ a) : Nat.log2 (a / 2 ^ k) + k = Nat.log2 a := by
  have hp := Nat.two_pow_pos k
  have ha : a ≠ 0 := by omega
  have hq : 0 < a / 2 ^ k := Nat.div_pos h hp
  have l1 : k ≤ Nat.log2 a := (Nat.le_log2 ha).mpr h
  have e : Nat.log2 (a / 2 ^ k) = Nat.log2 a - k := by
    rw [Nat.log2_eq_iff (by omega)]
    have h1 := Nat.log2_self_le ha
    have h2 := Nat.lt_log2_self (n := a)
    constructor
    · rw [Nat.le_div_iff_mul_le hp, ← Nat.pow_add, show Nat.log2 a - k + k = Nat.log2 a by omega]; exact h1
    · rw [Nat.div_lt_iff_lt_mul hp, ← Nat.pow_add, show Nat.log2 a - k + 1 + k = Nat.log2 a + 1 by omega]; exact h2
  omega
theorem toInt_of_nat32 {x : Int32} {n : Nat} (h : x.toBitVec.toNat = n) (hn : n < 2 ^ 31) : x.toInt = n := by
  show x.toBitVec.toInt = n
  rw [BitVec.toInt_eq_toNat_cond, h, if_pos (by omega)]
theorem iushr_nn {x y : Int32} {k : Nat} (hx : 0 ≤ x.toInt) (hy : y.toInt = k) (hk : k < 32) : ((x.toUInt32 >>> (y &&& 31).toUInt32).toInt32).toInt = x.toInt / (2 ^ k : Nat) := by
  obtain ⟨a, b⟩ := nat_of_toInt32 hx
  obtain ⟨c, d⟩ := nat_of_toInt32 (x := y) (by omega)
  have h : (y &&& 31).toBitVec.toNat = k := by
    have e2 : (y &&& 31).toBitVec.toNat = y.toBitVec.toNat &&& 31 := by
      show (y.toBitVec &&& (31 : Int32).toBitVec).toNat = _
      rw [BitVec.toNat_and]; rfl
    rw [e2, show (31 : Nat) = 2 ^ 5 - 1 from rfl, Nat.and_two_pow_sub_one_eq_mod]; omega
  have e : ((x.toUInt32 >>> (y &&& 31).toUInt32).toInt32).toBitVec.toNat = x.toBitVec.toNat / 2 ^ k := by
    show ((x.toUInt32 >>> (y &&& 31).toUInt32)).toNat = _
    rw [UInt32.toNat_shiftRight]
    show x.toBitVec.toNat >>> ((y &&& 31).toBitVec.toNat % 32) = _
    rw [h, Nat.mod_eq_of_lt hk, Nat.shiftRight_eq_div_pow]
  have l : x.toBitVec.toNat / 2 ^ k < 2 ^ 31 := Nat.lt_of_le_of_lt (Nat.div_le_self _ _) b
  rw [toInt_of_nat32 e l, ← a, Int.natCast_ediv]
theorem add32 {x y : Int32} (h1 : -2147483648 ≤ x.toInt + y.toInt) (h2 : x.toInt + y.toInt ≤ 2147483647) : (x + y).toInt = x.toInt + y.toInt := by
  rw [Int32.toInt_add]; exact Int.bmod_eq_of_le (by omega) (by omega)
theorem sub32 {x y : Int32} (h1 : -2147483648 ≤ x.toInt - y.toInt) (h2 : x.toInt - y.toInt ≤ 2147483647) : (x - y).toInt = x.toInt - y.toInt := by
  rw [Int32.toInt_sub]; exact Int.bmod_eq_of_le (by omega) (by omega)
theorem mul32 {x y : Int32} (h1 : -2147483648 ≤ x.toInt * y.toInt) (h2 : x.toInt * y.toInt ≤ 2147483647) : (x * y).toInt = x.toInt * y.toInt := by
  rw [Int32.toInt_mul]; exact Int.bmod_eq_of_le (by omega) (by omega)
/-- Integer.numberOfLeadingZeros, half by half -/
def NInv (R : Int) (k : Nat) (i n : Int32) : Prop := 1 ≤ i.toInt ∧ i.toInt < (2 ^ k : Nat) ∧ n.toInt = R + (Nat.log2 i.toInt.toNat : Int) ∧ 0 ≤ R ∧ R ≤ 31
theorem n_start {x : Int32} (h : 0 < x) : NInv (31 - (Nat.log2 x.toBitVec.toNat : Int)) 31 x 31 := by
  rw [Int32.lt_iff_toInt_lt] at h
  simp only [Int32.reduceToInt] at h
  obtain ⟨a, b⟩ := nat_of_toInt32 (x := x) (by omega)
  have e : x.toInt.toNat = x.toBitVec.toNat := by omega
  have hl : Nat.log2 x.toBitVec.toNat < 31 := (Nat.log2_lt (by omega)).mpr b
  refine ⟨by omega, by omega, ?_, by omega, by omega⟩
  rw [e]; show (31 : Int) = _; omega
theorem n_neg {x : Int32} (h : ¬ 0 < x) (h0 : x ≠ 0) : (0 : Int32).toInt = 31 - (Nat.log2 x.toBitVec.toNat : Int) := by
  have h1 : x.toInt ≤ 0 := by rw [Int32.lt_iff_toInt_lt] at h; simp only [Int32.reduceToInt] at h; omega
  have h2 : x.toInt ≠ 0 := fun q => h0 (Int32.toInt_inj.mp (by rw [q]; rfl))
  have hlt := x.toBitVec.isLt
  have hge : 2 ^ 31 ≤ x.toBitVec.toNat := by
    have h3 : x.toInt = x.toBitVec.toInt := rfl
    rw [h3, BitVec.toInt_eq_toNat_cond] at h1 h2
    split at h1 <;> rename_i hc
    · rw [if_pos hc] at h2; omega
    · omega
  have : Nat.log2 x.toBitVec.toNat = 31 := by rw [Nat.log2_eq_iff (by omega)]; omega
  rw [this]; rfl
theorem n_stay {R : Int} {K k : Nat} {i n lit : Int32} (h : NInv R K i n) (hl : lit.toInt = (2 ^ k : Nat)) (hlt : i < lit) : NInv R k i n := by
  rw [Int32.lt_iff_toInt_lt, hl] at hlt
  exact ⟨h.1, hlt, h.2.2⟩
theorem n_go {R : Int} {K k : Nat} {i n lit q mk : Int32} (h : NInv R K i n) (hK : K ≤ k + k) (hk : k ≤ 16) (h0 : 0 < k) (hl : lit.toInt = (2 ^ k : Nat)) (hq : q.toInt = k) (hm : mk.toInt = -k) (hge : ¬ i < lit) : NInv R k ((i.toUInt32 >>> (q &&& 31).toUInt32).toInt32) (n + mk) := by
  obtain ⟨a, b, c, d, e⟩ := h
  rw [Int32.lt_iff_toInt_lt, hl] at hge
  have hs := iushr_nn (x := i) (by omega) hq (by omega)
  have hp := Nat.two_pow_pos k
  have hKp : 2 ^ K ≤ 2 ^ k * 2 ^ k := by rw [← Nat.pow_add]; exact Nat.pow_le_pow_right (by decide) hK
  have en : ((i.toInt.toNat : Nat) : Int) = i.toInt := by omega
  have ed : (i.toInt / (2 ^ k : Nat)).toNat = i.toInt.toNat / 2 ^ k := by
    obtain ⟨A, hA⟩ : ∃ A : Nat, i.toInt = A := ⟨i.toInt.toNat, by omega⟩
    rw [hA, Int.toNat_natCast, ← Int.natCast_ediv, Int.toNat_natCast]
  have hlg := log_div (a := i.toInt.toNat) (k := k) (by omega)
  have hlt : i.toInt.toNat / 2 ^ k < 2 ^ k := (Nat.div_lt_iff_lt_mul hp).mpr (by omega)
  have hpos : 0 < i.toInt.toNat / 2 ^ k := Nat.div_pos (by omega) hp
  have hi31 : i.toInt < 2147483648 := i.toInt_lt
  have hlog : Nat.log2 i.toInt.toNat < 31 := (Nat.log2_lt (by omega)).mpr (by omega)
  have es : ((i.toUInt32 >>> (q &&& 31).toUInt32).toInt32).toInt = ((i.toInt.toNat / 2 ^ k : Nat) : Int) := by
    have hnn : 0 ≤ i.toInt / ((2 ^ k : Nat) : Int) := Int.ediv_nonneg (by omega) (by omega)
    rw [hs, ← ed]; omega
  refine ⟨by rw [es]; omega, by rw [es]; omega, ?_, d, e⟩
  rw [es, add32 (by rw [c, hm]; omega) (by rw [c, hm]; omega), c, hm]
  simp only [Int.toNat_natCast]
  omega
theorem n_end {R : Int} {i n : Int32} (h : NInv R 2 i n) : (n - (i.toUInt32 >>> ((1 : Int32) &&& 31).toUInt32).toInt32).toInt = R := by
  obtain ⟨a, b, c, d, e⟩ := h
  have hs := iushr_nn (x := i) (y := 1) (k := 1) (by omega) rfl (by decide)
  have hc : i.toInt = 1 ∨ i.toInt = 2 ∨ i.toInt = 3 := by omega
  have hl : (Nat.log2 i.toInt.toNat : Int) = i.toInt / (2 ^ 1 : Nat) := by rcases hc with q | q | q <;> rw [q] <;> decide
  rw [sub32 (by rw [hs, c, hl]; omega) (by rw [hs, c, hl]; omega), hs, c, hl]; omega
theorem l2i_val {x : Int64} (h1 : -2147483648 ≤ x.toInt) (h2 : x.toInt ≤ 2147483647) : x.toInt32.toInt = x.toInt := by
  rw [Int64.toInt_toInt32]; exact Int.bmod_eq_of_le (by omega) (by omega)
theorem add64 {x y : Int64} (h1 : -9223372036854775808 ≤ x.toInt + y.toInt) (h2 : x.toInt + y.toInt ≤ 9223372036854775807) : (x + y).toInt = x.toInt + y.toInt := by
  rw [Int64.toInt_add]; exact Int.bmod_eq_of_le (by omega) (by omega)
theorem sub64 {x y : Int64} (h1 : -9223372036854775808 ≤ x.toInt - y.toInt) (h2 : x.toInt - y.toInt ≤ 9223372036854775807) : (x - y).toInt = x.toInt - y.toInt := by
  rw [Int64.toInt_sub]; exact Int.bmod_eq_of_le (by omega) (by omega)
theorem ediv_nat {A : Int} {P : Nat} (h : 0 ≤ A) : A / (P : Int) = ((A.toNat / P : Nat) : Int) := by
  obtain ⟨a, rfl⟩ : ∃ a : Nat, A = a := ⟨A.toNat, by omega⟩
  rw [Int.toNat_natCast, Int.natCast_ediv]
/-- Long.numberOfLeadingZeros -/
theorem hi_val {v : Int64} (h : 0 ≤ v.toInt) : ((Jvm.Free.XT.ushrL v 32).toInt32).toInt = ((v.toInt.toNat / 2 ^ 32 : Nat) : Int) ∧ v.toInt.toNat / 2 ^ 32 < 2 ^ 31 := by
  have e := ushr_nn (x := v) (y := 32) (k := 32) h rfl (by decide)
  rw [ediv_nat h] at e
  have hb : v.toInt < 9223372036854775808 := v.toInt_lt
  have hl : v.toInt.toNat / 2 ^ 32 < 2 ^ 31 := by omega
  exact ⟨by rw [l2i_val (by rw [e]; omega) (by rw [e]; omega), e], hl⟩
theorem nlz_lo {v : Int64} (h : 0 < v.toInt) (h0 : (Jvm.Free.XT.ushrL v 32).toInt32 = 0) : v.toInt32 ≠ 0 ∧ ∀ r : Int32, r.toInt = 31 - (Nat.log2 v.toInt32.toBitVec.toNat : Int) → (32 + r).toInt = 63 - (Nat.log2 v.toInt.toNat : Int) := by
  obtain ⟨e, -⟩ := hi_val (v := v) (by omega)
  rw [h0] at e
  simp only [Int32.reduceToInt] at e
  have hlt : v.toInt.toNat < 2 ^ 32 := by omega
  obtain ⟨a, b⟩ := nat_of_toInt (x := v) (by omega)
  have en : v.toInt32.toBitVec.toNat = v.toInt.toNat := by
    show (v.toBitVec.signExtend 32).toNat = _
    rw [BitVec.signExtend_eq_setWidth_of_le _ (by decide), BitVec.toNat_setWidth]
    omega
  refine ⟨fun q => ?_, fun r hr => ?_⟩
  · rw [q] at en; have : (0 : Int32).toBitVec.toNat = 0 := rfl; omega
  · rw [en] at hr
    have : Nat.log2 v.toInt.toNat < 32 := (Nat.log2_lt (by omega)).mpr hlt
    rw [add32 (by rw [hr]; show _ ≤ (32 : Int) + _; omega) (by rw [hr]; show (32 : Int) + _ ≤ _; omega), hr]
    show (32 : Int) + _ = _
    omega
theorem nlz_hi {v : Int64} (h : 0 < v.toInt) {r : Int32} (h0 : (Jvm.Free.XT.ushrL v 32).toInt32 ≠ 0) (hr : r.toInt = 31 - (Nat.log2 (Jvm.Free.XT.ushrL v 32).toInt32.toBitVec.toNat : Int)) : r.toInt = 63 - (Nat.log2 v.toInt.toNat : Int) := by
  obtain ⟨e, hl⟩ := hi_val (v := v) (by omega)
  obtain ⟨a, b⟩ := nat_of_toInt32 (x := (Jvm.Free.XT.ushrL v 32).toInt32) (by omega)
  have en : (Jvm.Free.XT.ushrL v 32).toInt32.toBitVec.toNat = v.toInt.toNat / 2 ^ 32 := by omega
  have hpos : v.toInt.toNat / 2 ^ 32 ≠ 0 := fun q => h0 (Int32.toInt_inj.mp (by rw [e, q]; rfl))
  have := log_div (a := v.toInt.toNat) (k := 32) (by omega)
  rw [hr, en]; omega
/-- the law's own bitLength, half by half -/
def LInv (l : Nat) (K : Nat) (v : Int64) (n : Int32) : Prop := 1 ≤ v.toInt ∧ v.toInt < (2 ^ K : Nat) ∧ n.toInt + (Nat.log2 v.toInt.toNat : Int) = l ∧ l ≤ 62 ∧ 0 ≤ n.toInt
theorem l_start {v : Int64} (h : 0 < v.toInt) : LInv (Nat.log2 v.toInt.toNat) 63 v 0 := by
  have hb : v.toInt < 9223372036854775808 := v.toInt_lt
  have : Nat.log2 v.toInt.toNat < 63 := (Nat.log2_lt (by omega)).mpr (by omega)
  exact ⟨by omega, by simpa using hb, by show (0 : Int) + _ = _; omega, by omega, by decide⟩
theorem l_stay {l K k : Nat} {v : Int64} {n q : Int32} (h : LInv l K v n) (hq : q.toInt = k) (hk : k < 64) (h0 : Jvm.Free.XT.ushrL v q = 0) : LInv l k v n := by
  have e := ushr_nn (x := v) (by have := h.1; omega) hq hk
  rw [h0, ediv_nat (by have := h.1; omega)] at e
  have hz : (0 : Int64).toInt = 0 := rfl
  rw [hz] at e
  have hp := Nat.two_pow_pos k
  have : v.toInt.toNat < 2 ^ k := by
    rcases Nat.lt_or_ge v.toInt.toNat (2 ^ k) with q | q
    · exact q
    · have := Nat.div_pos q hp; omega
  exact ⟨h.1, by have := h.1; omega, h.2.2⟩
theorem l_go {l K k : Nat} {v : Int64} {n q mk : Int32} (h : LInv l K v n) (hK : K ≤ k + k) (hq : q.toInt = k) (hm : mk.toInt = k) (hk : k < 64) (h0 : ¬ Jvm.Free.XT.ushrL v q = 0) : LInv l k (Jvm.Free.XT.ushrL v q) (n + mk) := by
  obtain ⟨a, b, c, d, e'⟩ := h
  have e := ushr_nn (x := v) (by omega) hq hk
  rw [ediv_nat (by omega)] at e
  have hp := Nat.two_pow_pos k
  have hne : v.toInt.toNat / 2 ^ k ≠ 0 := fun q' => h0 (Int64.toInt_inj.mp (by rw [e, q']; rfl))
  have hge : 2 ^ k ≤ v.toInt.toNat := by
    rcases Nat.lt_or_ge v.toInt.toNat (2 ^ k) with q' | q'
    · exact absurd (Nat.div_eq_of_lt q') hne
    · exact q'
  have hlg := log_div hge
  have hKp : 2 ^ K ≤ 2 ^ k * 2 ^ k := by rw [← Nat.pow_add]; exact Nat.pow_le_pow_right (by decide) hK
  have hlt : v.toInt.toNat / 2 ^ k < 2 ^ k := (Nat.div_lt_iff_lt_mul hp).mpr (by omega)
  obtain ⟨D, hD⟩ : ∃ D, v.toInt.toNat / 2 ^ k = D := ⟨_, rfl⟩
  rw [hD] at e hne hlg hlt
  refine ⟨by rw [e]; omega, by rw [e]; omega, ?_, d, ?_⟩
  · rw [e, add32 (by omega) (by omega), hm, Int.toNat_natCast]; omega
  · rw [add32 (by omega) (by omega), hm]; omega
theorem l_end {l : Nat} {v : Int64} {n : Int32} (h : LInv l 1 v n) : v ≠ 0 ∧ (n + 1).toInt = l + 1 := by
  obtain ⟨a, b, c, d, e⟩ := h
  have hv : v.toInt = 1 := by omega
  refine ⟨fun q => (by rw [q] at hv; exact absurd hv (by decide)), ?_⟩
  rw [hv] at c
  have hz : Nat.log2 (1 : Int).toNat = 0 := by decide
  rw [hz] at c
  rw [add32 (by show _ ≤ n.toInt + 1; omega) (by show n.toInt + 1 ≤ _; omega)]
  show n.toInt + 1 = _
  omega
/-- the edge of a value of 256 or more -/
theorem edge_val {v : Int64} {b : Int32} (h : 256 ≤ v.toInt) (hb : b.toInt = (Nat.log2 v.toInt.toNat : Int) + 1) : (v ||| ((1 : Int64) <<< ((b - 8).toInt64 &&& 63) - 1)).toInt = (edgeN v.toInt.toNat : Int) := by
  have hlt : v.toInt < 9223372036854775808 := v.toInt_lt
  have h256 : 256 ≤ v.toInt.toNat := by omega
  have hs := shf_le h256 (by omega)
  have h8 := log_ge h256
  have eb : (b - 8).toInt = (shf v.toInt.toNat : Int) := by
    rw [sub32 (by rw [hb]; show _ ≤ _ - (8 : Int); omega) (by rw [hb]; show _ - (8 : Int) ≤ _; unfold shf at hs; omega), hb]
    show _ - (8 : Int) = _
    unfold shf; omega
  have hp := Nat.two_pow_pos (shf v.toInt.toNat)
  have hpl : 2 ^ shf v.toInt.toNat ≤ 2 ^ 55 := Nat.pow_le_pow_right (by decide) hs
  have et := top_nn (x := 1) (y := b - 8) (k := shf v.toInt.toNat) (by decide) eb (by omega) (by show (1 : Int) * _ ≤ _; omega)
  have et2 : ((1 : Int64) <<< ((b - 8).toInt64 &&& 63) - 1).toInt = (2 ^ shf v.toInt.toNat : Nat) - 1 := by rw [et]; show (1 : Int) * _ - 1 = _; omega
  have eo := or_nn (x := v) (k := shf v.toInt.toNat) (by omega) (by omega) et2
  rw [eo]
  unfold edgeN
  rw [if_neg (by omega), edge_or h256, ediv_nat (by omega), Int.natCast_add, Int.natCast_mul]
  omega
/-- the bucket of a value of 256 or more -/
theorem bkt_val {v : Int64} {r : Int32} (h : 256 ≤ v.toInt) (hr : r.toInt = 63 - (Nat.log2 v.toInt.toNat : Int)) :
    ((256 : Int32) + ((64 : Int32) - r - 8 - 1) * 128 + (Jvm.Free.XT.ushrL v ((64 : Int32) - r - 8)).toInt32 - 128).toInt = (bkt v.toInt.toNat : Int) := by
  have hlt : v.toInt < 9223372036854775808 := v.toInt_lt
  have h256 : 256 ≤ v.toInt.toNat := by omega
  have hs := shf_le h256 (by omega)
  have h8 := log_ge h256
  obtain ⟨q1, q2, q3⟩ := quot h256
  have el : (Nat.log2 v.toInt.toNat : Int) = (shf v.toInt.toNat : Int) + 7 := by unfold shf; omega
  have k64 : (64 : Int32).toInt = 64 := rfl
  have k8 : (8 : Int32).toInt = 8 := rfl
  have k1 : (1 : Int32).toInt = 1 := rfl
  have k128 : (128 : Int32).toInt = 128 := rfl
  have k256 : (256 : Int32).toInt = 256 := rfl
  have e1 : ((64 : Int32) - r).toInt = (shf v.toInt.toNat : Int) + 8 := by rw [sub32 (by omega) (by omega)]; omega
  have e2 : ((64 : Int32) - r - 8).toInt = (shf v.toInt.toNat : Int) := by rw [sub32 (by omega) (by omega)]; omega
  have e3 : ((64 : Int32) - r - 8 - 1).toInt = (shf v.toInt.toNat : Int) - 1 := by rw [sub32 (by omega) (by omega)]; omega
  have e4 : (((64 : Int32) - r - 8 - 1) * 128).toInt = ((shf v.toInt.toNat : Int) - 1) * 128 := by rw [mul32 (by rw [e3, k128]; omega) (by rw [e3, k128]; omega), e3, k128]
  have e5 : ((256 : Int32) + ((64 : Int32) - r - 8 - 1) * 128).toInt = 256 + ((shf v.toInt.toNat : Int) - 1) * 128 := by rw [add32 (by rw [e4, k256]; omega) (by rw [e4, k256]; omega), e4, k256]
  have eu := ushr_nn (x := v) (by omega) e2 (by omega)
  rw [ediv_nat (by omega)] at eu
  obtain ⟨k, hk⟩ : ∃ k, v.toInt.toNat / 2 ^ shf v.toInt.toNat = k := ⟨_, rfl⟩
  rw [hk] at q2 q3 eu
  have e6 : ((Jvm.Free.XT.ushrL v ((64 : Int32) - r - 8)).toInt32).toInt = k := by rw [l2i_val (by rw [eu]; omega) (by rw [eu]; omega), eu]
  have e7 : ((256 : Int32) + ((64 : Int32) - r - 8 - 1) * 128 + (Jvm.Free.XT.ushrL v ((64 : Int32) - r - 8)).toInt32).toInt = 256 + ((shf v.toInt.toNat : Int) - 1) * 128 + k := by rw [add32 (by rw [e5, e6]; omega) (by rw [e5, e6]; omega), e5, e6]
  have e8 : ((256 : Int32) + ((64 : Int32) - r - 8 - 1) * 128 + (Jvm.Free.XT.ushrL v ((64 : Int32) - r - 8)).toInt32 - 128).toInt = 256 + ((shf v.toInt.toNat : Int) - 1) * 128 + k - 128 := by rw [sub32 (by rw [e7, k128]; omega) (by rw [e7, k128]; omega), e7, k128]
  rw [e8]
  unfold bkt
  rw [if_neg (by omega), hk]
  omega
/-- the highest value of a bucket of 256 or more -/
theorem hi_val' {j : Int32} {b : Nat} (hj : j.toInt = b) (h : 256 ≤ b) (h2 : b < 7296) :
    (((((j - 256) % 128 + 128).toInt64 + 1) <<< (((j - 256) / 128 + 1).toInt64 &&& 63)) - 1).toInt = (hiN b : Int) := by
  have k1 : (1 : Int32).toInt = 1 := rfl
  have k128 : (128 : Int32).toInt = 128 := rfl
  have k256 : (256 : Int32).toInt = 256 := rfl
  have e1 : (j - 256).toInt = ((b - 256 : Nat) : Int) := by rw [sub32 (by omega) (by omega)]; omega
  have e2 : ((j - 256) % 128).toInt = (((b - 256) % 128 : Nat) : Int) := by rw [Int32.toInt_mod, e1, k128]; rfl
  have e3 : ((j - 256) / 128).toInt = (((b - 256) / 128 : Nat) : Int) := by rw [Int32.toInt_div_of_ne_right _ _ (by decide), e1, k128]; rfl
  have e4 : ((j - 256) % 128 + 128).toInt = (((b - 256) % 128 + 128 : Nat) : Int) := by rw [add32 (by omega) (by omega), e2, k128]; omega
  have e5 : ((j - 256) / 128 + 1).toInt = (((b - 256) / 128 + 1 : Nat) : Int) := by rw [add32 (by omega) (by omega), e3, k1]; omega
  have e6 : (((j - 256) % 128 + 128).toInt64 + 1).toInt = (((b - 256) % 128 + 129 : Nat) : Int) := by
    have k : (1 : Int64).toInt = 1 := rfl
    rw [add64 (by rw [Int32.toInt_toInt64, e4, k]; omega) (by rw [Int32.toInt_toInt64, e4, k]; omega), Int32.toInt_toInt64, e4, k]; omega
  have hpl : 2 ^ ((b - 256) / 128 + 1) ≤ 2 ^ 55 := Nat.pow_le_pow_right (by decide) (by omega)
  have hp := Nat.two_pow_pos ((b - 256) / 128 + 1)
  have hm : ((b - 256) % 128 + 129) * 2 ^ ((b - 256) / 128 + 1) ≤ 256 * 2 ^ 55 := Nat.mul_le_mul (by omega) hpl
  have hpos : 0 < ((b - 256) % 128 + 129) * 2 ^ ((b - 256) / 128 + 1) := Nat.mul_pos (by omega) hp
  have et := top_nn (x := ((j - 256) % 128 + 128).toInt64 + 1) (y := (j - 256) / 128 + 1) (k := (b - 256) / 128 + 1) (by rw [e6]; omega) e5 (by omega) (by rw [e6, ← Int.natCast_mul]; omega)
  rw [et, e6, ← Int.natCast_mul]
  unfold hiN
  rw [if_neg (by omega)]
  omega
/-! counts over the buckets -/
def Sm (f : Nat → Nat) : Nat → Nat
  | 0 => 0
  | k + 1 => Sm f k + f k
def bump (f : Nat → Nat) (a : Nat) : Nat → Nat := fun i => if i = a then f i + 1 else f i
def nil0 : Nat → Nat := fun _ => 0
theorem Sm_nil (k : Nat) : Sm nil0 k = 0 := by
  induction k with
  | zero => rfl
  | succ k ih => simp [Sm, ih, nil0]
theorem Sm_bump (f : Nat → Nat) (a k : Nat) : Sm (bump f a) k = Sm f k + (if a < k then 1 else 0) := by
  induction k with
  | zero => simp [Sm]
  | succ k ih =>
    simp only [Sm, ih, bump]
    by_cases h1 : k = a
    · subst h1; simp; omega
    · by_cases h2 : a < k
      · rw [if_pos h2, if_neg h1, if_pos (by omega)]; omega
      · rw [if_neg h2, if_neg h1, if_neg (by omega)]; omega
theorem Sm_mono (f : Nat → Nat) {k k' : Nat} (h : k ≤ k') : Sm f k ≤ Sm f k' := by
  induction k' with
  | zero => have : k = 0 := by omega
            subst this; exact Nat.le_refl _
  | succ k' ih =>
    by_cases e : k = k' + 1
    · subst e; exact Nat.le_refl _
    · exact Nat.le_trans (ih (by omega)) (Nat.le_add_right _ _)
theorem hi_min (a b : Nat) : hiN (min a b) = min (hiN a) (hiN b) := by
  rcases Nat.le_total a b with h | h
  · rw [Nat.min_eq_left h, Nat.min_eq_left (hi_le h)]
  · rw [Nat.min_eq_right h, Nat.min_eq_right (hi_le h)]
theorem hi_max (a b : Nat) : hiN (max a b) = max (hiN a) (hiN b) := by
  rcases Nat.le_total a b with h | h
  · rw [Nat.max_eq_right h, Nat.max_eq_right (hi_le h)]
  · rw [Nat.max_eq_left h, Nat.max_eq_left (hi_le h)]
theorem stops (A B C k : Nat) : Sm (bump (bump (bump nil0 A) B) C) k = (if A < k then 1 else 0) + (if B < k then 1 else 0) + (if C < k then 1 else 0) := by
  rw [Sm_bump, Sm_bump, Sm_bump, Sm_nil]; omega
theorem stop1 (A B C : Nat) : Sm (bump (bump (bump nil0 A) B) C) (min A (min B C)) < 1 ∧ 1 ≤ Sm (bump (bump (bump nil0 A) B) C) (min A (min B C) + 1) := by
  rw [stops, stops]; constructor <;> (repeat' split) <;> omega
theorem stop2 (A B C : Nat) : Sm (bump (bump (bump nil0 A) B) C) (max (min A B) (min (max A B) C)) < 2 ∧ 2 ≤ Sm (bump (bump (bump nil0 A) B) C) (max (min A B) (min (max A B) C) + 1) := by
  rw [stops, stops]; constructor <;> (repeat' split) <;> omega
theorem stop3 (A B C : Nat) : Sm (bump (bump (bump nil0 A) B) C) (max A (max B C)) < 3 ∧ 3 ≤ Sm (bump (bump (bump nil0 A) B) C) (max A (max B C) + 1) := by
  rw [stops, stops]; constructor <;> (repeat' split) <;> omega
theorem small3 (A B C k : Nat) : Sm (bump (bump (bump nil0 A) B) C) k ≤ 3 := by
  rw [stops]; (repeat' split) <;> omega
def add2 (f g : Nat → Nat) : Nat → Nat := fun i => f i + g i
def mix (f g : Nat → Nat) (k : Nat) : Nat → Nat := fun i => if i < k then f i + g i else f i
theorem mix_zero (f g : Nat → Nat) : mix f g 0 = f := by funext i; simp [mix]
theorem mix_end (f g : Nat → Nat) {i : Nat} (h : i < 7296) : mix f g 7296 i = add2 f g i := by simp [mix, add2, h]
theorem mix_succ (f g : Nat → Nat) (k j : Nat) : mix f g (k + 1) j = if j = k then mix f g k k + g k else mix f g k j := by
  unfold mix
  by_cases q : j = k
  · subst q; simp
  · rw [if_neg q]
    by_cases q2 : j < k
    · rw [if_pos q2, if_pos (by omega)]
    · rw [if_neg q2, if_neg (by omega)]
theorem Sm_add (f g : Nat → Nat) (k : Nat) : Sm (add2 f g) k = Sm f k + Sm g k := by
  induction k with
  | zero => rfl
  | succ k ih => simp only [Sm, ih, add2]; omega
theorem one_at (A k : Nat) : Sm (bump nil0 A) k = if A < k then 1 else 0 := by rw [Sm_bump, Sm_nil]; omega
theorem stopA (A : Nat) : Sm (bump nil0 A) A < 1 ∧ 1 ≤ Sm (bump nil0 A) (A + 1) := by
  rw [one_at, one_at]; constructor <;> (repeat' split) <;> omega
theorem smallA (A k : Nat) : Sm (bump nil0 A) k ≤ 3 := by rw [one_at]; split <;> omega
theorem stopL (A : Nat) : Sm (add2 (bump nil0 A) nil0) A < 1 ∧ 1 ≤ Sm (add2 (bump nil0 A) nil0) (A + 1) := by
  rw [Sm_add, Sm_add, Sm_nil, Sm_nil, one_at, one_at]; constructor <;> (repeat' split) <;> omega
theorem smallL (A k : Nat) : Sm (add2 (bump nil0 A) nil0) k ≤ 3 := by rw [Sm_add, Sm_nil, one_at]; split <;> omega
theorem stopR (A : Nat) : Sm (add2 nil0 (bump nil0 A)) A < 1 ∧ 1 ≤ Sm (add2 nil0 (bump nil0 A)) (A + 1) := by
  rw [Sm_add, Sm_add, Sm_nil, Sm_nil, one_at, one_at]; constructor <;> (repeat' split) <;> omega
theorem smallR (A k : Nat) : Sm (add2 nil0 (bump nil0 A)) k ≤ 3 := by rw [Sm_add, Sm_nil, one_at]; split <;> omega
theorem stopM (A B : Nat) : Sm (add2 (bump nil0 A) (bump nil0 B)) (min A B) < 1 ∧ 1 ≤ Sm (add2 (bump nil0 A) (bump nil0 B)) (min A B + 1) := by
  rw [Sm_add, Sm_add, one_at, one_at, one_at, one_at]; constructor <;> (repeat' split) <;> omega
theorem stopN (A B : Nat) : Sm (add2 (bump nil0 A) (bump nil0 B)) (max A B) < 2 ∧ 2 ≤ Sm (add2 (bump nil0 A) (bump nil0 B)) (max A B + 1) := by
  rw [Sm_add, Sm_add, one_at, one_at, one_at, one_at]; constructor <;> (repeat' split) <;> omega
theorem smallM (A B k : Nat) : Sm (add2 (bump nil0 A) (bump nil0 B)) k ≤ 3 := by rw [Sm_add, one_at, one_at]; (repeat' split) <;> omega
end Jvm.OwnHist
namespace Jvm.OwnWp
open Sem ClassFile Op Lib Jvm.Stand Jvm.Free Jvm.LawKit Jvm.RoadKit Jvm.OwnHist
/-- the array of counts -/
def Hst (Z : State) (h : Heap) (a : Addr) (f : Nat → Nat) : Prop := ∃ xs, Vec Z h a .long xs ∧ xs.length = 7296 ∧ ∀ i, i < 7296 → xs[i]? = some (.long (Int64.ofNat (f i)))
section Hs
variable {Z : State} {h h' : Heap} {a b : Addr} {f g : Nat → Nat} {ws : List Addr} {sl : Nat} {v : Value}
theorem Hst.lt (F : Hst Z h a f) : a < h.size := by obtain ⟨xs, V, -⟩ := F; exact V.lt
theorem Hst.ext (F : Hst Z h a f) (E : Ext h h') : Hst Z h' a f := by obtain ⟨xs, V, r⟩ := F; exact ⟨xs, V.ext E, r⟩
theorem Hst.other (F : Hst Z h b f) (W : Wr h h' a sl v) (q : b ≠ a) : Hst Z h' b f := by obtain ⟨xs, V, r⟩ := F; exact ⟨xs, V.other W q, r⟩
theorem Hst.keep (F : Hst Z h a f) (K : Keep h h' ws) (q : a ∉ ws) : Hst Z h' a f := by obtain ⟨xs, V, r⟩ := F; exact ⟨xs, V.keep K q, r⟩
theorem Hst.new (V : Vec Z h a .long (List.replicate 7296 (.long 0))) : Hst Z h a nil0 :=
  ⟨_, V, by rw [List.length_replicate], fun i hi => by rw [List.getElem?_replicate, if_pos hi]; rfl⟩
theorem Hst.put {i n : Nat} {xs : List Value} {z : Int64} (V : Vec Z h a .long xs) (hl : xs.length = 7296) (P : ∀ j, j < 7296 → xs[j]? = some (.long (Int64.ofNat (f j)))) (hi : i < 7296) (W : Wr h h' a i (.long z)) (hz : z = Int64.ofNat n) (hg : ∀ j, j < 7296 → g j = if j = i then n else f j) : Hst Z h' a g := by
  refine ⟨_, V.set W, by rw [List.length_set]; exact hl, fun j hj => ?_⟩
  rw [List.getElem?_set, hg j hj]
  by_cases e : i = j
  · subst e; rw [if_pos rfl, if_pos (by omega), if_pos rfl, hz]
  · rw [if_neg e, if_neg (fun q => e q.symm)]; exact P j hj
theorem Hst.congr (F : Hst Z h a f) (q : ∀ i, i < 7296 → f i = g i) : Hst Z h a g := by obtain ⟨xs, V, hl, P⟩ := F; exact ⟨xs, V, hl, fun i hi => by rw [← q i hi]; exact P i hi⟩
end Hs
end Jvm.OwnWp
namespace Jvm.OwnRaw
open Sem ClassFile Op Lib Jvm.Stand
/-! Steps under a native's frame: no Stand fits there (a claim weighs such a frame 1024 words), so the walk goes by At alone. -/
section T
variable {p : Program} {l : Launch} {e : Env} {s T : State} {m : MethodId} {c : Code} {below : List Frame} {args : Array Value}
theorem rStatic (hadm : l.admits e) (hexec : p.tables.exec = Jvm.exec) (A : At T m c below) (hW : s.WarmedH T.vm) {own : String} {index : Nat} {x : MethodName} (hown : s.vm.findClass own = some m.cls) (hlink : (Cond.methodLink own index x).before args s = true)
    {m' : MethodId} {meth' : Method} {k' : Class} (hn : s.methodNamed? x = some m') (hm' : s.vm.method? m' = some meth') (hstatic : meth'.isStatic = true) (hk' : s.vm.classes[m'.cls]? = some k') (hinit : k'.init = .initialized) (hx : x.cls ≠ "java/lang/invoke/MethodHandle" ∧ x.cls ≠ "java/lang/invoke/VarHandle")
    {g : JFrame} (hg : g.method = m) {argsL rest : List Value} (hlen : argsL.length = meth'.sig.parameters.length) (hstack : g.stack = argsL.reverse ++ rest) (hdg : decode c.code g.pc = .ok (.invokestatic index, 3)) :
    ∃ vm', s.WarmedH vm' ∧ ∀ target, (∀ acts, Steps p.tables e below (doInvoke e ((T.setVm vm').setTop { g with stack := rest }) acts m' argsL.toArray).1 target) → Steps p.tables e below (T.setTop g) target := by
  have hpl : e.platform.magicAccessors = ({} : Platform).magicAccessors := by rw [hadm.platform]
  have hpv : e.platform.polymorphicOnlyByInvokevirtual = true := by rw [hadm.platform]
  obtain ⟨ci, hl, hright⟩ := Cond.methodLink_spec hown hn hlink e.platform hpl
  obtain ⟨kx, hkx, hnx⟩ := className_of_methodNamed hn
  cases hk'.symm.trans hkx
  have hE : s.MethodEntry e T.vm m.cls index m' ci := State.methodEntry hW hl hright fun k hk => by
    cases hk'.symm.trans hk
    rw [hnx]; exact hx
  obtain ⟨dk, cfile, nt, mname, mdesc, via, ck, _, hd, hcf, hcp, hnt, -, -, hck, -, hnopoly, -⟩ := hl.here
  cases hk'.symm.trans hck
  have alike := hE.warmed.alike
  obtain ⟨dk₂, hdk₂, hed₂⟩ := alike.2.2 _ _ hd
  obtain ⟨k₂, hk₂, he₂⟩ := alike.2.2 _ _ hk'
  have hnone : (k'.methods.any fun y => y.name == mname && !y.isStatic && signaturePolymorphic k' y) = false := by simp [hnopoly]
  have hnone₂ : (k₂.methods.any fun y => y.name == mname && !y.isStatic && signaturePolymorphic k₂ y) = false := by rw [he₂]; exact hnone
  refine ⟨T.vm.called m.cls ci index m', hE.warmed, fun target hrest => ?_⟩
  subst hg
  jvm_step A [hexec, hdg, invokestatic.wp_cold (e := e) (s := T) (s₀ := s) (f := g) A.top hpv hW hE hd hcf hcp hnt hk' hnone,
    invokestatic.wp_ready (e := e) (s := T.setVm (T.vm.called g.method.cls ci index m')) (k := k₂) (meth := meth') (m := m') (args := argsL) (rest := rest) (f := g)
      A.top ⟨ci, mname, mdesc, via, m'.cls, k₂, memberRef_ask_via (e := e) hdk₂ (by rw [hed₂]; exact hcf) hcp hnt, hE.classReady, hk₂, hnone₂⟩ hE.ready hk₂
      (by show (T.vm.called g.method.cls ci index m').method? m' = some meth'; rw [alike.method?]; exact hm') (by rw [he₂]; exact hnopoly meth') hstatic (by rw [he₂]; exact hinit) hlen hstack]
  exact fun acts => hrest _
theorem rGetS (hadm : l.admits e) (hexec : p.tables.exec = Jvm.exec) (A : At T m c below) (hW : s.WarmedH T.vm) {own ref name desc : String} {index : Nat} (hown : s.vm.findClass own = some m.cls) (hlink : (Cond.fieldLink own index ref name desc).before args s = true)
    {cf i : Nat} {k : Class} {f : Field} (hi : s.fieldFound? ref name desc = some (cf, k, i, f)) (hst : f.isStatic = true) (hinit : k.init = .initialized)
    {a₁ : Addr} {cell₁ : Cell} {v : Value} (hstatics : k.statics = some a₁) (hcell : T.heap[a₁]? = some cell₁) (hknown : cell₁.vm ≠ .unknown) (hslot : cell₁.slots[f.slot]? = some v)
    {g : JFrame} (hg : g.method = m) (hdg : decode c.code g.pc = .ok (.getstatic index, 3)) :
    ∃ vm', s.WarmedH vm' ∧ ∀ target, Steps p.tables e below ((T.setVm vm').setTop { g with pc := g.pc + 3, stack := v :: g.stack }) target → Steps p.tables e below (T.setTop g) target := by
  have hpl : e.platform.magicAccessors = ({} : Platform).magicAccessors := by rw [hadm.platform]
  obtain ⟨ci', cfl, k', i', f', hi', hlinks, hright⟩ := Cond.fieldLink_spec hown hlink e.platform hpl
  cases hi.symm.trans hi'
  obtain ⟨hk, hf⟩ := State.fieldFound?_spec hi
  obtain ⟨vm', hgives, hW', hready, hfi⟩ := State.fieldEntry (e := e) hW hlinks hright hk hf
  obtain ⟨kc, hkc, hekc⟩ := hW'.alike.2.2 _ _ hk
  refine ⟨vm', hW', fun target hrest => ?_⟩
  subst hg
  jvm_step A [hexec, hdg, getstatic.wp_cold (e := e) (s := T) (f := g) A.top hgives hready hfi,
    getstatic.wp_ready (e := e) (s := T.setVm vm') (f := g) A.top hready hst hkc (by rw [hekc]; exact hinit) (by rw [hekc]; exact hstatics) (show (T.setVm vm').heap[a₁]? = some cell₁ from hcell) hknown hslot]
  exact hrest
theorem rLdcJ (hexec : p.tables.exec = Jvm.exec) (A : At T m c below) (hW : s.WarmedH T.vm) {own : String} {index : Nat} {v : Int64} (hown : s.vm.findClass own = some m.cls) (hconst : (Cond.constantLong own index v).before args s = true) {g : JFrame} (hg : g.method = m) (hdg : decode c.code g.pc = .ok (.ldc2_w index, 3)) :
    ∀ target, Steps p.tables e below (T.setTop { g with pc := g.pc + 3, stack := .long v :: g.stack }) target → Steps p.tables e below (T.setTop g) target := by
  obtain ⟨k, cf, bytes, hk, hcf, hcp, hb⟩ := Cond.constantLong_spec hown hconst
  obtain ⟨k', hk', he⟩ := hW.alike.2.2 _ _ hk
  intro target hrest
  subst hg
  jvm_step A [hexec, hdg, ldc2_w.wp_long (s := T) (f := g) A.top hk' (by rw [he]; exact hcf) hcp, hb]
  exact hrest
theorem rLdcD (hexec : p.tables.exec = Jvm.exec) (A : At T m c below) (hW : s.WarmedH T.vm) {own : String} {index : Nat} {b : UInt64} (hown : s.vm.findClass own = some m.cls) (hconst : (Cond.constantDouble own index b).before args s = true) {g : JFrame} (hg : g.method = m) (hdg : decode c.code g.pc = .ok (.ldc2_w index, 3)) :
    ∀ target, Steps p.tables e below (T.setTop { g with pc := g.pc + 3, stack := .double b :: g.stack }) target → Steps p.tables e below (T.setTop g) target := by
  obtain ⟨k, cf, hk, hcf, hcp⟩ := Cond.constantDouble_spec hown hconst
  obtain ⟨k', hk', he⟩ := hW.alike.2.2 _ _ hk
  intro target hrest
  subst hg
  jvm_step A [hexec, hdg, ldc2_w.wp_double (s := T) (f := g) A.top hk' (by rw [he]; exact hcf) hcp]
  exact hrest
end T
/-- T is T0 but for its tables and its frames; under the frame on top lie the frames F -/
def Rb (s T0 T : State) (F : List Frame) : Prop := s.WarmedH T.vm ∧ T.frames.tail = F ∧ ∀ G, T.setFrames G = (T0.setVm T.vm).setFrames G
def GoR (Ef : State → Prop) (p : Program) (e : Env) (below : List Frame) (s T0 : State) (F : List Frame) (m : MethodId) (c : Code) (g : JFrame) : Prop :=
  ∀ T, At T m c below → Rb s T0 T F → ∃ t, Ef t ∧ Steps p.tables e below (T.setTop g) t
theorem Rb.setVm {s T0 T : State} {F : List Frame} (B : Rb s T0 T F) {vm : Vm} (w : s.WarmedH vm) : Rb s T0 (T.setVm vm) F :=
  ⟨w, B.2.1, fun G => congrArg (fun U => U.setVm vm) (B.2.2 G)⟩
theorem Rb.heap {s T0 T : State} {F : List Frame} (B : Rb s T0 T F) : T.heap = T0.heap := by
  show (T.setFrames []).heap = ((T0.setVm T.vm).setFrames []).heap
  rw [B.2.2 []]
theorem Rb.lim {s T0 T : State} {F : List Frame} (B : Rb s T0 T F) (pl : Platform) : pl.stackLimits T.me = pl.stackLimits T0.me := by
  rw [← State.stackLimits_setFrames pl T [], B.2.2 [], State.stackLimits_setFrames]; rfl
section G
variable {Ef : State → Prop} {p : Program} {l : Launch} {e : Env} {s T0 : State} {F below : List Frame} {m : MethodId} {c : Code} {g g' : JFrame}
theorem one (st : ∀ T, At T m c below → s.WarmedH T.vm → ∀ t, Steps p.tables e below (T.setTop g') t → Steps p.tables e below (T.setTop g) t) (q : GoR Ef p e below s T0 F m c g') : GoR Ef p e below s T0 F m c g := fun T A B => by
  obtain ⟨t, w, k⟩ := q T A B
  exact ⟨t, w, st T A B.1 _ k⟩
theorem oneV (st : ∀ T, At T m c below → s.WarmedH T.vm → T.heap = T0.heap → ∃ vm1, s.WarmedH vm1 ∧ ∀ t, Steps p.tables e below ((T.setVm vm1).setTop g') t → Steps p.tables e below (T.setTop g) t) (q : GoR Ef p e below s T0 F m c g') : GoR Ef p e below s T0 F m c g := fun T A B => by
  obtain ⟨vm1, w1, k1⟩ := st T A B.1 B.heap
  obtain ⟨t, w, k⟩ := q (T.setVm vm1) (A.setVm (B.1.alike.symm.trans w1.alike)) (B.setVm w1)
  exact ⟨t, w, k1 _ k⟩
/-- what holds of a method that is walked so -/
def Kr (own : String) (bytes : ByteArray) (ml : Nat) (ret : Option FieldType) (s : State) (m : MethodId) (meth : Method) (c : Code) : Prop :=
  s.vm.findClass own = some m.cls ∧ c.code = bytes ∧ c.maxLocals = ml ∧ meth.sig.returnType = ret ∧ meth.locks = false ∧ s.vm.method? m = some meth ∧ meth.code = some c ∧ ∀ U : State, s.WarmedH U.vm → U.plainMethod m
theorem Kr.of {args : Array Value} {y : MethodName} {bytes : ByteArray} {ml : Nat} {ret : Option FieldType} (wc : (Cond.code y bytes ml ret).before args s = true) (hp : plainFor y = true) : ∃ m meth c, s.methodNamed? y = some m ∧ Kr y.cls bytes ml ret s m meth c := by
  obtain ⟨m, hn⟩ := Cond.code_named wc
  obtain ⟨meth, c, h1, h2, h3, h4, h5, h6, h7, h8⟩ := Cond.code_spec hn wc
  refine ⟨m, meth, c, hn, findClass_of_methodNamed hn, h3, h4, h5, h6, h1, h2, fun U hU => ?_⟩
  have hU2 : U.methodNamed? y = some m := by
    have := State.methodNamed?_setVm (s := s) hU.alike (x := y)
    rw [hn] at this
    exact this
  exact State.plainMethod.of_named hp hU2 (by rw [hU.alike.method?]; exact h1)
end G
end Jvm.OwnRaw
namespace Jvm.OwnRaw
open Sem ClassFile Op Lib Jvm.Stand
abbrev fR (m : MethodId) (pc : Nat) (Ls : Array Slot) (S : List Value) : JFrame := { method := m, pc := pc, locals := Ls, stack := S, locked := none }
section C
variable {Ef : State → Prop} {p : Program} {l : Launch} {e : Env} {s T0 : State} {F below : List Frame} {m : MethodId} {meth : Method} {c : Code} {own : String} {bytes : ByteArray} {ml : Nat} {ret : Option FieldType} {pc pc' : Nat} {Ls : Array Slot} {S : List Value} {args : Array Value}
theorem wt (F : List Frame) (m : MethodId) (pc : Nat) (Ls : Array Slot) (S : List Value) : stackWeight (.java (fR m pc Ls S) :: F) = 11 + Ls.size + (S.map fun v => v.category).sum + stackWeight F := by
  simp [stackWeight, Frame.weight, JFrame.monitorRoom]
/-- room for one more frame over the frame at hand -/
theorem room {T : State} (A : At T m c below) (B : Rb s T0 T F) {vars : Nat} (h1 : F.length + 2 ≤ (e.platform.stackLimits T0.me).1) (h2 : 11 + Ls.size + (S.map fun v => v.category).sum + stackWeight F + vars + 11 ≤ (e.platform.stackLimits T0.me).2) :
    e.platform.stackFull (((T.setTop (fR m pc Ls S)).threads[(T.setTop (fR m pc Ls S)).cur]?).getD { frames := [] }) (T.setTop (fR m pc Ls S)).frames vars = false := by
  have hF : (T.setTop (fR m pc Ls S)).frames = .java (fR m pc Ls S) :: F := by rw [State.frames_setTop' _ A.top, B.2.1]
  refine stackFull_of hF ?_ ?_
  · rw [State.stackLimits_setTop _ A.top, B.lim, List.length_cons]; omega
  · rw [State.stackLimits_setTop _ A.top, B.lim, wt]; omega
theorem rCall (hadm : l.admits e) (hexec : p.tables.exec = Jvm.exec) (K : Kr own bytes ml ret s m meth c) {i : Nat} {y : MethodName} {by' : ByteArray} {ml' : Nat} {ret' : Option FieldType} {argsL : List Value} {Ls' : Array Slot} (w1 : (Cond.methodLink own i y).before args s = true) (w2 : (Cond.static y).before args s = true) (wz : (Cond.initialized y.cls).before args s = true) (wc : (Cond.code y by' ml' ret').before args s = true) (hpl : plainFor y = true) (hy : y.cls ≠ "java/lang/invoke/MethodHandle" ∧ y.cls ≠ "java/lang/invoke/VarHandle")
    (hlen : ∀ sig, parseMethodDescriptor y.desc = some sig → argsL.length = sig.parameters.length) (hef : ∀ m', entryFrame m' argsL.toArray ml' = fR m' 0 Ls' []) (hd : decode bytes pc = .ok (.invokestatic i, 3)) (hF : F.length + 2 ≤ (e.platform.stackLimits T0.me).1) (hW : 11 + Ls.size + (S.map fun v => v.category).sum + stackWeight F + ml' + 11 ≤ (e.platform.stackLimits T0.me).2) {st : List Value} (hst : st = argsL.reverse ++ S)
    (q : ∀ m' meth' c', Kr y.cls by' ml' ret' s m' meth' c' → GoR Ef p e below s T0 (.java (fR m pc Ls S) :: F) m' c' (fR m' 0 Ls' [])) : GoR Ef p e below s T0 F m c (fR m pc Ls st) := by
  subst hst
  intro T A B
  obtain ⟨m', meth', c', hn, K'⟩ := Kr.of wc hpl
  obtain ⟨-, kb, kl, -, kk, km, kc, kp⟩ := id K'
  obtain ⟨k', hk', -⟩ := className_of_methodNamed hn
  have hinit : k'.init = .initialized := Cond.initialized_spec (findClass_of_methodNamed hn) hk' wz
  obtain ⟨methS, cS, hmS, -, -, -, -, -, -, hsig⟩ := Cond.code_spec hn wc
  cases km.symm.trans hmS
  obtain ⟨vm1, w, st⟩ := rStatic (g := fR m pc Ls (argsL.reverse ++ S)) hadm hexec A B.1 K.1 w1 hn km (Cond.static_spec hn km w2) hk' hinit hy rfl (hlen _ hsig) rfl (by rw [K.2.1]; exact hd)
  have A1 : At (T.setVm vm1) m c below := A.setVm (B.1.alike.symm.trans w.alike)
  have B1 : Rb s T0 (T.setVm vm1) F := B.setVm w
  have hm1 : (T.setVm vm1).vm.method? m' = some meth' := by show vm1.method? m' = _; rw [w.alike.method?]; exact km
  have A2 := At.enter (g := fR m pc Ls S) A1 argsL.toArray hm1 kc (kp (T.setVm vm1) w)
  have hcur : (T.setVm vm1).cur < (T.setVm vm1).threads.size := State.cur_lt_of_top A1.top
  have hfr := frames_entered (s := T.setVm vm1) (g := fR m pc Ls S) A1.top (.java (entryFrame m' argsL.toArray c'.maxLocals))
  obtain ⟨t, h1, h2⟩ := q m' meth' c' K' _ A2 ⟨w, by rw [hfr, List.tail_cons, B1.2.1], fun G => by
    obtain ⟨g₀, hg⟩ := Option.isSome_iff_exists.mp A1.top
    obtain ⟨r, hr⟩ := State.topJava?_eq_some.mp hg
    rw [State.pushFrame, State.setFrames_setFrames, State.setTop_of_frames _ hr, State.setFrames_setFrames, B1.2.2]; rfl⟩
  refine ⟨t, h1, st _ fun acts => ?_⟩
  rw [doInvoke_enter (g := fR m pc Ls S) A1.top acts hm1 kc kk (room A1 B1 hF (by rw [kl]; omega)), kl, hef]
  rw [kl, hef] at h2
  exact h2
/-- the return into a caller that is walked so -/
theorem rRet (hexec : p.tables.exec = Jvm.exec) {own' : String} {by' : ByteArray} {ml' : Nat} {t : FieldType} {m' : MethodId} {meth' : Method} {c' : Code} {w : Value} {Ls' : Array Slot} {S' : List Value} {ig : Instr} (K' : Kr own' by' ml' (some t) s m' meth' c') (K : Kr own bytes ml ret s m meth c)
    (hi : (decode by' pc' = .ok (.ireturn, 1) ∧ t = .int ∧ ∃ z, w = .int z) ∨ (decode by' pc' = .ok (.dreturn, 1) ∧ t = .double ∧ ∃ z, w = .double z)) (hd : decode bytes pc = .ok (ig, 3)) (hb : ∃ mid, F = mid ++ below)
    (q : GoR Ef p e below s T0 F m c (fR m (pc + 3) Ls (w :: S))) : GoR Ef p e below s T0 (.java (fR m pc Ls S) :: F) m' c' (fR m' pc' Ls' (w :: S')) := by
  intro T A B
  obtain ⟨g₀, hg⟩ := Option.isSome_iff_exists.mp A.top
  obtain ⟨r, hr⟩ := State.topJava?_eq_some.mp hg
  have hF : T.frames = .java g₀ :: .java (fR m pc Ls S) :: F := by rw [hr]; have := B.2.1; rw [hr] at this; simp at this; rw [this]
  have hm : T.vm.method? m' = some meth' := by rw [B.1.alike.method?]; exact K'.2.2.2.2.2.1
  have hcg : T.code? m = some c := by rw [State.code?_eq, B.1.alike.method?, K.2.2.2.2.2.1]; exact K.2.2.2.2.2.2.1
  have hcur := State.cur_lt_of_frames hF
  obtain ⟨t2, h1, h2⟩ := q (T.setFrames (.java (fR m pc Ls S) :: F)) (At.leave A hF hb hcg (K.2.2.2.2.2.2.2 T B.1)) ⟨B.1, by rw [State.frames_setFrames _ hcur]; rfl, fun G => by rw [State.setFrames_setFrames]; exact B.2.2 G⟩
  refine ⟨t2, h1, ?_⟩
  have hret : ∀ acts, (doReturn e (T.setTop (fR m' pc' Ls' S')) acts (some w)).1 = (T.setFrames (.java (fR m pc Ls S) :: F)).setTop (fR m (pc + 3) Ls (w :: S)) := fun acts =>
    doReturn_leave (f := fR m' pc' Ls' S') (g := fR m pc Ls S) (v := some w) acts hF hm K'.2.2.2.2.1 rfl rfl hcg (by rw [K.2.1]; exact hd)
  have hrt := K'.2.2.2.1
  rcases hi with ⟨hd', rfl, z, rfl⟩ | ⟨hd', rfl, z, rfl⟩
  · jvm_step A [A.top, hexec, K'.2.1, hd', hm, hrt, narrow]
    intro acts; rw [hret acts]; exact h2
  · jvm_step A [A.top, hexec, K'.2.1, hd', hm, hrt, narrow]
    intro acts; rw [hret acts]; exact h2
end C
end Jvm.OwnRaw
namespace Jvm.OwnRaw
open Sem ClassFile Op Lib Jvm.Stand
section N
variable {Ef : State → Prop} {p : Program} {l : Launch} {e : Env} {s T0 : State} {F below : List Frame} {m : MethodId} {meth : Method} {c : Code} {own : String} {bytes : ByteArray} {ml : Nat} {ret : Option FieldType} {pc pc' : Nat} {Ls : Array Slot} {S : List Value} {args : Array Value}
theorem rBits (hadm : l.admits e) (hexec : p.tables.exec = Jvm.exec) (K : Kr own bytes ml ret s m meth c) {i : Nat} {b : UInt64} (w1 : (Cond.methodLink own i ⟨"java/lang/Double", "doubleToRawLongBits", "(D)J"⟩).before args s = true) (w2 : (Cond.native ⟨"java/lang/Double", "doubleToRawLongBits", "(D)J"⟩).before args s = true) (w3 : (Cond.static ⟨"java/lang/Double", "doubleToRawLongBits", "(D)J"⟩).before args s = true) (w4 : (Cond.initialized "java/lang/Double").before args s = true) (hd : decode bytes pc = .ok (.invokestatic i, 3)) (hF : F.length + 2 ≤ (e.platform.stackLimits T0.me).1) (hW : 11 + Ls.size + (S.map fun v => v.category).sum + stackWeight F + 4 + 11 ≤ (e.platform.stackLimits T0.me).2)
    (q : GoR Ef p e below s T0 F m c (fR m (pc + 3) Ls (.long b.toInt64 :: S))) : GoR Ef p e below s T0 F m c (fR m pc Ls (.double b :: S)) := by
  intro T A B
  obtain ⟨r, kS, methS, hnS, hmS, hkS, N⟩ := NativeOf.of_static w2 w3 (ps := [.double]) (ret := some .long) (by decide +kernel)
  have hinitS : kS.init = .initialized := Cond.initialized_spec (findClass_of_methodNamed hnS) hkS w4
  obtain ⟨vm1, w, st⟩ := rStatic (g := fR m pc Ls (.double b :: S)) hadm hexec A B.1 K.1 w1 hnS hmS N.static hkS hinitS (by decide) rfl (argsL := [.double b]) (rest := S) (by rw [N.sig]; rfl) rfl (by rw [K.2.1]; exact hd)
  have A1 : At (T.setVm vm1) m c below := A.setVm (B.1.alike.symm.trans w.alike)
  have B1 : Rb s T0 (T.setVm vm1) F := B.setVm w
  obtain ⟨kS', N'⟩ := N.alike w.alike
  obtain ⟨t, h1, h2⟩ := q _ A1 B1
  exact ⟨t, h1, st _ fun acts => Steps.doubleToRawLongBitsOf (g := fR m pc Ls S) (ig := .invokestatic i) (len := 3) p A1 acts N' b (room A1 B1 hF (by show _ + 4 + 11 ≤ _; exact hW)) (by rw [K.2.1]; exact hd) h2⟩
theorem rDbl (hadm : l.admits e) (hexec : p.tables.exec = Jvm.exec) (K : Kr own bytes ml ret s m meth c) {i : Nat} {b : Int64} (hv : (b.toUInt64 &&& 0x7fffffffffffffff > 0x7ff0000000000000 && b.toUInt64 &&& 0x0008000000000000 == 0) = false) (w1 : (Cond.methodLink own i ⟨"java/lang/Double", "longBitsToDouble", "(J)D"⟩).before args s = true) (w2 : (Cond.native ⟨"java/lang/Double", "longBitsToDouble", "(J)D"⟩).before args s = true) (w3 : (Cond.static ⟨"java/lang/Double", "longBitsToDouble", "(J)D"⟩).before args s = true) (w4 : (Cond.initialized "java/lang/Double").before args s = true) (hd : decode bytes pc = .ok (.invokestatic i, 3)) (hF : F.length + 2 ≤ (e.platform.stackLimits T0.me).1) (hW : 11 + Ls.size + (S.map fun v => v.category).sum + stackWeight F + 4 + 11 ≤ (e.platform.stackLimits T0.me).2)
    (q : GoR Ef p e below s T0 F m c (fR m (pc + 3) Ls (.double b.toUInt64 :: S))) : GoR Ef p e below s T0 F m c (fR m pc Ls (.long b :: S)) := by
  intro T A B
  obtain ⟨r, kS, methS, hnS, hmS, hkS, N⟩ := NativeOf.of_static w2 w3 (ps := [.long]) (ret := some .double) (by decide +kernel)
  have hinitS : kS.init = .initialized := Cond.initialized_spec (findClass_of_methodNamed hnS) hkS w4
  obtain ⟨vm1, w, st⟩ := rStatic (g := fR m pc Ls (.long b :: S)) hadm hexec A B.1 K.1 w1 hnS hmS N.static hkS hinitS (by decide) rfl (argsL := [.long b]) (rest := S) (by rw [N.sig]; rfl) rfl (by rw [K.2.1]; exact hd)
  have A1 : At (T.setVm vm1) m c below := A.setVm (B.1.alike.symm.trans w.alike)
  have B1 : Rb s T0 (T.setVm vm1) F := B.setVm w
  obtain ⟨kS', N'⟩ := N.alike w.alike
  obtain ⟨t, h1, h2⟩ := q _ A1 B1
  exact ⟨t, h1, st _ fun acts => Steps.longBitsToDoubleOf (g := fR m pc Ls S) (ig := .invokestatic i) (len := 3) p A1 acts N' b (room A1 B1 hF (by show _ + 4 + 11 ≤ _; exact hW)) hv (by rw [K.2.1]; exact hd) h2⟩
def StaR (s : State) (h : Heap) (ref name desc : String) (v : Value) : Prop := ∃ (cf i : Nat) (k : Class) (f : Field) (a : Addr) (cell : Cell), s.fieldFound? ref name desc = some (cf, k, i, f) ∧ f.isStatic = true ∧ k.init = .initialized ∧ k.statics = some a ∧ h[a]? = some cell ∧ cell.vm ≠ .unknown ∧ cell.slots[f.slot]? = some v
theorem rGets (hadm : l.admits e) (hexec : p.tables.exec = Jvm.exec) (K : Kr own bytes ml ret s m meth c) {i : Nat} {ref name desc : String} {v : Value} (w1 : (Cond.fieldLink own i ref name desc).before args s = true) (V : StaR s T0.heap ref name desc v) (hd : decode bytes pc = .ok (.getstatic i, 3)) (q : GoR Ef p e below s T0 F m c (fR m (pc + 3) Ls (v :: S))) : GoR Ef p e below s T0 F m c (fR m pc Ls S) := by
  obtain ⟨cf, j, k, f, a, cell, h1, h2, h3, h4, h5, h6, h7⟩ := V
  exact oneV (fun T A hW hh => rGetS (g := fR m pc Ls S) hadm hexec A hW K.1 w1 h1 h2 h3 h4 (by rw [hh]; exact h5) h6 h7 rfl (by rw [K.2.1]; exact hd)) q
/-- the end under a native's frame: the native has its answer -/
def FinN (s T0 : State) (N : NFrame) (F0 : List Frame) (v : Value) (t : State) : Prop := ∃ vm', s.WarmedH vm' ∧ t = (T0.setVm vm').setFrames (.native { N with awaiting := false, answer := some (.returned (some v)) } :: F0)
theorem rRetN (hexec : p.tables.exec = Jvm.exec) {N : NFrame} {F0 : List Frame} {z : UInt64} (K : Kr own bytes ml (some .double) s m meth c) (hd : decode bytes pc = .ok (.dreturn, 1)) : GoR (FinN s T0 N F0 (.double z)) p e below s T0 (.native N :: F0) m c (fR m pc Ls (.double z :: S)) := by
  intro T A B
  obtain ⟨g₀, hg⟩ := Option.isSome_iff_exists.mp A.top
  obtain ⟨r, hr⟩ := State.topJava?_eq_some.mp hg
  have hF : T.frames = .java g₀ :: .native N :: F0 := by rw [hr]; have := B.2.1; rw [hr] at this; simp at this; rw [this]
  have hm : T.vm.method? m = some meth := by rw [B.1.alike.method?]; exact K.2.2.2.2.2.1
  refine ⟨_, ⟨T.vm, B.1, rfl⟩, ?_⟩
  have hret : ∀ acts, (doReturn e (T.setTop (fR m pc Ls S)) acts (some (.double z))).1 = (T0.setVm T.vm).setFrames (.native { N with awaiting := false, answer := some (.returned (some (.double z))) } :: F0) := fun acts => by
    rw [(doReturn_plain (f := fR m pc Ls S) (meth := meth) (fs := .native { N with awaiting := false, answer := some (.returned (some (.double z))) } :: F0) (State.frames_setTop _ hF) (by simpa using hm) K.2.2.2.2.1 rfl rfl rfl).1, State.setTop_of_frames _ hF, State.setFrames_setFrames, B.2.2]
  have hrt := K.2.2.2.1
  jvm_step A [A.top, hexec, K.2.1, hd, hm, hrt, narrow]
  intro acts; rw [hret acts]; exact Steps.refl _
end N
/-- Math.ceil in a walk, by the walk of StrictMath.ceil under the native's frame -/
theorem ceilRaw (p : Program) {l : Launch} {e : Env} (hadm : l.admits e) (hexec : p.tables.exec = Jvm.exec) {below : List Frame} {s T : State} {g : JFrame} {c : Code} (A : At T g.method c below) (hWT : s.WarmedH T.vm) {args : Array Value} {bM bS : ByteArray} {b z : UInt64}
    (wM : (Cond.code ⟨"java/lang/Math", "ceil", "(D)D"⟩ bM 2 (some .double)).before args s = true) (wS : (Cond.code ⟨"java/lang/StrictMath", "ceil", "(D)D"⟩ bS 2 (some .double)).before args s = true) (wI : (Cond.initialized "java/lang/StrictMath").before args s = true)
    {m : MethodId} (hn : T.methodNamed? ⟨"java/lang/Math", "ceil", "(D)D"⟩ = some m)
    (hF : T.frames.tail.length + 3 ≤ (e.platform.stackLimits T.me).1) (hW : stackWeight (.java g :: T.frames.tail) + 1024 + 13 ≤ (e.platform.stackLimits T.me).2)
    (hgo : ∀ (N : NFrame), N.words = 0 → ∀ mS methS cS, Kr "java/lang/StrictMath" bS 2 (some .double) s mS methS cS → GoR (FinN s T N (.java g :: T.frames.tail) (.double z)) p e below s T (.native N :: .java g :: T.frames.tail) mS cS (fR mS 0 #[.val (.double b), .second] []))
    (hz : z &&& 0x7fffffffffffffff ≤ 0x7ff0000000000000) {ig : Instr} {len : Nat} (hdg : decode c.code g.pc = .ok (ig, len)) :
    ∃ vm', s.WarmedH vm' ∧ ∀ acts, Steps p.tables e below (doInvoke e (T.setTop g) acts m #[.double b]).1 ((T.setVm vm').setTop { g with pc := g.pc + len, stack := .double z :: g.stack }) := by
  obtain ⟨g₀, hg⟩ := Option.isSome_iff_exists.mp A.top
  obtain ⟨r, hr⟩ := State.topJava?_eq_some.mp hg
  obtain ⟨mid, hmid⟩ := A.above
  have htail : T.frames.tail = r := by rw [hr]; rfl
  rw [htail] at hF hW hgo hmid
  have hcur : T.cur < T.threads.size := State.cur_lt_of_frames hr
  -- the methods
  obtain ⟨mM, hnM⟩ := Cond.code_named wM
  have hnM' : T.methodNamed? ⟨"java/lang/Math", "ceil", "(D)D"⟩ = some mM := by
    have := State.methodNamed?_setVm (s := s) hWT.alike (x := ⟨"java/lang/Math", "ceil", "(D)D"⟩)
    rw [hnM] at this; exact this
  cases hn.symm.trans hnM'
  obtain ⟨methM, cM, hmM, hcM, -, hlM, -, hkM, -, hsM⟩ := Cond.code_spec hnM wM
  have hmT : T.vm.method? m = some methM := by rw [hWT.alike.method?]; exact hmM
  obtain ⟨kP, hkP, hkname⟩ := className_of_methodNamed hn
  obtain ⟨hmn, hmd⟩ := name_of_methodNamed hn hmT
  have hxP : kP.methods[m.idx]? = some methM := by simpa [Vm.method?, hkP] using hmT
  have hboot : kP.loader = none := Vm.bootOf_findClass (findClass_of_methodNamed hn) hkP
  obtain ⟨mS, methS, cS, hnS, KS⟩ := Kr.of wS (by decide +kernel)
  obtain ⟨kS0, hkS0, -⟩ := className_of_methodNamed hnS
  have hiS0 : kS0.init = .initialized := Cond.initialized_spec (findClass_of_methodNamed hnS) hkS0 wI
  obtain ⟨kS, hkS, ekS⟩ := hWT.alike.2.2 _ _ hkS0
  have hfS : T.vm.findClass "java/lang/StrictMath" = some mS.cls := by rw [hWT.alike.findClass]; exact findClass_of_methodNamed hnS
  have hiS : kS.init = .initialized := by rw [ekS]; exact hiS0
  have hmS0 : kS0.findMethod "ceil" "(D)D" = some mS.idx := by
    have h := hnS
    simp only [State.methodNamed?, Option.bind_eq_bind, Option.pure_def] at h
    rw [findClass_of_methodNamed hnS] at h
    simp only [Option.bind_some, hkS0] at h
    cases hfm : kS0.findMethod "ceil" "(D)D" with
    | none => rw [hfm] at h; cases h
    | some j => rw [hfm] at h; simp at h; rw [← h]
  have hmS : kS.findMethod "ceil" "(D)D" = some mS.idx := by rw [ekS]; exact hmS0
  -- into Math.ceil's frame
  have htop : T.setTop g = T.setFrames (.java g :: r) := State.setTop_of_frames _ hr
  have hfr0 : (T.setTop g).frames = .java g :: r := State.frames_setTop _ hr
  have hlim : ∀ G, e.platform.stackLimits (T.setFrames G).me = e.platform.stackLimits T.me := fun G => State.stackLimits_setFrames _ _ _
  have hfull : e.platform.stackFull (((T.setTop g).threads[(T.setTop g).cur]?).getD { frames := [] }) (T.setTop g).frames cM.maxLocals = false :=
    stackFull_of hfr0 (by rw [htop, hlim, List.length_cons]; omega) (by rw [htop, hlim, hlM]; omega)
  have hU : (T.setTop g).pushFrame (.java { method := m, pc := 0, locals := argsToLocals #[.double b] 2, stack := [], locked := none }) = T.setFrames (.java (entryFrame m #[.double b] 2) :: .java g :: r) := by
    rw [State.pushFrame, hfr0, htop, State.setFrames_setFrames]; rfl
  have hin : ∀ acts, (doInvoke e (T.setTop g) acts m #[.double b]).1 = T.setFrames (.java (entryFrame m #[.double b] 2) :: .java g :: r) := fun acts => by
    rw [(doInvoke_java (s := T.setTop g) (e := e) (acts := acts) (args := #[.double b]) (meth := methM) (code := cM) (by simpa using hmT) hcM hkM hfull).1, hlM, hU]
  have hf1 : (T.setFrames (.java (entryFrame m #[.double b] 2) :: .java g :: r)).frames = .java (entryFrame m #[.double b] 2) :: .java g :: r := State.frames_setFrames _ hcur
  have hov : overridden p.tables e (T.setFrames (.java (entryFrame m #[.double b] 2) :: .java g :: r)) (entryFrame m #[.double b] 2) = some Jvm.Free.Hsc.ceilRow :=
    Jvm.Free.Fl.Abs.overridden_some (k := kP) (x := methM) rfl hkP (by rw [hkname]; decide) hboot hxP (by rw [hkname, hmn, hmd]; exact Jvm.Free.Hsc.ceil_row p)
  have hb3 : (T.vm.classes[m.cls]?.bind fun x => x.methods[m.idx]?) = some methM := by simp [hkP, hxP]
  have hb2 : ∀ G : List Frame, ((T.setFrames G).vm.classes[m.cls]?.bind fun y => y.methods[m.idx]?) = some methM := fun _ => hb3
  have hsig2 : parseMethodDescriptor "(D)D" = some { parameters := [.double], returnType := some .double } := by decide +kernel
  have hparams : methM.sig.parameters.length = 1 := by
    have h3 := hsM
    rw [show (⟨"java/lang/Math", "ceil", "(D)D"⟩ : MethodName).desc = "(D)D" from rfl, hsig2] at h3
    rw [← Option.some.inj h3]; rfl
  have htake : ∀ n : Nat, List.take (1 + n) [Value.double b] = [Value.double b] := fun n => List.take_of_length_le (Nat.le_add_right 1 n)
  obtain ⟨acts₂, hr2⟩ := Jvm.Free.Hsc.ceil_run b e (T.setFrames (.native { method := m, args := #[.double b] } :: .java g :: r)) (cS := mS.cls) (kS := kS) (i := mS.idx) hfS hkS hiS hmS
  have hw3 : ((T.vm.classes[m.cls]?).bind fun k => Option.map (fun n => upcallWords k.name n.name) k.methods[m.idx]?).getD 0 = 0 := by simp [hkP, hxP, hkname, hmn, upcallWords]
  have hwords : ∀ G : List Frame, (((T.setFrames G).vm.classes[m.cls]?).bind fun k => (k.methods[m.idx]?).map fun n => upcallWords k.name n.name).getD 0 = 0 := fun _ => hw3
  have hstep2 : (stepThread p.tables e (T.setFrames (.java (entryFrame m #[.double b] 2) :: .java g :: r))).1 = (doInvoke e (T.setFrames (.native { method := m, args := #[.double b], stage := 1, saved := #[], awaiting := true, answer := none, words := 0 } :: .java g :: r)) acts₂ ⟨mS.cls, mS.idx⟩ #[.double b]).1 := by
    unfold stepThread
    simp only [hf1, hov]
    simp [entryFrame, argsToLocals, Value.category, argCount, hb2, hb3, hparams, htake, hr2, afterNative, hwords, hw3, State.setFrames_setFrames]
  -- into StrictMath.ceil's
  generalize hN : ({ method := m, args := #[.double b], stage := 1, saved := #[], awaiting := true, answer := none, words := 0 } : NFrame) = N at hstep2
  have hN0 : N.words = 0 := by rw [← hN]
  have hfN : (T.setFrames (.native N :: .java g :: r)).frames = .native N :: .java g :: r := State.frames_setFrames _ hcur
  have hwN : stackWeight (.native N :: .java g :: r) = 1024 + stackWeight (.java g :: r) := by
    show max N.words vmFrameWords + _ = _
    rw [hN0]; rfl
  have hfullS : e.platform.stackFull (((T.setFrames (.native N :: .java g :: r)).threads[(T.setFrames (.native N :: .java g :: r)).cur]?).getD { frames := [] }) (T.setFrames (.native N :: .java g :: r)).frames cS.maxLocals = false :=
    stackFull_of hfN (by rw [hlim]; simp only [List.length_cons]; omega) (by rw [hlim, hwN, KS.2.2.1]; omega)
  have hmS' : (T.setFrames (.native N :: .java g :: r)).vm.method? mS = some methS := by show T.vm.method? mS = _; rw [hWT.alike.method?]; exact KS.2.2.2.2.2.1
  have hent : (doInvoke e (T.setFrames (.native N :: .java g :: r)) acts₂ ⟨mS.cls, mS.idx⟩ #[.double b]).1 = T.setFrames (.java (fR mS 0 #[.val (.double b), .second] []) :: .native N :: .java g :: r) := by
    rw [(doInvoke_java (s := T.setFrames (.native N :: .java g :: r)) (e := e) (acts := acts₂) (m := mS) (args := #[.double b]) (meth := methS) (code := cS) hmS' KS.2.2.2.2.2.2.1 KS.2.2.2.2.1 hfullS).1, KS.2.2.1, State.pushFrame, hfN, State.setFrames_setFrames]
    rfl
  have hfS1 : (T.setFrames (.java (fR mS 0 #[.val (.double b), .second] []) :: .native N :: .java g :: r)).frames = .java (fR mS 0 #[.val (.double b), .second] []) :: .native N :: .java g :: r := State.frames_setFrames _ hcur
  have AS : At (T.setFrames (.java (fR mS 0 #[.val (.double b), .second] []) :: .native N :: .java g :: r)) mS cS below :=
    ⟨by rw [State.topJava?_of_frames hfS1]; rfl, ⟨.native N :: .java g :: mid, by rw [hfS1, List.tail_cons, hmid]; rfl⟩, A.running, by simpa using A.runnable, by simpa using A.alone,
      by rw [State.code?_eq]; show (T.vm.method? mS).bind _ = _; rw [hWT.alike.method?, KS.2.2.2.2.2.1]; exact KS.2.2.2.2.2.2.1, KS.2.2.2.2.2.2.2 _ hWT⟩
  obtain ⟨t, ⟨vm', hw', rfl⟩, hst⟩ := hgo N hN0 mS methS cS KS _ AS ⟨hWT, by rw [hfS1]; rfl, fun G => by rw [State.setFrames_setFrames]; rfl⟩
  rw [State.setTop_of_frames _ hfS1, State.setFrames_setFrames] at hst
  -- and back
  have hcur' : (T.setVm vm').cur < (T.setVm vm').threads.size := hcur
  have hal : T.vm.Alike vm' := hWT.alike.symm.trans hw'.alike
  obtain ⟨k', hk', ek⟩ := hal.2.2 _ _ hkP
  generalize hs2 : (T.setVm vm').setFrames (.native { N with awaiting := false, answer := some (.returned (some (.double z))) } :: .java g :: r) = s₂ at hst
  have hend : s₂.frames = .native { N with awaiting := false, answer := some (.returned (some (.double z))) } :: .java g :: r := by rw [← hs2]; exact State.frames_setFrames _ hcur'
  have hvm2 : s₂.vm = vm' := by rw [← hs2]; rfl
  obtain ⟨acts₃, hr3⟩ := Jvm.Free.Hsc.ceil_resume hz e s₂
  have hcode2 : s₂.code? g.method = some c := by
    have h1 : s₂.code? g.method = T.code? g.method := by rw [State.code?_eq, State.code?_eq, hvm2, hal.method?]
    rw [h1]; exact A.code
  have hfs : handOver s₂ (some (.double z)) (.java g :: r) = some (.java { g with pc := g.pc + len, stack := .double z :: g.stack } :: r) := by
    simp [handOver, hcode2, hdg, Except.toOption]
  have hstep4 : (stepThread p.tables e s₂).1 = s₂.setFrames (.java { g with pc := g.pc + len, stack := .double z :: g.stack } :: r) := by
    rw [Jvm.Free.Hsc.stepThread_resumed' (f := { N with awaiting := false, answer := some (.returned (some (.double z))) }) (k := k') (x := methM) (row := Jvm.Free.Hsc.ceilRow) (o := .returned (some (.double z))) hend (by rw [← hN, hvm2]; exact hk') (by rw [ek]; exact hboot) (by rw [← hN, ek]; exact hxP) (by rw [ek, hkname, hmn, hmd]; exact Jvm.Free.Hsc.ceil_row p) rfl, ← hN]
    show (afterNative e _ _ ((Jvm.Free.Hsc.ceilRow.resume 1 #[] (.returned (some (.double z)))).run e s₂)).1 = _
    rw [hr3]
    rw [← hN] at hend
    exact doReturn_native hend rfl hfs
  refine ⟨vm', hw', fun acts => ?_⟩
  rw [hin]
  refine Steps.head ⟨A.running, by simpa using A.runnable, by simpa using A.alone⟩ ⟨.java (entryFrame m #[.double b] 2) :: .java g :: mid, by rw [hf1, hmid]; rfl, by simp, by simp⟩ ?_
  rw [hstep2, hent]
  refine hst.trans ?_
  have hrun2 : s₂.status = .running := by rw [← hs2]; exact A.running
  have hcs : s₂.curStatus? = some .runnable := by rw [← hs2]; simpa using A.runnable
  have hal2 : s₂.alone = true := by rw [← hs2]; simpa using A.alone
  refine Steps.head ⟨hrun2, hcs, hal2⟩ ⟨.native { N with awaiting := false, answer := some (.returned (some (.double z))) } :: .java g :: mid, by rw [hend, hmid]; rfl, by simp, by simp⟩ ?_
  rw [hstep4, ← hs2, State.setFrames_setFrames, ← State.setTop_of_frames (s := T.setVm vm') _ hr]
  exact Steps.refl _
end Jvm.OwnRaw
namespace Jvm.OwnRaw
open Sem ClassFile Op Lib Jvm.Stand Jvm.Free Jvm.LawKit Jvm.RoadKit
section I
variable {Ef : State → Prop} {p : Program} {e : Env} {s T0 : State} {F below : List Frame} {m : MethodId} {meth : Method} {c : Code} {own : String} {bytes : ByteArray} {ml : Nat} {ret : Option FieldType} {pc pc' : Nat} {Ls Ls' : Array Slot} {S : List Value} {a0 : Array Value}
theorem iloadN (hx : p.tables.exec = Jvm.exec) (K : Kr own bytes ml ret s m meth c) {k : Fin 4} {v : Int32} (hd : decode bytes pc = .ok (.iload_n k, 1)) (hl : Ls[k.val]? = some (.val (.int v))) (hp : pc + 1 = pc') (q : GoR Ef p e below s T0 F m c (fR m pc' Ls (.int v :: S))) : GoR Ef p e below s T0 F m c (fR m pc Ls S) := by
  subst hp; exact one (fun T X _ t => Jvm.Free.XS.iloadN X hx rfl (hb K.2.1 hd) hl) q
theorem iload (hx : p.tables.exec = Jvm.exec) (K : Kr own bytes ml ret s m meth c) {k : Nat} {v : Int32} (hd : decode bytes pc = .ok (.iload k, 2)) (hl : Ls[k]? = some (.val (.int v))) (hp : pc + 2 = pc') (q : GoR Ef p e below s T0 F m c (fR m pc' Ls (.int v :: S))) : GoR Ef p e below s T0 F m c (fR m pc Ls S) := by
  subst hp; exact one (fun T X _ t => Jvm.Free.XS.iload X hx rfl (hb K.2.1 hd) hl) q
theorem istoreN (hx : p.tables.exec = Jvm.exec) (K : Kr own bytes ml ret s m meth c) {k : Fin 4} {v : Int32} (hd : decode bytes pc = .ok (.istore_n k, 1)) (hl : storeLocals Ls k.val (.int v) = some Ls') (hp : pc + 1 = pc') (q : GoR Ef p e below s T0 F m c (fR m pc' Ls' S)) : GoR Ef p e below s T0 F m c (fR m pc Ls (.int v :: S)) := by
  subst hp; exact one (fun T X _ t => Jvm.Free.XS.istoreN X hx rfl (hb K.2.1 hd) rfl hl) q
theorem istore (hx : p.tables.exec = Jvm.exec) (K : Kr own bytes ml ret s m meth c) {k : Nat} {v : Int32} (hd : decode bytes pc = .ok (.istore k, 2)) (hl : storeLocals Ls k (.int v) = some Ls') (hp : pc + 2 = pc') (q : GoR Ef p e below s T0 F m c (fR m pc' Ls' S)) : GoR Ef p e below s T0 F m c (fR m pc Ls (.int v :: S)) := by
  subst hp; exact one (fun T X _ t => Jvm.Free.XS.istore X hx rfl (hb K.2.1 hd) rfl hl) q
theorem lloadN (hx : p.tables.exec = Jvm.exec) (K : Kr own bytes ml ret s m meth c) {k : Fin 4} {v : Int64} (hd : decode bytes pc = .ok (.lload_n k, 1)) (hl : Ls[k.val]? = some (.val (.long v))) (hp : pc + 1 = pc') (q : GoR Ef p e below s T0 F m c (fR m pc' Ls (.long v :: S))) : GoR Ef p e below s T0 F m c (fR m pc Ls S) := by
  subst hp; exact one (fun T X _ t => Jvm.Free.XT.lloadN X hx rfl (hb K.2.1 hd) hl) q
theorem lload (hx : p.tables.exec = Jvm.exec) (K : Kr own bytes ml ret s m meth c) {k : Nat} {v : Int64} (hd : decode bytes pc = .ok (.lload k, 2)) (hl : Ls[k]? = some (.val (.long v))) (hp : pc + 2 = pc') (q : GoR Ef p e below s T0 F m c (fR m pc' Ls (.long v :: S))) : GoR Ef p e below s T0 F m c (fR m pc Ls S) := by
  subst hp; exact one (fun T X _ t => Jvm.Free.XT.lload X hx rfl (hb K.2.1 hd) hl) q
theorem lstoreN (hx : p.tables.exec = Jvm.exec) (K : Kr own bytes ml ret s m meth c) {k : Fin 4} {v : Int64} (hd : decode bytes pc = .ok (.lstore_n k, 1)) (hl : storeLocals Ls k.val (.long v) = some Ls') (hp : pc + 1 = pc') (q : GoR Ef p e below s T0 F m c (fR m pc' Ls' S)) : GoR Ef p e below s T0 F m c (fR m pc Ls (.long v :: S)) := by
  subst hp; exact one (fun T X _ t => Jvm.Free.XT.lstoreN X hx rfl (hb K.2.1 hd) rfl hl) q
theorem lstore (hx : p.tables.exec = Jvm.exec) (K : Kr own bytes ml ret s m meth c) {k : Nat} {v : Int64} (hd : decode bytes pc = .ok (.lstore k, 2)) (hl : storeLocals Ls k (.long v) = some Ls') (hp : pc + 2 = pc') (q : GoR Ef p e below s T0 F m c (fR m pc' Ls' S)) : GoR Ef p e below s T0 F m c (fR m pc Ls (.long v :: S)) := by
  subst hp; exact one (fun T X _ t => Jvm.Free.XT.lstore X hx rfl (hb K.2.1 hd) rfl hl) q
theorem dloadN (hx : p.tables.exec = Jvm.exec) (K : Kr own bytes ml ret s m meth c) {k : Fin 4} {v : UInt64} (hd : decode bytes pc = .ok (.dload_n k, 1)) (hl : Ls[k.val]? = some (.val (.double v))) (hp : pc + 1 = pc') (q : GoR Ef p e below s T0 F m c (fR m pc' Ls (.double v :: S))) : GoR Ef p e below s T0 F m c (fR m pc Ls S) := by
  subst hp; exact one (fun T X _ t => Jvm.Free.XS.dloadN X hx rfl (hb K.2.1 hd) hl) q
theorem dload (hx : p.tables.exec = Jvm.exec) (K : Kr own bytes ml ret s m meth c) {k : Nat} {v : UInt64} (hd : decode bytes pc = .ok (.dload k, 2)) (hl : Ls[k]? = some (.val (.double v))) (hp : pc + 2 = pc') (q : GoR Ef p e below s T0 F m c (fR m pc' Ls (.double v :: S))) : GoR Ef p e below s T0 F m c (fR m pc Ls S) := by
  subst hp; exact one (fun T X _ t => Jvm.Free.XS.dload X hx rfl (hb K.2.1 hd) hl) q
theorem dstoreN (hx : p.tables.exec = Jvm.exec) (K : Kr own bytes ml ret s m meth c) {k : Fin 4} {v : UInt64} (hd : decode bytes pc = .ok (.dstore_n k, 1)) (hl : storeLocals Ls k.val (.double v) = some Ls') (hp : pc + 1 = pc') (q : GoR Ef p e below s T0 F m c (fR m pc' Ls' S)) : GoR Ef p e below s T0 F m c (fR m pc Ls (.double v :: S)) := by
  subst hp; exact one (fun T X _ t => Jvm.Free.XS.dstoreN X hx rfl (hb K.2.1 hd) rfl hl) q
theorem dstore (hx : p.tables.exec = Jvm.exec) (K : Kr own bytes ml ret s m meth c) {k : Nat} {v : UInt64} (hd : decode bytes pc = .ok (.dstore k, 2)) (hl : storeLocals Ls k (.double v) = some Ls') (hp : pc + 2 = pc') (q : GoR Ef p e below s T0 F m c (fR m pc' Ls' S)) : GoR Ef p e below s T0 F m c (fR m pc Ls (.double v :: S)) := by
  subst hp; exact one (fun T X _ t => Jvm.Free.XS.dstore X hx rfl (hb K.2.1 hd) rfl hl) q
theorem aloadN (hx : p.tables.exec = Jvm.exec) (K : Kr own bytes ml ret s m meth c) {k : Fin 4} {v : Value} (hd : decode bytes pc = .ok (.aload_n k, 1)) (hl : Ls[k.val]? = some (.val v)) (hv : v.isRef = true) (hp : pc + 1 = pc') (q : GoR Ef p e below s T0 F m c (fR m pc' Ls (v :: S))) : GoR Ef p e below s T0 F m c (fR m pc Ls S) := by
  subst hp; exact one (fun T X _ t => Jvm.Free.XS.aloadN X hx rfl (hb K.2.1 hd) hl hv) q
theorem aload (hx : p.tables.exec = Jvm.exec) (K : Kr own bytes ml ret s m meth c) {k : Nat} {v : Value} (hd : decode bytes pc = .ok (.aload k, 2)) (hl : Ls[k]? = some (.val v)) (hv : v.isRef = true) (hp : pc + 2 = pc') (q : GoR Ef p e below s T0 F m c (fR m pc' Ls (v :: S))) : GoR Ef p e below s T0 F m c (fR m pc Ls S) := by
  subst hp; exact one (fun T X _ t => Jvm.Free.XS.aload X hx rfl (hb K.2.1 hd) hl hv) q
theorem astoreN (hx : p.tables.exec = Jvm.exec) (K : Kr own bytes ml ret s m meth c) {k : Fin 4} {v : Value} (hd : decode bytes pc = .ok (.astore_n k, 1)) (hv : v.isRef = true) (hl : storeLocals Ls k.val v = some Ls') (hp : pc + 1 = pc') (q : GoR Ef p e below s T0 F m c (fR m pc' Ls' S)) : GoR Ef p e below s T0 F m c (fR m pc Ls (v :: S)) := by
  subst hp; exact one (fun T X _ t => Jvm.Free.XS.astoreN X hx rfl (hb K.2.1 hd) rfl hv hl) q
theorem astore (hx : p.tables.exec = Jvm.exec) (K : Kr own bytes ml ret s m meth c) {k : Nat} {v : Value} (hd : decode bytes pc = .ok (.astore k, 2)) (hv : v.isRef = true) (hl : storeLocals Ls k v = some Ls') (hp : pc + 2 = pc') (q : GoR Ef p e below s T0 F m c (fR m pc' Ls' S)) : GoR Ef p e below s T0 F m c (fR m pc Ls (v :: S)) := by
  subst hp; exact one (fun T X _ t => Jvm.Free.XS.astore X hx rfl (hb K.2.1 hd) rfl hv hl) q
theorem iconst (hx : p.tables.exec = Jvm.exec) (K : Kr own bytes ml ret s m meth c) {i : Int} (v : Int32) (hd : decode bytes pc = .ok (.iconst i, 1)) (hv : Int32.ofInt i = v) (hp : pc + 1 = pc') (q : GoR Ef p e below s T0 F m c (fR m pc' Ls (.int v :: S))) : GoR Ef p e below s T0 F m c (fR m pc Ls S) := by
  subst hp; exact one (fun T X _ t => Jvm.Free.XT.iconstV X hx rfl v (hb K.2.1 hd) hv) q
theorem bipush (hx : p.tables.exec = Jvm.exec) (K : Kr own bytes ml ret s m meth c) {i : Int} (v : Int32) (hd : decode bytes pc = .ok (.bipush i, 2)) (hv : (Int8.ofInt i).toInt32 = v) (hp : pc + 2 = pc') (q : GoR Ef p e below s T0 F m c (fR m pc' Ls (.int v :: S))) : GoR Ef p e below s T0 F m c (fR m pc Ls S) := by
  subst hp; exact one (fun T X _ t => Jvm.Free.XT.bipushV X hx rfl v (hb K.2.1 hd) hv) q
theorem sipush (hx : p.tables.exec = Jvm.exec) (K : Kr own bytes ml ret s m meth c) {i : Int} (v : Int32) (hd : decode bytes pc = .ok (.sipush i, 3)) (hv : (Int16.ofInt i).toInt32 = v) (hp : pc + 3 = pc') (q : GoR Ef p e below s T0 F m c (fR m pc' Ls (.int v :: S))) : GoR Ef p e below s T0 F m c (fR m pc Ls S) := by
  subst hp; exact one (fun T X _ t => Jvm.Free.XT.sipushV X hx rfl v (hb K.2.1 hd) hv) q
theorem lconst (hx : p.tables.exec = Jvm.exec) (K : Kr own bytes ml ret s m meth c) {i : Fin 2} (v : Int64) (hd : decode bytes pc = .ok (.lconst i, 1)) (hv : Int64.ofNat i = v) (hp : pc + 1 = pc') (q : GoR Ef p e below s T0 F m c (fR m pc' Ls (.long v :: S))) : GoR Ef p e below s T0 F m c (fR m pc Ls S) := by
  subst hp; exact one (fun T X _ t => Jvm.Free.XT.lconstV X hx rfl v (hb K.2.1 hd) hv) q
theorem istoreS (hx : p.tables.exec = Jvm.exec) (K : Kr own bytes ml ret s m meth c) {k : Nat} {x : Int32} {o : Slot} (hd : decode bytes pc = .ok (.istore k, 2)) (hold : Ls[k]? = some o) (ho : One o) (hl : Ls.setIfInBounds k (.val (.int x)) = Ls') (hp : pc + 2 = pc') (q : GoR Ef p e below s T0 F m c (fR m pc' Ls' S)) : GoR Ef p e below s T0 F m c (fR m pc Ls (.int x :: S)) := by
  subst hp hl; exact one (fun T X _ t => Jvm.Free.XS.istoreS X hx rfl (hb K.2.1 hd) rfl hold ho) q
theorem istoreNS (hx : p.tables.exec = Jvm.exec) (K : Kr own bytes ml ret s m meth c) {k : Fin 4} {x : Int32} {o : Slot} (hd : decode bytes pc = .ok (.istore_n k, 1)) (hold : Ls[k.val]? = some o) (ho : One o) (hl : Ls.setIfInBounds k.val (.val (.int x)) = Ls') (hp : pc + 1 = pc') (q : GoR Ef p e below s T0 F m c (fR m pc' Ls' S)) : GoR Ef p e below s T0 F m c (fR m pc Ls (.int x :: S)) := by
  subst hp hl; exact one (fun T X _ t => Jvm.Free.XS.istoreNS X hx rfl (hb K.2.1 hd) rfl hold ho) q
theorem dconst0 (hx : p.tables.exec = Jvm.exec) (K : Kr own bytes ml ret s m meth c) {v : UInt64} (hd : decode bytes pc = .ok (.dconst 0, 1)) (hv : FP.dconst0 = v) (hp : pc + 1 = pc') (q : GoR Ef p e below s T0 F m c (fR m pc' Ls (.double v :: S))) : GoR Ef p e below s T0 F m c (fR m pc Ls S) := by
  subst hp; exact one (fun T X _ t => Jvm.Free.XS.dconst0 X hx rfl (hb K.2.1 hd) hv) q
theorem dconst1 (hx : p.tables.exec = Jvm.exec) (K : Kr own bytes ml ret s m meth c) {v : UInt64} (hd : decode bytes pc = .ok (.dconst 1, 1)) (hv : FP.dconst1 = v) (hp : pc + 1 = pc') (q : GoR Ef p e below s T0 F m c (fR m pc' Ls (.double v :: S))) : GoR Ef p e below s T0 F m c (fR m pc Ls S) := by
  subst hp; exact one (fun T X _ t => Jvm.Free.XS.dconst1 X hx rfl (hb K.2.1 hd) hv) q
theorem anull (hx : p.tables.exec = Jvm.exec) (K : Kr own bytes ml ret s m meth c) (hd : decode bytes pc = .ok (.aconst_null, 1)) (hp : pc + 1 = pc') (q : GoR Ef p e below s T0 F m c (fR m pc' Ls (.null :: S))) : GoR Ef p e below s T0 F m c (fR m pc Ls S) := by
  subst hp; exact one (fun T X _ t => Jvm.Free.XS.aconstNull X hx rfl (hb K.2.1 hd) ) q
theorem iinc (hx : p.tables.exec = Jvm.exec) (K : Kr own bytes ml ret s m meth c) {k : Nat} {i : Int} {x : Int32} (v : Int32) (hd : decode bytes pc = .ok (.iinc k i, 3)) (hv : Int32.ofInt i = v) (hl : Ls[k]? = some (.val (.int x))) (hl' : storeLocals Ls k (.int (x + v)) = some Ls') (hp : pc + 3 = pc') (q : GoR Ef p e below s T0 F m c (fR m pc' Ls' S)) : GoR Ef p e below s T0 F m c (fR m pc Ls S) := by
  subst hp; exact one (fun T X _ t => Jvm.Free.XT.iincV X hx rfl v (hb K.2.1 hd) hv hl hl') q
theorem iadd (hx : p.tables.exec = Jvm.exec) (K : Kr own bytes ml ret s m meth c) {x y : Int32} (hd : decode bytes pc = .ok (.iadd, 1)) (hp : pc + 1 = pc') (q : GoR Ef p e below s T0 F m c (fR m pc' Ls (.int (x + y) :: S))) : GoR Ef p e below s T0 F m c (fR m pc Ls (.int y :: .int x :: S)) := by
  subst hp; exact one (fun T X _ t => Jvm.Free.XS.iadd X hx rfl (hb K.2.1 hd) rfl) q
theorem isub (hx : p.tables.exec = Jvm.exec) (K : Kr own bytes ml ret s m meth c) {x y : Int32} (hd : decode bytes pc = .ok (.isub, 1)) (hp : pc + 1 = pc') (q : GoR Ef p e below s T0 F m c (fR m pc' Ls (.int (x - y) :: S))) : GoR Ef p e below s T0 F m c (fR m pc Ls (.int y :: .int x :: S)) := by
  subst hp; exact one (fun T X _ t => Jvm.Free.XS.isub X hx rfl (hb K.2.1 hd) rfl) q
theorem imul (hx : p.tables.exec = Jvm.exec) (K : Kr own bytes ml ret s m meth c) {x y : Int32} (hd : decode bytes pc = .ok (.imul, 1)) (hp : pc + 1 = pc') (q : GoR Ef p e below s T0 F m c (fR m pc' Ls (.int (x * y) :: S))) : GoR Ef p e below s T0 F m c (fR m pc Ls (.int y :: .int x :: S)) := by
  subst hp; exact one (fun T X _ t => Jvm.Free.XS.imul X hx rfl (hb K.2.1 hd) rfl) q
theorem iand (hx : p.tables.exec = Jvm.exec) (K : Kr own bytes ml ret s m meth c) {x y : Int32} (hd : decode bytes pc = .ok (.iand, 1)) (hp : pc + 1 = pc') (q : GoR Ef p e below s T0 F m c (fR m pc' Ls (.int (x &&& y) :: S))) : GoR Ef p e below s T0 F m c (fR m pc Ls (.int y :: .int x :: S)) := by
  subst hp; exact one (fun T X _ t => Jvm.Free.XS.iand X hx rfl (hb K.2.1 hd) rfl) q
theorem ior (hx : p.tables.exec = Jvm.exec) (K : Kr own bytes ml ret s m meth c) {x y : Int32} (hd : decode bytes pc = .ok (.ior, 1)) (hp : pc + 1 = pc') (q : GoR Ef p e below s T0 F m c (fR m pc' Ls (.int (x ||| y) :: S))) : GoR Ef p e below s T0 F m c (fR m pc Ls (.int y :: .int x :: S)) := by
  subst hp; exact one (fun T X _ t => Jvm.Free.XT.ior X hx rfl (hb K.2.1 hd) rfl) q
theorem ixor (hx : p.tables.exec = Jvm.exec) (K : Kr own bytes ml ret s m meth c) {x y : Int32} (hd : decode bytes pc = .ok (.ixor, 1)) (hp : pc + 1 = pc') (q : GoR Ef p e below s T0 F m c (fR m pc' Ls (.int (x ^^^ y) :: S))) : GoR Ef p e below s T0 F m c (fR m pc Ls (.int y :: .int x :: S)) := by
  subst hp; exact one (fun T X _ t => Jvm.Free.XT.ixor X hx rfl (hb K.2.1 hd) rfl) q
theorem ishl (hx : p.tables.exec = Jvm.exec) (K : Kr own bytes ml ret s m meth c) {x y : Int32} (hd : decode bytes pc = .ok (.ishl, 1)) (hp : pc + 1 = pc') (q : GoR Ef p e below s T0 F m c (fR m pc' Ls (.int (x <<< (y &&& 31)) :: S))) : GoR Ef p e below s T0 F m c (fR m pc Ls (.int y :: .int x :: S)) := by
  subst hp; exact one (fun T X _ t => Jvm.Free.XT.ishl X hx rfl (hb K.2.1 hd) rfl) q
theorem ishr (hx : p.tables.exec = Jvm.exec) (K : Kr own bytes ml ret s m meth c) {x y : Int32} (hd : decode bytes pc = .ok (.ishr, 1)) (hp : pc + 1 = pc') (q : GoR Ef p e below s T0 F m c (fR m pc' Ls (.int (x >>> (y &&& 31)) :: S))) : GoR Ef p e below s T0 F m c (fR m pc Ls (.int y :: .int x :: S)) := by
  subst hp; exact one (fun T X _ t => Jvm.Free.XT.ishr X hx rfl (hb K.2.1 hd) rfl) q
theorem iushr (hx : p.tables.exec = Jvm.exec) (K : Kr own bytes ml ret s m meth c) {x y : Int32} (hd : decode bytes pc = .ok (.iushr, 1)) (hp : pc + 1 = pc') (q : GoR Ef p e below s T0 F m c (fR m pc' Ls (.int ((x.toUInt32 >>> (y &&& 31).toUInt32).toInt32) :: S))) : GoR Ef p e below s T0 F m c (fR m pc Ls (.int y :: .int x :: S)) := by
  subst hp; exact one (fun T X _ t => Jvm.Free.XT.iushr X hx rfl (hb K.2.1 hd) rfl) q
theorem idiv (hx : p.tables.exec = Jvm.exec) (K : Kr own bytes ml ret s m meth c) {x y : Int32} (hd : decode bytes pc = .ok (.idiv, 1)) (hy : y ≠ 0) (hp : pc + 1 = pc') (q : GoR Ef p e below s T0 F m c (fR m pc' Ls (.int (x / y) :: S))) : GoR Ef p e below s T0 F m c (fR m pc Ls (.int y :: .int x :: S)) := by
  subst hp; exact one (fun T X _ t => Jvm.Free.XS.idiv X hx rfl (hb K.2.1 hd) rfl hy) q
theorem ladd (hx : p.tables.exec = Jvm.exec) (K : Kr own bytes ml ret s m meth c) {x y : Int64} (hd : decode bytes pc = .ok (.ladd, 1)) (hp : pc + 1 = pc') (q : GoR Ef p e below s T0 F m c (fR m pc' Ls (.long (x + y) :: S))) : GoR Ef p e below s T0 F m c (fR m pc Ls (.long y :: .long x :: S)) := by
  subst hp; exact one (fun T X _ t => Jvm.Free.XT.ladd X hx rfl (hb K.2.1 hd) rfl) q
theorem lsub (hx : p.tables.exec = Jvm.exec) (K : Kr own bytes ml ret s m meth c) {x y : Int64} (hd : decode bytes pc = .ok (.lsub, 1)) (hp : pc + 1 = pc') (q : GoR Ef p e below s T0 F m c (fR m pc' Ls (.long (x - y) :: S))) : GoR Ef p e below s T0 F m c (fR m pc Ls (.long y :: .long x :: S)) := by
  subst hp; exact one (fun T X _ t => Jvm.Free.XT.lsub X hx rfl (hb K.2.1 hd) rfl) q
theorem lmul (hx : p.tables.exec = Jvm.exec) (K : Kr own bytes ml ret s m meth c) {x y : Int64} (hd : decode bytes pc = .ok (.lmul, 1)) (hp : pc + 1 = pc') (q : GoR Ef p e below s T0 F m c (fR m pc' Ls (.long (x * y) :: S))) : GoR Ef p e below s T0 F m c (fR m pc Ls (.long y :: .long x :: S)) := by
  subst hp; exact one (fun T X _ t => Jvm.Free.XT.lmul X hx rfl (hb K.2.1 hd) rfl) q
theorem land (hx : p.tables.exec = Jvm.exec) (K : Kr own bytes ml ret s m meth c) {x y : Int64} (hd : decode bytes pc = .ok (.land, 1)) (hp : pc + 1 = pc') (q : GoR Ef p e below s T0 F m c (fR m pc' Ls (.long (x &&& y) :: S))) : GoR Ef p e below s T0 F m c (fR m pc Ls (.long y :: .long x :: S)) := by
  subst hp; exact one (fun T X _ t => Jvm.Free.XT.land X hx rfl (hb K.2.1 hd) rfl) q
theorem lor (hx : p.tables.exec = Jvm.exec) (K : Kr own bytes ml ret s m meth c) {x y : Int64} (hd : decode bytes pc = .ok (.lor, 1)) (hp : pc + 1 = pc') (q : GoR Ef p e below s T0 F m c (fR m pc' Ls (.long (x ||| y) :: S))) : GoR Ef p e below s T0 F m c (fR m pc Ls (.long y :: .long x :: S)) := by
  subst hp; exact one (fun T X _ t => Jvm.Free.XT.lor X hx rfl (hb K.2.1 hd) rfl) q
theorem lxor (hx : p.tables.exec = Jvm.exec) (K : Kr own bytes ml ret s m meth c) {x y : Int64} (hd : decode bytes pc = .ok (.lxor, 1)) (hp : pc + 1 = pc') (q : GoR Ef p e below s T0 F m c (fR m pc' Ls (.long (x ^^^ y) :: S))) : GoR Ef p e below s T0 F m c (fR m pc Ls (.long y :: .long x :: S)) := by
  subst hp; exact one (fun T X _ t => Jvm.Free.XT.lxor X hx rfl (hb K.2.1 hd) rfl) q
theorem lshl (hx : p.tables.exec = Jvm.exec) (K : Kr own bytes ml ret s m meth c) {x : Int64} {y : Int32} (hd : decode bytes pc = .ok (.lshl, 1)) (hp : pc + 1 = pc') (q : GoR Ef p e below s T0 F m c (fR m pc' Ls (.long (x <<< (y.toInt64 &&& 63)) :: S))) : GoR Ef p e below s T0 F m c (fR m pc Ls (.int y :: .long x :: S)) := by
  subst hp; exact one (fun T X _ t => Jvm.Free.XT.lshl X hx rfl (hb K.2.1 hd) rfl) q
theorem lshr (hx : p.tables.exec = Jvm.exec) (K : Kr own bytes ml ret s m meth c) {x : Int64} {y : Int32} (hd : decode bytes pc = .ok (.lshr, 1)) (hp : pc + 1 = pc') (q : GoR Ef p e below s T0 F m c (fR m pc' Ls (.long (x >>> (y.toInt64 &&& 63)) :: S))) : GoR Ef p e below s T0 F m c (fR m pc Ls (.int y :: .long x :: S)) := by
  subst hp; exact one (fun T X _ t => Jvm.Free.XT.lshr X hx rfl (hb K.2.1 hd) rfl) q
theorem lushr (hx : p.tables.exec = Jvm.exec) (K : Kr own bytes ml ret s m meth c) {x : Int64} {y : Int32} (hd : decode bytes pc = .ok (.lushr, 1)) (hp : pc + 1 = pc') (q : GoR Ef p e below s T0 F m c (fR m pc' Ls (.long (XT.ushrL x y) :: S))) : GoR Ef p e below s T0 F m c (fR m pc Ls (.int y :: .long x :: S)) := by
  subst hp; exact one (fun T X _ t => Jvm.Free.XT.lushr X hx rfl (hb K.2.1 hd) rfl) q
theorem ldiv (hx : p.tables.exec = Jvm.exec) (K : Kr own bytes ml ret s m meth c) {x y : Int64} (hd : decode bytes pc = .ok (.ldiv, 1)) (hy : y ≠ 0) (hp : pc + 1 = pc') (q : GoR Ef p e below s T0 F m c (fR m pc' Ls (.long (x / y) :: S))) : GoR Ef p e below s T0 F m c (fR m pc Ls (.long y :: .long x :: S)) := by
  subst hp; exact one (fun T X _ t => Jvm.Free.XT.ldiv X hx rfl (hb K.2.1 hd) rfl hy) q
theorem lcmp (hx : p.tables.exec = Jvm.exec) (K : Kr own bytes ml ret s m meth c) {x y : Int64} (hd : decode bytes pc = .ok (.lcmp, 1)) (hp : pc + 1 = pc') (q : GoR Ef p e below s T0 F m c (fR m pc' Ls (.int (XT.cmpL x y) :: S))) : GoR Ef p e below s T0 F m c (fR m pc Ls (.long y :: .long x :: S)) := by
  subst hp; exact one (fun T X _ t => Jvm.Free.XT.lcmp X hx rfl (hb K.2.1 hd) rfl) q
theorem i2l (hx : p.tables.exec = Jvm.exec) (K : Kr own bytes ml ret s m meth c) {x : Int32} (hd : decode bytes pc = .ok (.i2l, 1)) (hp : pc + 1 = pc') (q : GoR Ef p e below s T0 F m c (fR m pc' Ls (.long x.toInt64 :: S))) : GoR Ef p e below s T0 F m c (fR m pc Ls (.int x :: S)) := by
  subst hp; exact one (fun T X _ t => Jvm.Free.XT.i2l X hx rfl (hb K.2.1 hd) rfl) q
theorem l2i (hx : p.tables.exec = Jvm.exec) (K : Kr own bytes ml ret s m meth c) {x : Int64} (hd : decode bytes pc = .ok (.l2i, 1)) (hp : pc + 1 = pc') (q : GoR Ef p e below s T0 F m c (fR m pc' Ls (.int x.toInt32 :: S))) : GoR Ef p e below s T0 F m c (fR m pc Ls (.long x :: S)) := by
  subst hp; exact one (fun T X _ t => Jvm.Free.XT.l2i X hx rfl (hb K.2.1 hd) rfl) q
theorem i2c (hx : p.tables.exec = Jvm.exec) (K : Kr own bytes ml ret s m meth c) {x : Int32} (hd : decode bytes pc = .ok (.i2c, 1)) (hp : pc + 1 = pc') (q : GoR Ef p e below s T0 F m c (fR m pc' Ls (.int x.toUInt32.toUInt16.toUInt32.toInt32 :: S))) : GoR Ef p e below s T0 F m c (fR m pc Ls (.int x :: S)) := by
  subst hp; exact one (fun T X _ t => Jvm.Free.XT.i2c X hx rfl (hb K.2.1 hd) rfl) q
theorem i2b (hx : p.tables.exec = Jvm.exec) (K : Kr own bytes ml ret s m meth c) {x : Int32} (hd : decode bytes pc = .ok (.i2b, 1)) (hp : pc + 1 = pc') (q : GoR Ef p e below s T0 F m c (fR m pc' Ls (.int x.toInt8.toInt32 :: S))) : GoR Ef p e below s T0 F m c (fR m pc Ls (.int x :: S)) := by
  subst hp; exact one (fun T X _ t => Jvm.Free.XT.i2b X hx rfl (hb K.2.1 hd) rfl) q
theorem i2d (hx : p.tables.exec = Jvm.exec) (K : Kr own bytes ml ret s m meth c) {x : Int32} (hd : decode bytes pc = .ok (.i2d, 1)) (hp : pc + 1 = pc') (q : GoR Ef p e below s T0 F m c (fR m pc' Ls (.double (FP.i2d x) :: S))) : GoR Ef p e below s T0 F m c (fR m pc Ls (.int x :: S)) := by
  subst hp; exact one (fun T X _ t => Jvm.Free.XS.i2dS X hx rfl (hb K.2.1 hd) rfl rfl) q
theorem l2d (hx : p.tables.exec = Jvm.exec) (K : Kr own bytes ml ret s m meth c) {x : Int64} (hd : decode bytes pc = .ok (.l2d, 1)) (hp : pc + 1 = pc') (q : GoR Ef p e below s T0 F m c (fR m pc' Ls (.double (FP.l2d x) :: S))) : GoR Ef p e below s T0 F m c (fR m pc Ls (.long x :: S)) := by
  subst hp; exact one (fun T X _ t => Jvm.Free.XS.l2dS X hx rfl (hb K.2.1 hd) rfl rfl) q
theorem d2l (hx : p.tables.exec = Jvm.exec) (K : Kr own bytes ml ret s m meth c) {x : UInt64} (hd : decode bytes pc = .ok (.d2l, 1)) (hp : pc + 1 = pc') (q : GoR Ef p e below s T0 F m c (fR m pc' Ls (.long (FP.d2l x) :: S))) : GoR Ef p e below s T0 F m c (fR m pc Ls (.double x :: S)) := by
  subst hp; exact one (fun T X _ t => Jvm.Free.XS.d2lS X hx rfl (hb K.2.1 hd) rfl rfl) q
theorem d2i (hx : p.tables.exec = Jvm.exec) (K : Kr own bytes ml ret s m meth c) {x : UInt64} (hd : decode bytes pc = .ok (.d2i, 1)) (hp : pc + 1 = pc') (q : GoR Ef p e below s T0 F m c (fR m pc' Ls (.int (FP.d2i x) :: S))) : GoR Ef p e below s T0 F m c (fR m pc Ls (.double x :: S)) := by
  subst hp; exact one (fun T X _ t => Jvm.Free.XS.d2iS X hx rfl (hb K.2.1 hd) rfl rfl) q
theorem dadd (hx : p.tables.exec = Jvm.exec) (K : Kr own bytes ml ret s m meth c) {x y : UInt64} (hd : decode bytes pc = .ok (.dadd, 1)) (hn : Jvm.Free.Fl.NoNaN64 (FP.dadd x y)) (hp : pc + 1 = pc') (q : GoR Ef p e below s T0 F m c (fR m pc' Ls (.double (FP.dadd x y) :: S))) : GoR Ef p e below s T0 F m c (fR m pc Ls (.double y :: .double x :: S)) := by
  subst hp; exact one (fun T X _ t => Jvm.Free.XS.daddS X hx rfl (hb K.2.1 hd) rfl hn rfl) q
theorem dsub (hx : p.tables.exec = Jvm.exec) (K : Kr own bytes ml ret s m meth c) {x y : UInt64} (hd : decode bytes pc = .ok (.dsub, 1)) (hn : Jvm.Free.Fl.NoNaN64 (FP.dsub x y)) (hp : pc + 1 = pc') (q : GoR Ef p e below s T0 F m c (fR m pc' Ls (.double (FP.dsub x y) :: S))) : GoR Ef p e below s T0 F m c (fR m pc Ls (.double y :: .double x :: S)) := by
  subst hp; exact one (fun T X _ t => Jvm.Free.XS.dsubS X hx rfl (hb K.2.1 hd) rfl hn rfl) q
theorem dmul (hx : p.tables.exec = Jvm.exec) (K : Kr own bytes ml ret s m meth c) {x y : UInt64} (hd : decode bytes pc = .ok (.dmul, 1)) (hn : Jvm.Free.Fl.NoNaN64 (FP.dmul x y)) (hp : pc + 1 = pc') (q : GoR Ef p e below s T0 F m c (fR m pc' Ls (.double (FP.dmul x y) :: S))) : GoR Ef p e below s T0 F m c (fR m pc Ls (.double y :: .double x :: S)) := by
  subst hp; exact one (fun T X _ t => Jvm.Free.XS.dmulS X hx rfl (hb K.2.1 hd) rfl hn rfl) q
theorem ddiv (hx : p.tables.exec = Jvm.exec) (K : Kr own bytes ml ret s m meth c) {x y : UInt64} (hd : decode bytes pc = .ok (.ddiv, 1)) (hn : Jvm.Free.Fl.NoNaN64 (FP.ddiv x y)) (hp : pc + 1 = pc') (q : GoR Ef p e below s T0 F m c (fR m pc' Ls (.double (FP.ddiv x y) :: S))) : GoR Ef p e below s T0 F m c (fR m pc Ls (.double y :: .double x :: S)) := by
  subst hp; exact one (fun T X _ t => Jvm.Free.XS.ddivS X hx rfl (hb K.2.1 hd) rfl hn rfl) q
theorem dcmp (hx : p.tables.exec = Jvm.exec) (K : Kr own bytes ml ret s m meth c) {o : CmpOp} {x y : UInt64} (hd : decode bytes pc = .ok (.dcmp o, 1)) (hp : pc + 1 = pc') (q : GoR Ef p e below s T0 F m c (fR m pc' Ls (.int (cmpValue (FP.dcmp x y) o) :: S))) : GoR Ef p e below s T0 F m c (fR m pc Ls (.double y :: .double x :: S)) := by
  subst hp; exact one (fun T X _ t => Jvm.Free.XS.dcmpS X hx rfl (hb K.2.1 hd) rfl rfl) q
theorem dup (hx : p.tables.exec = Jvm.exec) (K : Kr own bytes ml ret s m meth c) {x : Value} (hd : decode bytes pc = .ok (.dup, 1)) (hc : x.category = 1) (hp : pc + 1 = pc') (q : GoR Ef p e below s T0 F m c (fR m pc' Ls (x :: x :: S))) : GoR Ef p e below s T0 F m c (fR m pc Ls (x :: S)) := by
  subst hp; exact one (fun T X _ t => Jvm.Free.XS.dup X hx rfl (hb K.2.1 hd) rfl hc) q
theorem pop (hx : p.tables.exec = Jvm.exec) (K : Kr own bytes ml ret s m meth c) {x : Value} (hd : decode bytes pc = .ok (.pop, 1)) (hc : x.category = 1) (hp : pc + 1 = pc') (q : GoR Ef p e below s T0 F m c (fR m pc' Ls S)) : GoR Ef p e below s T0 F m c (fR m pc Ls (x :: S)) := by
  subst hp; exact one (fun T X _ t => Jvm.Free.XT.pop X hx rfl (hb K.2.1 hd) rfl hc) q
theorem dupX1 (hx : p.tables.exec = Jvm.exec) (K : Kr own bytes ml ret s m meth c) {x y : Value} (hd : decode bytes pc = .ok (.dup_x1, 1)) (hc : x.category = 1) (hc' : y.category = 1) (hp : pc + 1 = pc') (q : GoR Ef p e below s T0 F m c (fR m pc' Ls (x :: y :: x :: S))) : GoR Ef p e below s T0 F m c (fR m pc Ls (x :: y :: S)) := by
  subst hp; exact one (fun T X _ t => Jvm.Free.XT.dupX1 X hx rfl (hb K.2.1 hd) rfl hc hc') q
theorem dup2 (hx : p.tables.exec = Jvm.exec) (K : Kr own bytes ml ret s m meth c) {x y : Value} (hd : decode bytes pc = .ok (.dup2, 1)) (hc : x.category = 1) (hc' : y.category = 1) (hp : pc + 1 = pc') (q : GoR Ef p e below s T0 F m c (fR m pc' Ls (x :: y :: x :: y :: S))) : GoR Ef p e below s T0 F m c (fR m pc Ls (x :: y :: S)) := by
  subst hp; exact one (fun T X _ t => Jvm.Free.XT.dup2 X hx rfl (hb K.2.1 hd) rfl hc hc') q
theorem dup2L (hx : p.tables.exec = Jvm.exec) (K : Kr own bytes ml ret s m meth c) {x : Int64} (hd : decode bytes pc = .ok (.dup2, 1)) (hp : pc + 1 = pc') (q : GoR Ef p e below s T0 F m c (fR m pc' Ls (.long x :: .long x :: S))) : GoR Ef p e below s T0 F m c (fR m pc Ls (.long x :: S)) := by
  subst hp; exact one (fun T X _ t => Jvm.Free.XT.dup2L X hx rfl (hb K.2.1 hd) rfl) q
theorem ifN (hx : p.tables.exec = Jvm.exec) (K : Kr own bytes ml ret s m meth c) {cd : ClassFile.Cond} {o : Int} {x : Int32} (hd : decode bytes pc = .ok (.ifCond cd o, 3)) (hc : ifCond.holds cd x = false) (hp : pc + 3 = pc') (q : GoR Ef p e below s T0 F m c (fR m pc' Ls S)) : GoR Ef p e below s T0 F m c (fR m pc Ls (.int x :: S)) := by
  subst hp; exact one (fun T X _ t => Jvm.Free.XS.ifNo X hx rfl (hb K.2.1 hd) rfl hc) q
theorem icN (hx : p.tables.exec = Jvm.exec) (K : Kr own bytes ml ret s m meth c) {cd : ClassFile.Cond} {o : Int} {x y : Int32} (hd : decode bytes pc = .ok (.if_icmp cd o, 3)) (hc : if_icmp.holds cd x y = false) (hp : pc + 3 = pc') (q : GoR Ef p e below s T0 F m c (fR m pc' Ls S)) : GoR Ef p e below s T0 F m c (fR m pc Ls (.int y :: .int x :: S)) := by
  subst hp; exact one (fun T X _ t => Jvm.Free.XS.icmpNo X hx rfl (hb K.2.1 hd) rfl hc) q
theorem nullN (hx : p.tables.exec = Jvm.exec) (K : Kr own bytes ml ret s m meth c) {o : Int} {b : Addr} (hd : decode bytes pc = .ok (.ifnull o, 3)) (hp : pc + 3 = pc') (q : GoR Ef p e below s T0 F m c (fR m pc' Ls S)) : GoR Ef p e below s T0 F m c (fR m pc Ls (.ref b :: S)) := by
  subst hp; exact one (fun T X _ t => Jvm.Free.XS.ifnullNo X hx rfl (hb K.2.1 hd) rfl) q
theorem nonnullN (hx : p.tables.exec = Jvm.exec) (K : Kr own bytes ml ret s m meth c) {o : Int} (hd : decode bytes pc = .ok (.ifnonnull o, 3)) (hp : pc + 3 = pc') (q : GoR Ef p e below s T0 F m c (fR m pc' Ls S)) : GoR Ef p e below s T0 F m c (fR m pc Ls (.null :: S)) := by
  subst hp; exact one (fun T X _ t => Jvm.Free.XT.ifnonnullNo X hx rfl (hb K.2.1 hd) rfl) q
theorem goto' (hx : p.tables.exec = Jvm.exec) (K : Kr own bytes ml ret s m meth c) {o : Int} (hd : decode bytes pc = .ok (.goto o, 3)) (ho : 0 ≤ (pc : Int) + o) (hp : ((pc : Int) + o).toNat = pc') (q : GoR Ef p e below s T0 F m c (fR m pc' Ls S)) : GoR Ef p e below s T0 F m c (fR m pc Ls S) :=
  one (fun T X _ t => Jvm.Free.XS.goto X hx rfl rfl (hb K.2.1 hd) ho hp) q
theorem ifY (hx : p.tables.exec = Jvm.exec) (K : Kr own bytes ml ret s m meth c) {cd : ClassFile.Cond} {o : Int} {x : Int32} (hd : decode bytes pc = .ok (.ifCond cd o, 3)) (hc : ifCond.holds cd x = true) (ho : 0 ≤ (pc : Int) + o) (hp : ((pc : Int) + o).toNat = pc') (q : GoR Ef p e below s T0 F m c (fR m pc' Ls S)) : GoR Ef p e below s T0 F m c (fR m pc Ls (.int x :: S)) :=
  one (fun T X _ t => Jvm.Free.XS.ifYes X hx rfl rfl (hb K.2.1 hd) rfl hc ho hp) q
theorem icY (hx : p.tables.exec = Jvm.exec) (K : Kr own bytes ml ret s m meth c) {cd : ClassFile.Cond} {o : Int} {x y : Int32} (hd : decode bytes pc = .ok (.if_icmp cd o, 3)) (hc : if_icmp.holds cd x y = true) (ho : 0 ≤ (pc : Int) + o) (hp : ((pc : Int) + o).toNat = pc') (q : GoR Ef p e below s T0 F m c (fR m pc' Ls S)) : GoR Ef p e below s T0 F m c (fR m pc Ls (.int y :: .int x :: S)) :=
  one (fun T X _ t => Jvm.Free.XS.icmpYes X hx rfl rfl (hb K.2.1 hd) rfl hc ho hp) q
theorem ldc2J (hx : p.tables.exec = Jvm.exec) (K : Kr own bytes ml ret s m meth c) {i : Nat} {v : Int64} (w : (Cond.constantLong own i v).before a0 s = true) (hd : decode bytes pc = .ok (.ldc2_w i, 3)) (hp : pc + 3 = pc') (q : GoR Ef p e below s T0 F m c (fR m pc' Ls (.long v :: S))) : GoR Ef p e below s T0 F m c (fR m pc Ls S) := by
  subst hp; exact one (fun T X w' t => rLdcJ (g := fR m pc Ls S) hx X w' K.1 w rfl (hb K.2.1 hd) t) q
theorem ldc2D (hx : p.tables.exec = Jvm.exec) (K : Kr own bytes ml ret s m meth c) {i : Nat} {v : UInt64} (w : (Cond.constantDouble own i v).before a0 s = true) (hd : decode bytes pc = .ok (.ldc2_w i, 3)) (hp : pc + 3 = pc') (q : GoR Ef p e below s T0 F m c (fR m pc' Ls (.double v :: S))) : GoR Ef p e below s T0 F m c (fR m pc Ls S) := by
  subst hp; exact one (fun T X w' t => rLdcD (g := fR m pc Ls S) hx X w' K.1 w rfl (hb K.2.1 hd) t) q
end I
end Jvm.OwnRaw
namespace Jvm.OwnWp
open Sem ClassFile Op Lib Jvm.Stand Jvm.Free Jvm.LawKit Jvm.RoadKit Jvm.OwnRaw
section Ceil
variable {p : Program} {l : Launch} {e : Env} {R : Room} {s : State} {m : MethodId} {args : Array Value} {below : List Frame} {meth : Method} {c : Code} {Z : State} {a0 : Array Value} {own nm : String} {bytes : ByteArray} {ml : Nat} {ret : Option FieldType} {n0 ce sl pc pc' : Nat} {h : Heap} {Ls Ls' : Array Slot} {S : List Value} {Q : Option Value → Heap → Prop}
theorem StaR.of {ref n d : String} {v : Value} (hZ : Z.Warmed39 s.vm) (F : Sta Z h ref n d v) : StaR s h ref n d v := by
  obtain ⟨cf, i, k, f, st, cell, h1, h2, h3, h4, h5, h6, h7⟩ := F
  obtain ⟨k', hi, ek⟩ := State.fieldFound?_setVm (s := Z) hZ.alike h1
  exact ⟨cf, i, k', f, st, cell, hi, h2, by rw [ek]; exact h3, by rw [ek]; exact h4, h5, (fun q => by rw [q] at h6; cases h6), h7⟩
/-- Math.ceil(b) = z, by the raw walk of StrictMath.ceil -/
theorem callCeil (K : Cx Z own nm bytes ml ret p s m meth c) {i : Nat} {bM bS : ByteArray} {b z : UInt64} (w1 : (Cond.methodLink own i ⟨"java/lang/Math", "ceil", "(D)D"⟩).before a0 Z = true) (w2 : (Cond.static ⟨"java/lang/Math", "ceil", "(D)D"⟩).before a0 Z = true) (wz : (Cond.initialized "java/lang/Math").before a0 Z = true) (wM : (Cond.code ⟨"java/lang/Math", "ceil", "(D)D"⟩ bM 2 (some .double)).before a0 Z = true) (wS : (Cond.code ⟨"java/lang/StrictMath", "ceil", "(D)D"⟩ bS 2 (some .double)).before a0 Z = true) (wI : (Cond.initialized "java/lang/StrictMath").before a0 Z = true)
    (hz : z &&& 0x7fffffffffffffff ≤ 0x7ff0000000000000) (hd : decode bytes pc = .ok (.invokestatic i, 3)) (hzl : Ls.size = ml) (hf : 8 ≤ R.frames) (hW : (S.map fun v => v.category).sum + 150 ≤ R.locals)
    (hgo : ∀ (T : State) (F : List Frame), l.admits e → T.heap = h → (∃ mid, F = mid ++ below) → F.length + 6 ≤ (e.platform.stackLimits T.me).1 → stackWeight F + 140 ≤ (e.platform.stackLimits T.me).2 → ∀ (N : NFrame) (F0 : List Frame), F = .native N :: F0 → ∀ mS methS cS, Kr "java/lang/StrictMath" bS 2 (some .double) s mS methS cS → GoR (FinN s T N F0 (.double z)) p e below s T F mS cS (fR mS 0 #[.val (.double b), .second] []))
    (hp : pc + 3 = pc') (q : Go p l e R s m args below meth c n0 h ce sl (mkF m pc' Ls (.double z :: S)) Q) : Go p l e R s m args below meth c n0 h ce sl (mkF m pc Ls (.double b :: S)) Q := by
  subst hp
  intro T L0 X N0 eT
  have wMs : (Cond.code ⟨"java/lang/Math", "ceil", "(D)D"⟩ bM 2 (some .double)).before args s = true := mvT K.2.1 wM
  obtain ⟨mk, hn⟩ := Cond.code_named wMs
  obtain ⟨methM, cM, hmM, hcM, -, hlM, -, hkM, -, hsM⟩ := Cond.code_spec hn wMs
  obtain ⟨kP, hkP, -⟩ := className_of_methodNamed hn
  have hsig2 : parseMethodDescriptor "(D)D" = some { parameters := [.double], returnType := some .double } := by decide +kernel
  have hlen : [Value.double b].length = methM.sig.parameters.length := by
    have h3 := hsM
    rw [show (⟨"java/lang/Math", "ceil", "(D)D"⟩ : MethodName).desc = "(D)D" from rfl, hsig2] at h3
    rw [← Option.some.inj h3]; rfl
  obtain ⟨vm1, X1, st⟩ := X.invokestatic K.1 K.2.2.1 (mvT K.2.1 w1) hn hmM (Cond.static_spec hn hmM (mvT (args := args) K.2.1 w2)) hkP (Cond.initialized_spec (findClass_of_methodNamed hn) hkP (mvT (args := args) K.2.1 wz)) (by decide) (g := mkF m pc Ls (.double b :: S)) rfl (argsL := [.double b]) (rest := S) hlen rfl (hb K.2.2.2.1 hd)
  obtain ⟨-, r2, -, r4⟩ := State.hasRoom_stack X1.room
  rw [State.localsInUse_invoking X1.frames X1.method X1.code, K.2.2.2.2.1] at r4
  rw [X1.frames, List.length_cons] at r2
  have hwt : stackWeight (.java (mkF m pc Ls S) :: below) = 11 + Ls.size + (S.map fun v => v.category).sum + stackWeight below := OwnRaw.wt below m pc Ls S
  have hv : vmFrameWords = 1024 := rfl
  rw [← X1.limits] at r2 r4
  obtain ⟨vm', hw', hst⟩ := ceilRaw p X1.admits K.1 (s := s) (T := T.setVm vm1) (g := mkF m pc Ls S) (c := c) (below := below) X1.here X1.warmed (args := args) wMs (mvT K.2.1 wS) (mvT K.2.1 wI) (b := b) (z := z) (m := mk) (X1.named hn) (by rw [X1.tail]; omega) (by rw [X1.tail, hwt]; omega)
    (fun N hN mS methS cS KS => by
      rw [X1.tail]
      have hwN : stackWeight (.native N :: .java (mkF m pc Ls S) :: below) = 1024 + stackWeight (.java (mkF m pc Ls S) :: below) := by
        show max N.words vmFrameWords + _ = _
        rw [hN]; rfl
      exact hgo (T.setVm vm1) (.native N :: .java (mkF m pc Ls S) :: below) X1.admits eT ⟨[.native N, .java (mkF m pc Ls S)], rfl⟩ (by simp only [List.length_cons]; omega) (by rw [hwN, hwt]; omega) N _ rfl mS methS cS KS)
    hz (ig := .invokestatic i) (len := 3) (hb K.2.2.2.1 hd)
  have X2 := X1.noted hw'
  obtain ⟨s₂, u, L', a1, r⟩ := q _ _ X2 N0 eT
  exact ⟨s₂, u, L', st _ (fun acts => (hst acts).trans a1), r⟩
end Ceil
end Jvm.OwnWp
namespace Jvm.Pilot.@@N@@
open Jvm Jvm.ClassFile Sem Op Lib Jvm.Free Jvm.Stand Jvm.LawKit Jvm.RoadKit Bundle Jvm.Pilot.@@N@@.Jvm.D Jvm.OwnWp

theorem d_jdk_128_method_16_0 : decode jdk_128_method_16_code 0 = .ok (.dload_n 0, 1) := by decide +kernel
theorem d_jdk_128_method_16_1 : decode jdk_128_method_16_code 1 = .ok (.ldc2_w 58, 3) := by decide +kernel
theorem d_jdk_128_method_16_4 : decode jdk_128_method_16_code 4 = .ok (.dconst 1, 1) := by decide +kernel
theorem d_jdk_128_method_16_5 : decode jdk_128_method_16_code 5 = .ok (.dconst 1, 1) := by decide +kernel
theorem d_jdk_128_method_16_6 : decode jdk_128_method_16_code 6 = .ok (.invokestatic 60, 3) := by decide +kernel
theorem d_jdk_128_method_16_9 : decode jdk_128_method_16_code 9 = .ok (.dreturn, 1) := by decide +kernel
theorem d_jdk_128_method_18_0 : decode jdk_128_method_18_code 0 = .ok (.dload_n 0, 1) := by decide +kernel
theorem d_jdk_128_method_18_1 : decode jdk_128_method_18_code 1 = .ok (.invokestatic 66, 3) := by decide +kernel
theorem d_jdk_128_method_18_4 : decode jdk_128_method_18_code 4 = .ok (.istore 8, 2) := by decide +kernel
theorem d_jdk_128_method_18_6 : decode jdk_128_method_18_code 6 = .ok (.iload 8, 2) := by decide +kernel
theorem d_jdk_128_method_18_8 : decode jdk_128_method_18_code 8 = .ok (.ifCond .ge 26, 3) := by decide +kernel
theorem d_jdk_128_method_18_11 : decode jdk_128_method_18_code 11 = .ok (.dload_n 0, 1) := by decide +kernel
theorem d_jdk_128_method_18_12 : decode jdk_128_method_18_code 12 = .ok (.dconst 0, 1) := by decide +kernel
theorem d_jdk_128_method_18_13 : decode jdk_128_method_18_code 13 = .ok (.dcmp .l, 1) := by decide +kernel
theorem d_jdk_128_method_18_14 : decode jdk_128_method_18_code 14 = .ok (.ifCond .ne 7, 3) := by decide +kernel
theorem d_jdk_128_method_18_21 : decode jdk_128_method_18_code 21 = .ok (.dload_n 0, 1) := by decide +kernel
theorem d_jdk_128_method_18_22 : decode jdk_128_method_18_code 22 = .ok (.dconst 0, 1) := by decide +kernel
theorem d_jdk_128_method_18_23 : decode jdk_128_method_18_code 23 = .ok (.dcmp .g, 1) := by decide +kernel
theorem d_jdk_128_method_18_24 : decode jdk_128_method_18_code 24 = .ok (.ifCond .ge 7, 3) := by decide +kernel
theorem d_jdk_128_method_18_31 : decode jdk_128_method_18_code 31 = .ok (.dload 4, 2) := by decide +kernel
theorem d_jdk_128_method_18_33 : decode jdk_128_method_18_code 33 = .ok (.dreturn, 1) := by decide +kernel
theorem d_jdk_128_method_18_34 : decode jdk_128_method_18_code 34 = .ok (.iload 8, 2) := by decide +kernel
theorem d_jdk_128_method_18_36 : decode jdk_128_method_18_code 36 = .ok (.bipush 52, 2) := by decide +kernel
theorem d_jdk_128_method_18_38 : decode jdk_128_method_18_code 38 = .ok (.if_icmp .lt 5, 3) := by decide +kernel
theorem d_jdk_128_method_18_43 : decode jdk_128_method_18_code 43 = .ok (.getstatic 70, 3) := by decide +kernel
theorem d_jdk_128_method_18_46 : decode jdk_128_method_18_code 46 = .ok (.ifCond .ne 23, 3) := by decide +kernel
theorem d_jdk_128_method_18_69 : decode jdk_128_method_18_code 69 = .ok (.dload_n 0, 1) := by decide +kernel
theorem d_jdk_128_method_18_70 : decode jdk_128_method_18_code 70 = .ok (.invokestatic 77, 3) := by decide +kernel
theorem d_jdk_128_method_18_73 : decode jdk_128_method_18_code 73 = .ok (.lstore 9, 2) := by decide +kernel
theorem d_jdk_128_method_18_75 : decode jdk_128_method_18_code 75 = .ok (.ldc2_w 85, 3) := by decide +kernel
theorem d_jdk_128_method_18_78 : decode jdk_128_method_18_code 78 = .ok (.iload 8, 2) := by decide +kernel
theorem d_jdk_128_method_18_80 : decode jdk_128_method_18_code 80 = .ok (.lshr, 1) := by decide +kernel
theorem d_jdk_128_method_18_81 : decode jdk_128_method_18_code 81 = .ok (.lstore 11, 2) := by decide +kernel
theorem d_jdk_128_method_18_83 : decode jdk_128_method_18_code 83 = .ok (.lload 11, 2) := by decide +kernel
theorem d_jdk_128_method_18_85 : decode jdk_128_method_18_code 85 = .ok (.lload 9, 2) := by decide +kernel
theorem d_jdk_128_method_18_87 : decode jdk_128_method_18_code 87 = .ok (.land, 1) := by decide +kernel
theorem d_jdk_128_method_18_88 : decode jdk_128_method_18_code 88 = .ok (.lconst 0, 1) := by decide +kernel
theorem d_jdk_128_method_18_89 : decode jdk_128_method_18_code 89 = .ok (.lcmp, 1) := by decide +kernel
theorem d_jdk_128_method_18_90 : decode jdk_128_method_18_code 90 = .ok (.ifCond .ne 5, 3) := by decide +kernel
theorem d_jdk_128_method_18_93 : decode jdk_128_method_18_code 93 = .ok (.dload_n 0, 1) := by decide +kernel
theorem d_jdk_128_method_18_94 : decode jdk_128_method_18_code 94 = .ok (.dreturn, 1) := by decide +kernel
theorem d_jdk_29_method_66_0 : decode jdk_29_method_66_code 0 = .ok (.lload_n 0, 1) := by decide +kernel
theorem d_jdk_29_method_66_1 : decode jdk_29_method_66_code 1 = .ok (.lload_n 2, 1) := by decide +kernel
theorem d_jdk_29_method_66_2 : decode jdk_29_method_66_code 2 = .ok (.lcmp, 1) := by decide +kernel
theorem d_jdk_29_method_66_3 : decode jdk_29_method_66_code 3 = .ok (.ifCond .lt 7, 3) := by decide +kernel
theorem d_jdk_29_method_66_6 : decode jdk_29_method_66_code 6 = .ok (.lload_n 0, 1) := by decide +kernel
theorem d_jdk_29_method_66_7 : decode jdk_29_method_66_code 7 = .ok (.goto 4, 3) := by decide +kernel
theorem d_jdk_29_method_66_10 : decode jdk_29_method_66_code 10 = .ok (.lload_n 2, 1) := by decide +kernel
theorem d_jdk_29_method_66_11 : decode jdk_29_method_66_code 11 = .ok (.lreturn, 1) := by decide +kernel
theorem d_jdk_29_method_70_0 : decode jdk_29_method_70_code 0 = .ok (.lload_n 0, 1) := by decide +kernel
theorem d_jdk_29_method_70_1 : decode jdk_29_method_70_code 1 = .ok (.lload_n 2, 1) := by decide +kernel
theorem d_jdk_29_method_70_2 : decode jdk_29_method_70_code 2 = .ok (.lcmp, 1) := by decide +kernel
theorem d_jdk_29_method_70_3 : decode jdk_29_method_70_code 3 = .ok (.ifCond .gt 7, 3) := by decide +kernel
theorem d_jdk_29_method_70_6 : decode jdk_29_method_70_code 6 = .ok (.lload_n 0, 1) := by decide +kernel
theorem d_jdk_29_method_70_7 : decode jdk_29_method_70_code 7 = .ok (.goto 4, 3) := by decide +kernel
theorem d_jdk_29_method_70_10 : decode jdk_29_method_70_code 10 = .ok (.lload_n 2, 1) := by decide +kernel
theorem d_jdk_29_method_70_11 : decode jdk_29_method_70_code 11 = .ok (.lreturn, 1) := by decide +kernel
theorem d_jdk_29_method_92_0 : decode jdk_29_method_92_code 0 = .ok (.dload_n 0, 1) := by decide +kernel
theorem d_jdk_29_method_92_1 : decode jdk_29_method_92_code 1 = .ok (.invokestatic 79, 3) := by decide +kernel
theorem d_jdk_29_method_92_4 : decode jdk_29_method_92_code 4 = .ok (.ldc2_w 87, 3) := by decide +kernel
theorem d_jdk_29_method_92_7 : decode jdk_29_method_92_code 7 = .ok (.land, 1) := by decide +kernel
theorem d_jdk_29_method_92_8 : decode jdk_29_method_92_code 8 = .ok (.bipush 52, 2) := by decide +kernel
theorem d_jdk_29_method_92_10 : decode jdk_29_method_92_code 10 = .ok (.lshr, 1) := by decide +kernel
theorem d_jdk_29_method_92_11 : decode jdk_29_method_92_code 11 = .ok (.ldc2_w 322, 3) := by decide +kernel
theorem d_jdk_29_method_92_14 : decode jdk_29_method_92_code 14 = .ok (.lsub, 1) := by decide +kernel
theorem d_jdk_29_method_92_15 : decode jdk_29_method_92_code 15 = .ok (.l2i, 1) := by decide +kernel
theorem d_jdk_29_method_92_16 : decode jdk_29_method_92_code 16 = .ok (.ireturn, 1) := by decide +kernel
theorem d_jdk_33_method_47_0 : decode jdk_33_method_47_code 0 = .ok (.iload_n 0, 1) := by decide +kernel
theorem d_jdk_33_method_47_1 : decode jdk_33_method_47_code 1 = .ok (.ifCond .gt 14, 3) := by decide +kernel
theorem d_jdk_33_method_47_4 : decode jdk_33_method_47_code 4 = .ok (.iload_n 0, 1) := by decide +kernel
theorem d_jdk_33_method_47_5 : decode jdk_33_method_47_code 5 = .ok (.ifCond .ne 8, 3) := by decide +kernel
theorem d_jdk_33_method_47_13 : decode jdk_33_method_47_code 13 = .ok (.iconst 0, 1) := by decide +kernel
theorem d_jdk_33_method_47_14 : decode jdk_33_method_47_code 14 = .ok (.ireturn, 1) := by decide +kernel
theorem d_jdk_33_method_47_15 : decode jdk_33_method_47_code 15 = .ok (.bipush 31, 2) := by decide +kernel
theorem d_jdk_33_method_47_17 : decode jdk_33_method_47_code 17 = .ok (.istore_n 1, 1) := by decide +kernel
theorem d_jdk_33_method_47_18 : decode jdk_33_method_47_code 18 = .ok (.iload_n 0, 1) := by decide +kernel
theorem d_jdk_33_method_47_19 : decode jdk_33_method_47_code 19 = .ok (.ldc_w 264, 3) := by decide +kernel
theorem d_jdk_33_method_47_22 : decode jdk_33_method_47_code 22 = .ok (.if_icmp .lt 11, 3) := by decide +kernel
theorem d_jdk_33_method_47_25 : decode jdk_33_method_47_code 25 = .ok (.iinc 1 (-16), 3) := by decide +kernel
theorem d_jdk_33_method_47_28 : decode jdk_33_method_47_code 28 = .ok (.iload_n 0, 1) := by decide +kernel
theorem d_jdk_33_method_47_29 : decode jdk_33_method_47_code 29 = .ok (.bipush 16, 2) := by decide +kernel
theorem d_jdk_33_method_47_31 : decode jdk_33_method_47_code 31 = .ok (.iushr, 1) := by decide +kernel
theorem d_jdk_33_method_47_32 : decode jdk_33_method_47_code 32 = .ok (.istore_n 0, 1) := by decide +kernel
theorem d_jdk_33_method_47_33 : decode jdk_33_method_47_code 33 = .ok (.iload_n 0, 1) := by decide +kernel
theorem d_jdk_33_method_47_34 : decode jdk_33_method_47_code 34 = .ok (.sipush 256, 3) := by decide +kernel
theorem d_jdk_33_method_47_37 : decode jdk_33_method_47_code 37 = .ok (.if_icmp .lt 11, 3) := by decide +kernel
theorem d_jdk_33_method_47_40 : decode jdk_33_method_47_code 40 = .ok (.iinc 1 (-8), 3) := by decide +kernel
theorem d_jdk_33_method_47_43 : decode jdk_33_method_47_code 43 = .ok (.iload_n 0, 1) := by decide +kernel
theorem d_jdk_33_method_47_44 : decode jdk_33_method_47_code 44 = .ok (.bipush 8, 2) := by decide +kernel
theorem d_jdk_33_method_47_46 : decode jdk_33_method_47_code 46 = .ok (.iushr, 1) := by decide +kernel
theorem d_jdk_33_method_47_47 : decode jdk_33_method_47_code 47 = .ok (.istore_n 0, 1) := by decide +kernel
theorem d_jdk_33_method_47_48 : decode jdk_33_method_47_code 48 = .ok (.iload_n 0, 1) := by decide +kernel
theorem d_jdk_33_method_47_49 : decode jdk_33_method_47_code 49 = .ok (.bipush 16, 2) := by decide +kernel
theorem d_jdk_33_method_47_51 : decode jdk_33_method_47_code 51 = .ok (.if_icmp .lt 10, 3) := by decide +kernel
theorem d_jdk_33_method_47_54 : decode jdk_33_method_47_code 54 = .ok (.iinc 1 (-4), 3) := by decide +kernel
theorem d_jdk_33_method_47_57 : decode jdk_33_method_47_code 57 = .ok (.iload_n 0, 1) := by decide +kernel
theorem d_jdk_33_method_47_58 : decode jdk_33_method_47_code 58 = .ok (.iconst 4, 1) := by decide +kernel
theorem d_jdk_33_method_47_59 : decode jdk_33_method_47_code 59 = .ok (.iushr, 1) := by decide +kernel
theorem d_jdk_33_method_47_60 : decode jdk_33_method_47_code 60 = .ok (.istore_n 0, 1) := by decide +kernel
theorem d_jdk_33_method_47_61 : decode jdk_33_method_47_code 61 = .ok (.iload_n 0, 1) := by decide +kernel
theorem d_jdk_33_method_47_62 : decode jdk_33_method_47_code 62 = .ok (.iconst 4, 1) := by decide +kernel
theorem d_jdk_33_method_47_63 : decode jdk_33_method_47_code 63 = .ok (.if_icmp .lt 10, 3) := by decide +kernel
theorem d_jdk_33_method_47_66 : decode jdk_33_method_47_code 66 = .ok (.iinc 1 (-2), 3) := by decide +kernel
theorem d_jdk_33_method_47_69 : decode jdk_33_method_47_code 69 = .ok (.iload_n 0, 1) := by decide +kernel
theorem d_jdk_33_method_47_70 : decode jdk_33_method_47_code 70 = .ok (.iconst 2, 1) := by decide +kernel
theorem d_jdk_33_method_47_71 : decode jdk_33_method_47_code 71 = .ok (.iushr, 1) := by decide +kernel
theorem d_jdk_33_method_47_72 : decode jdk_33_method_47_code 72 = .ok (.istore_n 0, 1) := by decide +kernel
theorem d_jdk_33_method_47_73 : decode jdk_33_method_47_code 73 = .ok (.iload_n 1, 1) := by decide +kernel
theorem d_jdk_33_method_47_74 : decode jdk_33_method_47_code 74 = .ok (.iload_n 0, 1) := by decide +kernel
theorem d_jdk_33_method_47_75 : decode jdk_33_method_47_code 75 = .ok (.iconst 1, 1) := by decide +kernel
theorem d_jdk_33_method_47_76 : decode jdk_33_method_47_code 76 = .ok (.iushr, 1) := by decide +kernel
theorem d_jdk_33_method_47_77 : decode jdk_33_method_47_code 77 = .ok (.isub, 1) := by decide +kernel
theorem d_jdk_33_method_47_78 : decode jdk_33_method_47_code 78 = .ok (.ireturn, 1) := by decide +kernel
theorem d_jdk_35_method_48_0 : decode jdk_35_method_48_code 0 = .ok (.lload_n 0, 1) := by decide +kernel
theorem d_jdk_35_method_48_1 : decode jdk_35_method_48_code 1 = .ok (.bipush 32, 2) := by decide +kernel
theorem d_jdk_35_method_48_3 : decode jdk_35_method_48_code 3 = .ok (.lushr, 1) := by decide +kernel
theorem d_jdk_35_method_48_4 : decode jdk_35_method_48_code 4 = .ok (.l2i, 1) := by decide +kernel
theorem d_jdk_35_method_48_5 : decode jdk_35_method_48_code 5 = .ok (.istore_n 2, 1) := by decide +kernel
theorem d_jdk_35_method_48_6 : decode jdk_35_method_48_code 6 = .ok (.iload_n 2, 1) := by decide +kernel
theorem d_jdk_35_method_48_7 : decode jdk_35_method_48_code 7 = .ok (.ifCond .ne 14, 3) := by decide +kernel
theorem d_jdk_35_method_48_10 : decode jdk_35_method_48_code 10 = .ok (.bipush 32, 2) := by decide +kernel
theorem d_jdk_35_method_48_12 : decode jdk_35_method_48_code 12 = .ok (.lload_n 0, 1) := by decide +kernel
theorem d_jdk_35_method_48_13 : decode jdk_35_method_48_code 13 = .ok (.l2i, 1) := by decide +kernel
theorem d_jdk_35_method_48_14 : decode jdk_35_method_48_code 14 = .ok (.invokestatic 308, 3) := by decide +kernel
theorem d_jdk_35_method_48_17 : decode jdk_35_method_48_code 17 = .ok (.iadd, 1) := by decide +kernel
theorem d_jdk_35_method_48_18 : decode jdk_35_method_48_code 18 = .ok (.goto 7, 3) := by decide +kernel
theorem d_jdk_35_method_48_21 : decode jdk_35_method_48_code 21 = .ok (.iload_n 2, 1) := by decide +kernel
theorem d_jdk_35_method_48_22 : decode jdk_35_method_48_code 22 = .ok (.invokestatic 308, 3) := by decide +kernel
theorem d_jdk_35_method_48_25 : decode jdk_35_method_48_code 25 = .ok (.ireturn, 1) := by decide +kernel
theorem d_prog_7_method_1_0 : decode prog_7_method_1_code 0 = .ok (.aload_n 0, 1) := by decide +kernel
theorem d_prog_7_method_1_1 : decode prog_7_method_1_code 1 = .ok (.invokespecial 5, 3) := by decide +kernel
theorem d_prog_7_method_1_4 : decode prog_7_method_1_code 4 = .ok (.aload_n 0, 1) := by decide +kernel
theorem d_prog_7_method_1_5 : decode prog_7_method_1_code 5 = .ok (.sipush 7296, 3) := by decide +kernel
theorem d_prog_7_method_1_8 : decode prog_7_method_1_code 8 = .ok (.newarray .long, 2) := by decide +kernel
theorem d_prog_7_method_1_10 : decode prog_7_method_1_code 10 = .ok (.putfield 11, 3) := by decide +kernel
theorem d_prog_7_method_1_13 : decode prog_7_method_1_code 13 = .ok (.return_, 1) := by decide +kernel
theorem d_prog_7_method_2_0 : decode prog_7_method_2_code 0 = .ok (.aload_n 0, 1) := by decide +kernel
theorem d_prog_7_method_2_1 : decode prog_7_method_2_code 1 = .ok (.getfield 11, 3) := by decide +kernel
theorem d_prog_7_method_2_4 : decode prog_7_method_2_code 4 = .ok (.lload_n 1, 1) := by decide +kernel
theorem d_prog_7_method_2_5 : decode prog_7_method_2_code 5 = .ok (.lconst 0, 1) := by decide +kernel
theorem d_prog_7_method_2_6 : decode prog_7_method_2_code 6 = .ok (.invokestatic 15, 3) := by decide +kernel
theorem d_prog_7_method_2_9 : decode prog_7_method_2_code 9 = .ok (.invokestatic 21, 3) := by decide +kernel
theorem d_prog_7_method_2_12 : decode prog_7_method_2_code 12 = .ok (.dup2, 1) := by decide +kernel
theorem d_prog_7_method_2_13 : decode prog_7_method_2_code 13 = .ok (.laload, 1) := by decide +kernel
theorem d_prog_7_method_2_14 : decode prog_7_method_2_code 14 = .ok (.lconst 1, 1) := by decide +kernel
theorem d_prog_7_method_2_15 : decode prog_7_method_2_code 15 = .ok (.ladd, 1) := by decide +kernel
theorem d_prog_7_method_2_16 : decode prog_7_method_2_code 16 = .ok (.lastore, 1) := by decide +kernel
theorem d_prog_7_method_2_17 : decode prog_7_method_2_code 17 = .ok (.aload_n 0, 1) := by decide +kernel
theorem d_prog_7_method_2_18 : decode prog_7_method_2_code 18 = .ok (.dup, 1) := by decide +kernel
theorem d_prog_7_method_2_19 : decode prog_7_method_2_code 19 = .ok (.getfield 25, 3) := by decide +kernel
theorem d_prog_7_method_2_22 : decode prog_7_method_2_code 22 = .ok (.lconst 1, 1) := by decide +kernel
theorem d_prog_7_method_2_23 : decode prog_7_method_2_code 23 = .ok (.ladd, 1) := by decide +kernel
theorem d_prog_7_method_2_24 : decode prog_7_method_2_code 24 = .ok (.putfield 25, 3) := by decide +kernel
theorem d_prog_7_method_2_27 : decode prog_7_method_2_code 27 = .ok (.return_, 1) := by decide +kernel
theorem d_prog_7_method_3_0 : decode prog_7_method_3_code 0 = .ok (.iconst 0, 1) := by decide +kernel
theorem d_prog_7_method_3_1 : decode prog_7_method_3_code 1 = .ok (.istore_n 2, 1) := by decide +kernel
theorem d_prog_7_method_3_2 : decode prog_7_method_3_code 2 = .ok (.iload_n 2, 1) := by decide +kernel
theorem d_prog_7_method_3_3 : decode prog_7_method_3_code 3 = .ok (.sipush 7296, 3) := by decide +kernel
theorem d_prog_7_method_3_6 : decode prog_7_method_3_code 6 = .ok (.if_icmp .ge 24, 3) := by decide +kernel
theorem d_prog_7_method_3_9 : decode prog_7_method_3_code 9 = .ok (.aload_n 0, 1) := by decide +kernel
theorem d_prog_7_method_3_10 : decode prog_7_method_3_code 10 = .ok (.getfield 11, 3) := by decide +kernel
theorem d_prog_7_method_3_13 : decode prog_7_method_3_code 13 = .ok (.iload_n 2, 1) := by decide +kernel
theorem d_prog_7_method_3_14 : decode prog_7_method_3_code 14 = .ok (.dup2, 1) := by decide +kernel
theorem d_prog_7_method_3_15 : decode prog_7_method_3_code 15 = .ok (.laload, 1) := by decide +kernel
theorem d_prog_7_method_3_16 : decode prog_7_method_3_code 16 = .ok (.aload_n 1, 1) := by decide +kernel
theorem d_prog_7_method_3_17 : decode prog_7_method_3_code 17 = .ok (.getfield 11, 3) := by decide +kernel
theorem d_prog_7_method_3_20 : decode prog_7_method_3_code 20 = .ok (.iload_n 2, 1) := by decide +kernel
theorem d_prog_7_method_3_21 : decode prog_7_method_3_code 21 = .ok (.laload, 1) := by decide +kernel
theorem d_prog_7_method_3_22 : decode prog_7_method_3_code 22 = .ok (.ladd, 1) := by decide +kernel
theorem d_prog_7_method_3_23 : decode prog_7_method_3_code 23 = .ok (.lastore, 1) := by decide +kernel
theorem d_prog_7_method_3_24 : decode prog_7_method_3_code 24 = .ok (.iinc 2 1, 3) := by decide +kernel
theorem d_prog_7_method_3_27 : decode prog_7_method_3_code 27 = .ok (.goto (-25), 3) := by decide +kernel
theorem d_prog_7_method_3_30 : decode prog_7_method_3_code 30 = .ok (.aload_n 0, 1) := by decide +kernel
theorem d_prog_7_method_3_31 : decode prog_7_method_3_code 31 = .ok (.dup, 1) := by decide +kernel
theorem d_prog_7_method_3_32 : decode prog_7_method_3_code 32 = .ok (.getfield 25, 3) := by decide +kernel
theorem d_prog_7_method_3_35 : decode prog_7_method_3_code 35 = .ok (.aload_n 1, 1) := by decide +kernel
theorem d_prog_7_method_3_36 : decode prog_7_method_3_code 36 = .ok (.getfield 25, 3) := by decide +kernel
theorem d_prog_7_method_3_39 : decode prog_7_method_3_code 39 = .ok (.ladd, 1) := by decide +kernel
theorem d_prog_7_method_3_40 : decode prog_7_method_3_code 40 = .ok (.putfield 25, 3) := by decide +kernel
theorem d_prog_7_method_3_43 : decode prog_7_method_3_code 43 = .ok (.return_, 1) := by decide +kernel
theorem d_prog_7_method_4_0 : decode prog_7_method_4_code 0 = .ok (.aload_n 0, 1) := by decide +kernel
theorem d_prog_7_method_4_1 : decode prog_7_method_4_code 1 = .ok (.getfield 25, 3) := by decide +kernel
theorem d_prog_7_method_4_4 : decode prog_7_method_4_code 4 = .ok (.lreturn, 1) := by decide +kernel
theorem d_prog_7_method_5_0 : decode prog_7_method_5_code 0 = .ok (.aload_n 0, 1) := by decide +kernel
theorem d_prog_7_method_5_1 : decode prog_7_method_5_code 1 = .ok (.getfield 25, 3) := by decide +kernel
theorem d_prog_7_method_5_4 : decode prog_7_method_5_code 4 = .ok (.lconst 0, 1) := by decide +kernel
theorem d_prog_7_method_5_5 : decode prog_7_method_5_code 5 = .ok (.lcmp, 1) := by decide +kernel
theorem d_prog_7_method_5_6 : decode prog_7_method_5_code 6 = .ok (.ifCond .ne 13, 3) := by decide +kernel
theorem d_prog_7_method_5_19 : decode prog_7_method_5_code 19 = .ok (.lconst 1, 1) := by decide +kernel
theorem d_prog_7_method_5_20 : decode prog_7_method_5_code 20 = .ok (.dload_n 1, 1) := by decide +kernel
theorem d_prog_7_method_5_21 : decode prog_7_method_5_code 21 = .ok (.aload_n 0, 1) := by decide +kernel
theorem d_prog_7_method_5_22 : decode prog_7_method_5_code 22 = .ok (.getfield 25, 3) := by decide +kernel
theorem d_prog_7_method_5_25 : decode prog_7_method_5_code 25 = .ok (.l2d, 1) := by decide +kernel
theorem d_prog_7_method_5_26 : decode prog_7_method_5_code 26 = .ok (.dmul, 1) := by decide +kernel
theorem d_prog_7_method_5_27 : decode prog_7_method_5_code 27 = .ok (.invokestatic 36, 3) := by decide +kernel
theorem d_prog_7_method_5_30 : decode prog_7_method_5_code 30 = .ok (.d2l, 1) := by decide +kernel
theorem d_prog_7_method_5_31 : decode prog_7_method_5_code 31 = .ok (.invokestatic 15, 3) := by decide +kernel
theorem d_prog_7_method_5_34 : decode prog_7_method_5_code 34 = .ok (.lstore_n 3, 1) := by decide +kernel
theorem d_prog_7_method_5_35 : decode prog_7_method_5_code 35 = .ok (.lconst 0, 1) := by decide +kernel
theorem d_prog_7_method_5_36 : decode prog_7_method_5_code 36 = .ok (.lstore 5, 2) := by decide +kernel
theorem d_prog_7_method_5_38 : decode prog_7_method_5_code 38 = .ok (.iconst 0, 1) := by decide +kernel
theorem d_prog_7_method_5_39 : decode prog_7_method_5_code 39 = .ok (.istore 7, 2) := by decide +kernel
theorem d_prog_7_method_5_41 : decode prog_7_method_5_code 41 = .ok (.lload 5, 2) := by decide +kernel
theorem d_prog_7_method_5_43 : decode prog_7_method_5_code 43 = .ok (.aload_n 0, 1) := by decide +kernel
theorem d_prog_7_method_5_44 : decode prog_7_method_5_code 44 = .ok (.getfield 11, 3) := by decide +kernel
theorem d_prog_7_method_5_47 : decode prog_7_method_5_code 47 = .ok (.iload 7, 2) := by decide +kernel
theorem d_prog_7_method_5_49 : decode prog_7_method_5_code 49 = .ok (.laload, 1) := by decide +kernel
theorem d_prog_7_method_5_50 : decode prog_7_method_5_code 50 = .ok (.ladd, 1) := by decide +kernel
theorem d_prog_7_method_5_51 : decode prog_7_method_5_code 51 = .ok (.lload_n 3, 1) := by decide +kernel
theorem d_prog_7_method_5_52 : decode prog_7_method_5_code 52 = .ok (.lcmp, 1) := by decide +kernel
theorem d_prog_7_method_5_53 : decode prog_7_method_5_code 53 = .ok (.ifCond .ge 21, 3) := by decide +kernel
theorem d_prog_7_method_5_56 : decode prog_7_method_5_code 56 = .ok (.lload 5, 2) := by decide +kernel
theorem d_prog_7_method_5_58 : decode prog_7_method_5_code 58 = .ok (.aload_n 0, 1) := by decide +kernel
theorem d_prog_7_method_5_59 : decode prog_7_method_5_code 59 = .ok (.getfield 11, 3) := by decide +kernel
theorem d_prog_7_method_5_62 : decode prog_7_method_5_code 62 = .ok (.iload 7, 2) := by decide +kernel
theorem d_prog_7_method_5_64 : decode prog_7_method_5_code 64 = .ok (.laload, 1) := by decide +kernel
theorem d_prog_7_method_5_65 : decode prog_7_method_5_code 65 = .ok (.ladd, 1) := by decide +kernel
theorem d_prog_7_method_5_66 : decode prog_7_method_5_code 66 = .ok (.lstore 5, 2) := by decide +kernel
theorem d_prog_7_method_5_68 : decode prog_7_method_5_code 68 = .ok (.iinc 7 1, 3) := by decide +kernel
theorem d_prog_7_method_5_71 : decode prog_7_method_5_code 71 = .ok (.goto (-30), 3) := by decide +kernel
theorem d_prog_7_method_5_74 : decode prog_7_method_5_code 74 = .ok (.iload 7, 2) := by decide +kernel
theorem d_prog_7_method_5_76 : decode prog_7_method_5_code 76 = .ok (.invokestatic 40, 3) := by decide +kernel
theorem d_prog_7_method_5_79 : decode prog_7_method_5_code 79 = .ok (.lreturn, 1) := by decide +kernel
theorem d_prog_7_method_6_0 : decode prog_7_method_6_code 0 = .ok (.lload_n 0, 1) := by decide +kernel
theorem d_prog_7_method_6_1 : decode prog_7_method_6_code 1 = .ok (.ldc2_w 44, 3) := by decide +kernel
theorem d_prog_7_method_6_4 : decode prog_7_method_6_code 4 = .ok (.lcmp, 1) := by decide +kernel
theorem d_prog_7_method_6_5 : decode prog_7_method_6_code 5 = .ok (.ifCond .ge 6, 3) := by decide +kernel
theorem d_prog_7_method_6_8 : decode prog_7_method_6_code 8 = .ok (.lload_n 0, 1) := by decide +kernel
theorem d_prog_7_method_6_9 : decode prog_7_method_6_code 9 = .ok (.l2i, 1) := by decide +kernel
theorem d_prog_7_method_6_10 : decode prog_7_method_6_code 10 = .ok (.ireturn, 1) := by decide +kernel
theorem d_prog_7_method_6_11 : decode prog_7_method_6_code 11 = .ok (.bipush 64, 2) := by decide +kernel
theorem d_prog_7_method_6_13 : decode prog_7_method_6_code 13 = .ok (.lload_n 0, 1) := by decide +kernel
theorem d_prog_7_method_6_14 : decode prog_7_method_6_code 14 = .ok (.invokestatic 46, 3) := by decide +kernel
theorem d_prog_7_method_6_17 : decode prog_7_method_6_code 17 = .ok (.isub, 1) := by decide +kernel
theorem d_prog_7_method_6_18 : decode prog_7_method_6_code 18 = .ok (.bipush 8, 2) := by decide +kernel
theorem d_prog_7_method_6_20 : decode prog_7_method_6_code 20 = .ok (.isub, 1) := by decide +kernel
theorem d_prog_7_method_6_21 : decode prog_7_method_6_code 21 = .ok (.istore_n 2, 1) := by decide +kernel
theorem d_prog_7_method_6_22 : decode prog_7_method_6_code 22 = .ok (.sipush 256, 3) := by decide +kernel
theorem d_prog_7_method_6_25 : decode prog_7_method_6_code 25 = .ok (.iload_n 2, 1) := by decide +kernel
theorem d_prog_7_method_6_26 : decode prog_7_method_6_code 26 = .ok (.iconst 1, 1) := by decide +kernel
theorem d_prog_7_method_6_27 : decode prog_7_method_6_code 27 = .ok (.isub, 1) := by decide +kernel
theorem d_prog_7_method_6_28 : decode prog_7_method_6_code 28 = .ok (.sipush 128, 3) := by decide +kernel
theorem d_prog_7_method_6_31 : decode prog_7_method_6_code 31 = .ok (.imul, 1) := by decide +kernel
theorem d_prog_7_method_6_32 : decode prog_7_method_6_code 32 = .ok (.iadd, 1) := by decide +kernel
theorem d_prog_7_method_6_33 : decode prog_7_method_6_code 33 = .ok (.lload_n 0, 1) := by decide +kernel
theorem d_prog_7_method_6_34 : decode prog_7_method_6_code 34 = .ok (.iload_n 2, 1) := by decide +kernel
theorem d_prog_7_method_6_35 : decode prog_7_method_6_code 35 = .ok (.lushr, 1) := by decide +kernel
theorem d_prog_7_method_6_36 : decode prog_7_method_6_code 36 = .ok (.l2i, 1) := by decide +kernel
theorem d_prog_7_method_6_37 : decode prog_7_method_6_code 37 = .ok (.iadd, 1) := by decide +kernel
theorem d_prog_7_method_6_38 : decode prog_7_method_6_code 38 = .ok (.sipush 128, 3) := by decide +kernel
theorem d_prog_7_method_6_41 : decode prog_7_method_6_code 41 = .ok (.isub, 1) := by decide +kernel
theorem d_prog_7_method_6_42 : decode prog_7_method_6_code 42 = .ok (.ireturn, 1) := by decide +kernel
theorem d_prog_7_method_7_0 : decode prog_7_method_7_code 0 = .ok (.iload_n 0, 1) := by decide +kernel
theorem d_prog_7_method_7_1 : decode prog_7_method_7_code 1 = .ok (.sipush 256, 3) := by decide +kernel
theorem d_prog_7_method_7_4 : decode prog_7_method_7_code 4 = .ok (.if_icmp .ge 6, 3) := by decide +kernel
theorem d_prog_7_method_7_7 : decode prog_7_method_7_code 7 = .ok (.iload_n 0, 1) := by decide +kernel
theorem d_prog_7_method_7_8 : decode prog_7_method_7_code 8 = .ok (.i2l, 1) := by decide +kernel
theorem d_prog_7_method_7_9 : decode prog_7_method_7_code 9 = .ok (.lreturn, 1) := by decide +kernel
theorem d_prog_7_method_7_10 : decode prog_7_method_7_code 10 = .ok (.iload_n 0, 1) := by decide +kernel
theorem d_prog_7_method_7_11 : decode prog_7_method_7_code 11 = .ok (.sipush 256, 3) := by decide +kernel
theorem d_prog_7_method_7_14 : decode prog_7_method_7_code 14 = .ok (.isub, 1) := by decide +kernel
theorem d_prog_7_method_7_15 : decode prog_7_method_7_code 15 = .ok (.sipush 128, 3) := by decide +kernel
theorem d_prog_7_method_7_18 : decode prog_7_method_7_code 18 = .ok (.idiv, 1) := by decide +kernel
theorem d_prog_7_method_7_19 : decode prog_7_method_7_code 19 = .ok (.iconst 1, 1) := by decide +kernel
theorem d_prog_7_method_7_20 : decode prog_7_method_7_code 20 = .ok (.iadd, 1) := by decide +kernel
theorem d_prog_7_method_7_21 : decode prog_7_method_7_code 21 = .ok (.istore_n 1, 1) := by decide +kernel
theorem d_prog_7_method_7_22 : decode prog_7_method_7_code 22 = .ok (.iload_n 0, 1) := by decide +kernel
theorem d_prog_7_method_7_23 : decode prog_7_method_7_code 23 = .ok (.sipush 256, 3) := by decide +kernel
theorem d_prog_7_method_7_26 : decode prog_7_method_7_code 26 = .ok (.isub, 1) := by decide +kernel
theorem d_prog_7_method_7_27 : decode prog_7_method_7_code 27 = .ok (.sipush 128, 3) := by decide +kernel
theorem d_prog_7_method_7_30 : decode prog_7_method_7_code 30 = .ok (.irem, 1) := by decide +kernel
theorem d_prog_7_method_7_31 : decode prog_7_method_7_code 31 = .ok (.sipush 128, 3) := by decide +kernel
theorem d_prog_7_method_7_34 : decode prog_7_method_7_code 34 = .ok (.iadd, 1) := by decide +kernel
theorem d_prog_7_method_7_35 : decode prog_7_method_7_code 35 = .ok (.i2l, 1) := by decide +kernel
theorem d_prog_7_method_7_36 : decode prog_7_method_7_code 36 = .ok (.lstore_n 2, 1) := by decide +kernel
theorem d_prog_7_method_7_37 : decode prog_7_method_7_code 37 = .ok (.lload_n 2, 1) := by decide +kernel
theorem d_prog_7_method_7_38 : decode prog_7_method_7_code 38 = .ok (.lconst 1, 1) := by decide +kernel
theorem d_prog_7_method_7_39 : decode prog_7_method_7_code 39 = .ok (.ladd, 1) := by decide +kernel
theorem d_prog_7_method_7_40 : decode prog_7_method_7_code 40 = .ok (.iload_n 1, 1) := by decide +kernel
theorem d_prog_7_method_7_41 : decode prog_7_method_7_code 41 = .ok (.lshl, 1) := by decide +kernel
theorem d_prog_7_method_7_42 : decode prog_7_method_7_code 42 = .ok (.lconst 1, 1) := by decide +kernel
theorem d_prog_7_method_7_43 : decode prog_7_method_7_code 43 = .ok (.lsub, 1) := by decide +kernel
theorem d_prog_7_method_7_44 : decode prog_7_method_7_code 44 = .ok (.lreturn, 1) := by decide +kernel
theorem wd0 {a0 : Array Value} {Z : State} (hw : ∀ d ∈ tables_1, d.before a0 Z = true) : Jvm.Cond.before (Jvm.Cond.classLink "com/example/spokewire/spokewire/cli/LatencyHistogramAddPinLaw" (7 : Nat) "com/example/spokewire/spokewire/cli/LatencyHistogram") a0 Z = true := hw _ (List.mem_of_getElem? (i := 0) rfl)
theorem wd1 {a0 : Array Value} {Z : State} (hw : ∀ d ∈ tables_1, d.before a0 Z = true) : Jvm.Cond.before (Jvm.Cond.instantiable "com/example/spokewire/spokewire/cli/LatencyHistogram" (2 : Nat)) a0 Z = true := hw _ (List.mem_of_getElem? (i := 1) rfl)
theorem wd2 {a0 : Array Value} {Z : State} (hw : ∀ d ∈ tables_1, d.before a0 Z = true) : Jvm.Cond.before (Jvm.Cond.initialized "com/example/spokewire/spokewire/cli/LatencyHistogram") a0 Z = true := hw _ (List.mem_of_getElem? (i := 2) rfl)
theorem wd3 {a0 : Array Value} {Z : State} (hw : ∀ d ∈ tables_1, d.before a0 Z = true) : Jvm.Cond.before (Jvm.Cond.methodLink "com/example/spokewire/spokewire/cli/LatencyHistogramAddPinLaw" (9 : Nat) ({ cls := "com/example/spokewire/spokewire/cli/LatencyHistogram", name := "<init>", desc := "()V" } : Jvm.MethodName)) a0 Z = true := hw _ (List.mem_of_getElem? (i := 3) rfl)
theorem wd4 {a0 : Array Value} {Z : State} (hw : ∀ d ∈ tables_1, d.before a0 Z = true) : Jvm.Cond.before (Jvm.Cond.instanceMethod ({ cls := "com/example/spokewire/spokewire/cli/LatencyHistogram", name := "<init>", desc := "()V" } : Jvm.MethodName)) a0 Z = true := hw _ (List.mem_of_getElem? (i := 4) rfl)
theorem wd5 {a0 : Array Value} {Z : State} (hw : ∀ d ∈ tables_1, d.before a0 Z = true) : Jvm.Cond.before (Jvm.Cond.code ({ cls := "com/example/spokewire/spokewire/cli/LatencyHistogram", name := "<init>", desc := "()V" } : Jvm.MethodName) prog_7_method_1_code (1 : Nat) (Option.none : Option Jvm.ClassFile.FieldType)) a0 Z = true := hw _ (List.mem_of_getElem? (i := 5) rfl)
theorem wd6 {a0 : Array Value} {Z : State} (hw : ∀ d ∈ tables_1, d.before a0 Z = true) : Jvm.Cond.before (Jvm.Cond.methodLink "com/example/spokewire/spokewire/cli/LatencyHistogram" (5 : Nat) ({ cls := "java/lang/Object", name := "<init>", desc := "()V" } : Jvm.MethodName)) a0 Z = true := hw _ (List.mem_of_getElem? (i := 6) rfl)
theorem wd7 {a0 : Array Value} {Z : State} (hw : ∀ d ∈ tables_1, d.before a0 Z = true) : Jvm.Cond.before (Jvm.Cond.instanceMethod ({ cls := "java/lang/Object", name := "<init>", desc := "()V" } : Jvm.MethodName)) a0 Z = true := hw _ (List.mem_of_getElem? (i := 7) rfl)
theorem wd8 {a0 : Array Value} {Z : State} (hw : ∀ d ∈ tables_1, d.before a0 Z = true) : Jvm.Cond.before (Jvm.Cond.code ({ cls := "java/lang/Object", name := "<init>", desc := "()V" } : Jvm.MethodName) object_method_1_code (1 : Nat) (Option.none : Option Jvm.ClassFile.FieldType)) a0 Z = true := hw _ (List.mem_of_getElem? (i := 8) rfl)
theorem wd9 {a0 : Array Value} {Z : State} (hw : ∀ d ∈ tables_1, d.before a0 Z = true) : Jvm.Cond.before (Jvm.Cond.arrayClass Jvm.ClassFile.FieldType.long) a0 Z = true := hw _ (List.mem_of_getElem? (i := 9) rfl)
theorem wd10 {a0 : Array Value} {Z : State} (hw : ∀ d ∈ tables_1, d.before a0 Z = true) : Jvm.Cond.before (Jvm.Cond.fieldLink "com/example/spokewire/spokewire/cli/LatencyHistogram" (11 : Nat) "com/example/spokewire/spokewire/cli/LatencyHistogram" "counts" "[J") a0 Z = true := hw _ (List.mem_of_getElem? (i := 10) rfl)
theorem wd11 {a0 : Array Value} {Z : State} (hw : ∀ d ∈ tables_1, d.before a0 Z = true) : Jvm.Cond.before (Jvm.Cond.laysFinal "com/example/spokewire/spokewire/cli/LatencyHistogram" "com/example/spokewire/spokewire/cli/LatencyHistogram" "counts" "[J") a0 Z = true := hw _ (List.mem_of_getElem? (i := 11) rfl)
theorem wd12 {a0 : Array Value} {Z : State} (hw : ∀ d ∈ tables_1, d.before a0 Z = true) : Jvm.Cond.before (Jvm.Cond.methodLink "com/example/spokewire/spokewire/cli/LatencyHistogramAddPinLaw" (18 : Nat) ({ cls := "com/example/spokewire/spokewire/cli/LatencyHistogram", name := "add", desc := "(Lcom/example/spokewire/spokewire/cli/LatencyHistogram;)V" } : Jvm.MethodName)) a0 Z = true := hw _ (List.mem_of_getElem? (i := 12) rfl)
theorem wd13 {a0 : Array Value} {Z : State} (hw : ∀ d ∈ tables_1, d.before a0 Z = true) : Jvm.Cond.before (Jvm.Cond.declares ({ cls := "com/example/spokewire/spokewire/cli/LatencyHistogram", name := "add", desc := "(Lcom/example/spokewire/spokewire/cli/LatencyHistogram;)V" } : Jvm.MethodName)) a0 Z = true := hw _ (List.mem_of_getElem? (i := 13) rfl)
theorem wd14 {a0 : Array Value} {Z : State} (hw : ∀ d ∈ tables_1, d.before a0 Z = true) : Jvm.Cond.before (Jvm.Cond.instanceMethod ({ cls := "com/example/spokewire/spokewire/cli/LatencyHistogram", name := "add", desc := "(Lcom/example/spokewire/spokewire/cli/LatencyHistogram;)V" } : Jvm.MethodName)) a0 Z = true := hw _ (List.mem_of_getElem? (i := 14) rfl)
theorem wd15 {a0 : Array Value} {Z : State} (hw : ∀ d ∈ tables_1, d.before a0 Z = true) : Jvm.Cond.before (Jvm.Cond.selects "com/example/spokewire/spokewire/cli/LatencyHistogram" ({ cls := "com/example/spokewire/spokewire/cli/LatencyHistogram", name := "add", desc := "(Lcom/example/spokewire/spokewire/cli/LatencyHistogram;)V" } : Jvm.MethodName) ({ cls := "com/example/spokewire/spokewire/cli/LatencyHistogram", name := "add", desc := "(Lcom/example/spokewire/spokewire/cli/LatencyHistogram;)V" } : Jvm.MethodName)) a0 Z = true := hw _ (List.mem_of_getElem? (i := 15) rfl)
theorem wd16 {a0 : Array Value} {Z : State} (hw : ∀ d ∈ tables_1, d.before a0 Z = true) : Jvm.Cond.before (Jvm.Cond.code ({ cls := "com/example/spokewire/spokewire/cli/LatencyHistogram", name := "add", desc := "(Lcom/example/spokewire/spokewire/cli/LatencyHistogram;)V" } : Jvm.MethodName) prog_7_method_3_code (3 : Nat) (Option.none : Option Jvm.ClassFile.FieldType)) a0 Z = true := hw _ (List.mem_of_getElem? (i := 16) rfl)
theorem wd17 {a0 : Array Value} {Z : State} (hw : ∀ d ∈ tables_1, d.before a0 Z = true) : Jvm.Cond.before (Jvm.Cond.fieldLink "com/example/spokewire/spokewire/cli/LatencyHistogram" (25 : Nat) "com/example/spokewire/spokewire/cli/LatencyHistogram" "total" "J") a0 Z = true := hw _ (List.mem_of_getElem? (i := 17) rfl)
theorem wd18 {a0 : Array Value} {Z : State} (hw : ∀ d ∈ tables_1, d.before a0 Z = true) : Jvm.Cond.before (Jvm.Cond.lays "com/example/spokewire/spokewire/cli/LatencyHistogram" "com/example/spokewire/spokewire/cli/LatencyHistogram" "total" "J") a0 Z = true := hw _ (List.mem_of_getElem? (i := 18) rfl)
theorem wd19 {a0 : Array Value} {Z : State} (hw : ∀ d ∈ tables_1, d.before a0 Z = true) : Jvm.Cond.before (Jvm.Cond.methodLink "com/example/spokewire/spokewire/cli/LatencyHistogramAddPinLaw" (22 : Nat) ({ cls := "com/example/spokewire/spokewire/cli/LatencyHistogram", name := "count", desc := "()J" } : Jvm.MethodName)) a0 Z = true := hw _ (List.mem_of_getElem? (i := 19) rfl)
theorem wd20 {a0 : Array Value} {Z : State} (hw : ∀ d ∈ tables_1, d.before a0 Z = true) : Jvm.Cond.before (Jvm.Cond.declares ({ cls := "com/example/spokewire/spokewire/cli/LatencyHistogram", name := "count", desc := "()J" } : Jvm.MethodName)) a0 Z = true := hw _ (List.mem_of_getElem? (i := 20) rfl)
theorem wd21 {a0 : Array Value} {Z : State} (hw : ∀ d ∈ tables_1, d.before a0 Z = true) : Jvm.Cond.before (Jvm.Cond.instanceMethod ({ cls := "com/example/spokewire/spokewire/cli/LatencyHistogram", name := "count", desc := "()J" } : Jvm.MethodName)) a0 Z = true := hw _ (List.mem_of_getElem? (i := 21) rfl)
theorem wd22 {a0 : Array Value} {Z : State} (hw : ∀ d ∈ tables_1, d.before a0 Z = true) : Jvm.Cond.before (Jvm.Cond.selects "com/example/spokewire/spokewire/cli/LatencyHistogram" ({ cls := "com/example/spokewire/spokewire/cli/LatencyHistogram", name := "count", desc := "()J" } : Jvm.MethodName) ({ cls := "com/example/spokewire/spokewire/cli/LatencyHistogram", name := "count", desc := "()J" } : Jvm.MethodName)) a0 Z = true := hw _ (List.mem_of_getElem? (i := 22) rfl)
theorem wd23 {a0 : Array Value} {Z : State} (hw : ∀ d ∈ tables_1, d.before a0 Z = true) : Jvm.Cond.before (Jvm.Cond.code ({ cls := "com/example/spokewire/spokewire/cli/LatencyHistogram", name := "count", desc := "()J" } : Jvm.MethodName) prog_7_method_4_code (1 : Nat) (Option.some Jvm.ClassFile.FieldType.long)) a0 Z = true := hw _ (List.mem_of_getElem? (i := 23) rfl)
theorem wd24 {a0 : Array Value} {Z : State} (hw : ∀ d ∈ tables_1, d.before a0 Z = true) : Jvm.Cond.before (Jvm.Cond.methodLink "com/example/spokewire/spokewire/cli/LatencyHistogramAddPinLaw" (10 : Nat) ({ cls := "com/example/spokewire/spokewire/cli/LatencyHistogram", name := "record", desc := "(J)V" } : Jvm.MethodName)) a0 Z = true := hw _ (List.mem_of_getElem? (i := 24) rfl)
theorem wd25 {a0 : Array Value} {Z : State} (hw : ∀ d ∈ tables_1, d.before a0 Z = true) : Jvm.Cond.before (Jvm.Cond.declares ({ cls := "com/example/spokewire/spokewire/cli/LatencyHistogram", name := "record", desc := "(J)V" } : Jvm.MethodName)) a0 Z = true := hw _ (List.mem_of_getElem? (i := 25) rfl)
theorem wd26 {a0 : Array Value} {Z : State} (hw : ∀ d ∈ tables_1, d.before a0 Z = true) : Jvm.Cond.before (Jvm.Cond.instanceMethod ({ cls := "com/example/spokewire/spokewire/cli/LatencyHistogram", name := "record", desc := "(J)V" } : Jvm.MethodName)) a0 Z = true := hw _ (List.mem_of_getElem? (i := 26) rfl)
theorem wd27 {a0 : Array Value} {Z : State} (hw : ∀ d ∈ tables_1, d.before a0 Z = true) : Jvm.Cond.before (Jvm.Cond.selects "com/example/spokewire/spokewire/cli/LatencyHistogram" ({ cls := "com/example/spokewire/spokewire/cli/LatencyHistogram", name := "record", desc := "(J)V" } : Jvm.MethodName) ({ cls := "com/example/spokewire/spokewire/cli/LatencyHistogram", name := "record", desc := "(J)V" } : Jvm.MethodName)) a0 Z = true := hw _ (List.mem_of_getElem? (i := 27) rfl)
theorem wd28 {a0 : Array Value} {Z : State} (hw : ∀ d ∈ tables_1, d.before a0 Z = true) : Jvm.Cond.before (Jvm.Cond.code ({ cls := "com/example/spokewire/spokewire/cli/LatencyHistogram", name := "record", desc := "(J)V" } : Jvm.MethodName) prog_7_method_2_code (3 : Nat) (Option.none : Option Jvm.ClassFile.FieldType)) a0 Z = true := hw _ (List.mem_of_getElem? (i := 28) rfl)
theorem wd29 {a0 : Array Value} {Z : State} (hw : ∀ d ∈ tables_1, d.before a0 Z = true) : Jvm.Cond.before (Jvm.Cond.methodLink "com/example/spokewire/spokewire/cli/LatencyHistogram" (15 : Nat) ({ cls := "java/lang/Math", name := "max", desc := "(JJ)J" } : Jvm.MethodName)) a0 Z = true := hw _ (List.mem_of_getElem? (i := 29) rfl)
theorem wd30 {a0 : Array Value} {Z : State} (hw : ∀ d ∈ tables_1, d.before a0 Z = true) : Jvm.Cond.before (Jvm.Cond.static ({ cls := "java/lang/Math", name := "max", desc := "(JJ)J" } : Jvm.MethodName)) a0 Z = true := hw _ (List.mem_of_getElem? (i := 30) rfl)
theorem wd31 {a0 : Array Value} {Z : State} (hw : ∀ d ∈ tables_1, d.before a0 Z = true) : Jvm.Cond.before (Jvm.Cond.initialized "java/lang/Math") a0 Z = true := hw _ (List.mem_of_getElem? (i := 31) rfl)
theorem wd32 {a0 : Array Value} {Z : State} (hw : ∀ d ∈ tables_1, d.before a0 Z = true) : Jvm.Cond.before (Jvm.Cond.code ({ cls := "java/lang/Math", name := "max", desc := "(JJ)J" } : Jvm.MethodName) jdk_29_method_66_code (4 : Nat) (Option.some Jvm.ClassFile.FieldType.long)) a0 Z = true := hw _ (List.mem_of_getElem? (i := 32) rfl)
theorem wd33 {a0 : Array Value} {Z : State} (hw : ∀ d ∈ tables_1, d.before a0 Z = true) : Jvm.Cond.before (Jvm.Cond.methodLink "com/example/spokewire/spokewire/cli/LatencyHistogram" (21 : Nat) ({ cls := "com/example/spokewire/spokewire/cli/LatencyHistogram", name := "bucketOf", desc := "(J)I" } : Jvm.MethodName)) a0 Z = true := hw _ (List.mem_of_getElem? (i := 33) rfl)
theorem wd34 {a0 : Array Value} {Z : State} (hw : ∀ d ∈ tables_1, d.before a0 Z = true) : Jvm.Cond.before (Jvm.Cond.static ({ cls := "com/example/spokewire/spokewire/cli/LatencyHistogram", name := "bucketOf", desc := "(J)I" } : Jvm.MethodName)) a0 Z = true := hw _ (List.mem_of_getElem? (i := 34) rfl)
theorem wd35 {a0 : Array Value} {Z : State} (hw : ∀ d ∈ tables_1, d.before a0 Z = true) : Jvm.Cond.before (Jvm.Cond.code ({ cls := "com/example/spokewire/spokewire/cli/LatencyHistogram", name := "bucketOf", desc := "(J)I" } : Jvm.MethodName) prog_7_method_6_code (3 : Nat) (Option.some Jvm.ClassFile.FieldType.int)) a0 Z = true := hw _ (List.mem_of_getElem? (i := 35) rfl)
theorem wd36 {a0 : Array Value} {Z : State} (hw : ∀ d ∈ tables_1, d.before a0 Z = true) : Jvm.Cond.before (Jvm.Cond.constantLong "com/example/spokewire/spokewire/cli/LatencyHistogram" (44 : Nat) (256 : Int64)) a0 Z = true := hw _ (List.mem_of_getElem? (i := 36) rfl)
theorem wd37 {a0 : Array Value} {Z : State} (hw : ∀ d ∈ tables_1, d.before a0 Z = true) : Jvm.Cond.before (Jvm.Cond.methodLink "com/example/spokewire/spokewire/cli/LatencyHistogramAddPinLaw" (14 : Nat) ({ cls := "com/example/spokewire/spokewire/cli/LatencyHistogram", name := "percentile", desc := "(D)J" } : Jvm.MethodName)) a0 Z = true := hw _ (List.mem_of_getElem? (i := 37) rfl)
theorem wd38 {a0 : Array Value} {Z : State} (hw : ∀ d ∈ tables_1, d.before a0 Z = true) : Jvm.Cond.before (Jvm.Cond.declares ({ cls := "com/example/spokewire/spokewire/cli/LatencyHistogram", name := "percentile", desc := "(D)J" } : Jvm.MethodName)) a0 Z = true := hw _ (List.mem_of_getElem? (i := 38) rfl)
theorem wd39 {a0 : Array Value} {Z : State} (hw : ∀ d ∈ tables_1, d.before a0 Z = true) : Jvm.Cond.before (Jvm.Cond.instanceMethod ({ cls := "com/example/spokewire/spokewire/cli/LatencyHistogram", name := "percentile", desc := "(D)J" } : Jvm.MethodName)) a0 Z = true := hw _ (List.mem_of_getElem? (i := 39) rfl)
theorem wd40 {a0 : Array Value} {Z : State} (hw : ∀ d ∈ tables_1, d.before a0 Z = true) : Jvm.Cond.before (Jvm.Cond.selects "com/example/spokewire/spokewire/cli/LatencyHistogram" ({ cls := "com/example/spokewire/spokewire/cli/LatencyHistogram", name := "percentile", desc := "(D)J" } : Jvm.MethodName) ({ cls := "com/example/spokewire/spokewire/cli/LatencyHistogram", name := "percentile", desc := "(D)J" } : Jvm.MethodName)) a0 Z = true := hw _ (List.mem_of_getElem? (i := 40) rfl)
theorem wd41 {a0 : Array Value} {Z : State} (hw : ∀ d ∈ tables_1, d.before a0 Z = true) : Jvm.Cond.before (Jvm.Cond.code ({ cls := "com/example/spokewire/spokewire/cli/LatencyHistogram", name := "percentile", desc := "(D)J" } : Jvm.MethodName) prog_7_method_5_code (8 : Nat) (Option.some Jvm.ClassFile.FieldType.long)) a0 Z = true := hw _ (List.mem_of_getElem? (i := 41) rfl)
theorem wd42 {a0 : Array Value} {Z : State} (hw : ∀ d ∈ tables_1, d.before a0 Z = true) : Jvm.Cond.before (Jvm.Cond.methodLink "com/example/spokewire/spokewire/cli/LatencyHistogram" (36 : Nat) ({ cls := "java/lang/Math", name := "ceil", desc := "(D)D" } : Jvm.MethodName)) a0 Z = true := hw _ (List.mem_of_getElem? (i := 42) rfl)
theorem wd43 {a0 : Array Value} {Z : State} (hw : ∀ d ∈ tables_1, d.before a0 Z = true) : Jvm.Cond.before (Jvm.Cond.static ({ cls := "java/lang/Math", name := "ceil", desc := "(D)D" } : Jvm.MethodName)) a0 Z = true := hw _ (List.mem_of_getElem? (i := 43) rfl)
theorem wd44 {a0 : Array Value} {Z : State} (hw : ∀ d ∈ tables_1, d.before a0 Z = true) : Jvm.Cond.before (Jvm.Cond.code ({ cls := "java/lang/Math", name := "ceil", desc := "(D)D" } : Jvm.MethodName) jdk_29_method_16_code (2 : Nat) (Option.some Jvm.ClassFile.FieldType.double)) a0 Z = true := hw _ (List.mem_of_getElem? (i := 44) rfl)
theorem wd47 {a0 : Array Value} {Z : State} (hw : ∀ d ∈ tables_1, d.before a0 Z = true) : Jvm.Cond.before (Jvm.Cond.initialized "java/lang/StrictMath") a0 Z = true := hw _ (List.mem_of_getElem? (i := 47) rfl)
theorem wd48 {a0 : Array Value} {Z : State} (hw : ∀ d ∈ tables_1, d.before a0 Z = true) : Jvm.Cond.before (Jvm.Cond.code ({ cls := "java/lang/StrictMath", name := "ceil", desc := "(D)D" } : Jvm.MethodName) jdk_128_method_16_code (2 : Nat) (Option.some Jvm.ClassFile.FieldType.double)) a0 Z = true := hw _ (List.mem_of_getElem? (i := 48) rfl)
theorem wd49 {a0 : Array Value} {Z : State} (hw : ∀ d ∈ tables_1, d.before a0 Z = true) : Jvm.Cond.before (Jvm.Cond.constantDouble "java/lang/StrictMath" (58 : Nat) (9223372036854775808 : UInt64)) a0 Z = true := hw _ (List.mem_of_getElem? (i := 49) rfl)
theorem wd50 {a0 : Array Value} {Z : State} (hw : ∀ d ∈ tables_1, d.before a0 Z = true) : Jvm.Cond.before (Jvm.Cond.methodLink "java/lang/StrictMath" (60 : Nat) ({ cls := "java/lang/StrictMath", name := "floorOrCeil", desc := "(DDDD)D" } : Jvm.MethodName)) a0 Z = true := hw _ (List.mem_of_getElem? (i := 50) rfl)
theorem wd51 {a0 : Array Value} {Z : State} (hw : ∀ d ∈ tables_1, d.before a0 Z = true) : Jvm.Cond.before (Jvm.Cond.static ({ cls := "java/lang/StrictMath", name := "floorOrCeil", desc := "(DDDD)D" } : Jvm.MethodName)) a0 Z = true := hw _ (List.mem_of_getElem? (i := 51) rfl)
theorem wd52 {a0 : Array Value} {Z : State} (hw : ∀ d ∈ tables_1, d.before a0 Z = true) : Jvm.Cond.before (Jvm.Cond.code ({ cls := "java/lang/StrictMath", name := "floorOrCeil", desc := "(DDDD)D" } : Jvm.MethodName) jdk_128_method_18_code (15 : Nat) (Option.some Jvm.ClassFile.FieldType.double)) a0 Z = true := hw _ (List.mem_of_getElem? (i := 52) rfl)
theorem wd53 {a0 : Array Value} {Z : State} (hw : ∀ d ∈ tables_1, d.before a0 Z = true) : Jvm.Cond.before (Jvm.Cond.methodLink "java/lang/StrictMath" (66 : Nat) ({ cls := "java/lang/Math", name := "getExponent", desc := "(D)I" } : Jvm.MethodName)) a0 Z = true := hw _ (List.mem_of_getElem? (i := 53) rfl)
theorem wd54 {a0 : Array Value} {Z : State} (hw : ∀ d ∈ tables_1, d.before a0 Z = true) : Jvm.Cond.before (Jvm.Cond.static ({ cls := "java/lang/Math", name := "getExponent", desc := "(D)I" } : Jvm.MethodName)) a0 Z = true := hw _ (List.mem_of_getElem? (i := 54) rfl)
theorem wd55 {a0 : Array Value} {Z : State} (hw : ∀ d ∈ tables_1, d.before a0 Z = true) : Jvm.Cond.before (Jvm.Cond.code ({ cls := "java/lang/Math", name := "getExponent", desc := "(D)I" } : Jvm.MethodName) jdk_29_method_92_code (2 : Nat) (Option.some Jvm.ClassFile.FieldType.int)) a0 Z = true := hw _ (List.mem_of_getElem? (i := 55) rfl)
theorem wd56 {a0 : Array Value} {Z : State} (hw : ∀ d ∈ tables_1, d.before a0 Z = true) : Jvm.Cond.before (Jvm.Cond.methodLink "java/lang/Math" (79 : Nat) ({ cls := "java/lang/Double", name := "doubleToRawLongBits", desc := "(D)J" } : Jvm.MethodName)) a0 Z = true := hw _ (List.mem_of_getElem? (i := 56) rfl)
theorem wd57 {a0 : Array Value} {Z : State} (hw : ∀ d ∈ tables_1, d.before a0 Z = true) : Jvm.Cond.before (Jvm.Cond.static ({ cls := "java/lang/Double", name := "doubleToRawLongBits", desc := "(D)J" } : Jvm.MethodName)) a0 Z = true := hw _ (List.mem_of_getElem? (i := 57) rfl)
theorem wd58 {a0 : Array Value} {Z : State} (hw : ∀ d ∈ tables_1, d.before a0 Z = true) : Jvm.Cond.before (Jvm.Cond.initialized "java/lang/Double") a0 Z = true := hw _ (List.mem_of_getElem? (i := 58) rfl)
theorem wd59 {a0 : Array Value} {Z : State} (hw : ∀ d ∈ tables_1, d.before a0 Z = true) : Jvm.Cond.before (Jvm.Cond.native ({ cls := "java/lang/Double", name := "doubleToRawLongBits", desc := "(D)J" } : Jvm.MethodName)) a0 Z = true := hw _ (List.mem_of_getElem? (i := 59) rfl)
theorem wd60 {a0 : Array Value} {Z : State} (hw : ∀ d ∈ tables_1, d.before a0 Z = true) : Jvm.Cond.before (Jvm.Cond.constantLong "java/lang/Math" (87 : Nat) (9218868437227405312 : Int64)) a0 Z = true := hw _ (List.mem_of_getElem? (i := 60) rfl)
theorem wd61 {a0 : Array Value} {Z : State} (hw : ∀ d ∈ tables_1, d.before a0 Z = true) : Jvm.Cond.before (Jvm.Cond.constantLong "java/lang/Math" (322 : Nat) (1023 : Int64)) a0 Z = true := hw _ (List.mem_of_getElem? (i := 61) rfl)
theorem wd62 {a0 : Array Value} {Z : State} (hw : ∀ d ∈ tables_1, d.before a0 Z = true) : Jvm.Cond.before (Jvm.Cond.fieldLink "java/lang/StrictMath" (70 : Nat) "java/lang/StrictMath" "$assertionsDisabled" "Z") a0 Z = true := hw _ (List.mem_of_getElem? (i := 62) rfl)
theorem wd63 {a0 : Array Value} {Z : State} (hw : ∀ d ∈ tables_1, d.before a0 Z = true) : Jvm.Cond.before (Jvm.Cond.methodLink "java/lang/StrictMath" (77 : Nat) ({ cls := "java/lang/Double", name := "doubleToRawLongBits", desc := "(D)J" } : Jvm.MethodName)) a0 Z = true := hw _ (List.mem_of_getElem? (i := 63) rfl)
theorem wd64 {a0 : Array Value} {Z : State} (hw : ∀ d ∈ tables_1, d.before a0 Z = true) : Jvm.Cond.before (Jvm.Cond.constantLong "java/lang/StrictMath" (85 : Nat) (4503599627370495 : Int64)) a0 Z = true := hw _ (List.mem_of_getElem? (i := 64) rfl)
theorem wd65 {a0 : Array Value} {Z : State} (hw : ∀ d ∈ tables_1, d.before a0 Z = true) : Jvm.Cond.before (Jvm.Cond.methodLink "com/example/spokewire/spokewire/cli/LatencyHistogram" (40 : Nat) ({ cls := "com/example/spokewire/spokewire/cli/LatencyHistogram", name := "highestOf", desc := "(I)J" } : Jvm.MethodName)) a0 Z = true := hw _ (List.mem_of_getElem? (i := 65) rfl)
theorem wd66 {a0 : Array Value} {Z : State} (hw : ∀ d ∈ tables_1, d.before a0 Z = true) : Jvm.Cond.before (Jvm.Cond.static ({ cls := "com/example/spokewire/spokewire/cli/LatencyHistogram", name := "highestOf", desc := "(I)J" } : Jvm.MethodName)) a0 Z = true := hw _ (List.mem_of_getElem? (i := 66) rfl)
theorem wd67 {a0 : Array Value} {Z : State} (hw : ∀ d ∈ tables_1, d.before a0 Z = true) : Jvm.Cond.before (Jvm.Cond.code ({ cls := "com/example/spokewire/spokewire/cli/LatencyHistogram", name := "highestOf", desc := "(I)J" } : Jvm.MethodName) prog_7_method_7_code (4 : Nat) (Option.some Jvm.ClassFile.FieldType.long)) a0 Z = true := hw _ (List.mem_of_getElem? (i := 67) rfl)
theorem wd68 {a0 : Array Value} {Z : State} (hw : ∀ d ∈ tables_1, d.before a0 Z = true) : Jvm.Cond.before (Jvm.Cond.methodLink "com/example/spokewire/spokewire/cli/LatencyHistogramAddPinLaw" (26 : Nat) ({ cls := "java/lang/Math", name := "min", desc := "(JJ)J" } : Jvm.MethodName)) a0 Z = true := hw _ (List.mem_of_getElem? (i := 68) rfl)
theorem wd69 {a0 : Array Value} {Z : State} (hw : ∀ d ∈ tables_1, d.before a0 Z = true) : Jvm.Cond.before (Jvm.Cond.static ({ cls := "java/lang/Math", name := "min", desc := "(JJ)J" } : Jvm.MethodName)) a0 Z = true := hw _ (List.mem_of_getElem? (i := 69) rfl)
theorem wd70 {a0 : Array Value} {Z : State} (hw : ∀ d ∈ tables_1, d.before a0 Z = true) : Jvm.Cond.before (Jvm.Cond.code ({ cls := "java/lang/Math", name := "min", desc := "(JJ)J" } : Jvm.MethodName) jdk_29_method_70_code (4 : Nat) (Option.some Jvm.ClassFile.FieldType.long)) a0 Z = true := hw _ (List.mem_of_getElem? (i := 70) rfl)
theorem wd71 {a0 : Array Value} {Z : State} (hw : ∀ d ∈ tables_1, d.before a0 Z = true) : Jvm.Cond.before (Jvm.Cond.methodLink "com/example/spokewire/spokewire/cli/LatencyHistogramAddPinLaw" (32 : Nat) ({ cls := "java/lang/Math", name := "max", desc := "(JJ)J" } : Jvm.MethodName)) a0 Z = true := hw _ (List.mem_of_getElem? (i := 71) rfl)
theorem wd72 {a0 : Array Value} {Z : State} (hw : ∀ d ∈ tables_1, d.before a0 Z = true) : Jvm.Cond.before (Jvm.Cond.constantDouble "com/example/spokewire/spokewire/cli/LatencyHistogramAddPinLaw" (35 : Nat) (4602678819172646912 : UInt64)) a0 Z = true := hw _ (List.mem_of_getElem? (i := 72) rfl)
theorem wd73 {a0 : Array Value} {Z : State} (hw : ∀ d ∈ tables_1, d.before a0 Z = true) : Jvm.Cond.before (Jvm.Cond.methodLink "com/example/spokewire/spokewire/cli/LatencyHistogram" (46 : Nat) ({ cls := "java/lang/Long", name := "numberOfLeadingZeros", desc := "(J)I" } : Jvm.MethodName)) a0 Z = true := hw _ (List.mem_of_getElem? (i := 73) rfl)
theorem wd74 {a0 : Array Value} {Z : State} (hw : ∀ d ∈ tables_1, d.before a0 Z = true) : Jvm.Cond.before (Jvm.Cond.static ({ cls := "java/lang/Long", name := "numberOfLeadingZeros", desc := "(J)I" } : Jvm.MethodName)) a0 Z = true := hw _ (List.mem_of_getElem? (i := 74) rfl)
theorem wd75 {a0 : Array Value} {Z : State} (hw : ∀ d ∈ tables_1, d.before a0 Z = true) : Jvm.Cond.before (Jvm.Cond.initialized "java/lang/Long") a0 Z = true := hw _ (List.mem_of_getElem? (i := 75) rfl)
theorem wd76 {a0 : Array Value} {Z : State} (hw : ∀ d ∈ tables_1, d.before a0 Z = true) : Jvm.Cond.before (Jvm.Cond.code ({ cls := "java/lang/Long", name := "numberOfLeadingZeros", desc := "(J)I" } : Jvm.MethodName) jdk_35_method_48_code (3 : Nat) (Option.some Jvm.ClassFile.FieldType.int)) a0 Z = true := hw _ (List.mem_of_getElem? (i := 76) rfl)
theorem wd77 {a0 : Array Value} {Z : State} (hw : ∀ d ∈ tables_1, d.before a0 Z = true) : Jvm.Cond.before (Jvm.Cond.methodLink "java/lang/Long" (308 : Nat) ({ cls := "java/lang/Integer", name := "numberOfLeadingZeros", desc := "(I)I" } : Jvm.MethodName)) a0 Z = true := hw _ (List.mem_of_getElem? (i := 77) rfl)
theorem wd78 {a0 : Array Value} {Z : State} (hw : ∀ d ∈ tables_1, d.before a0 Z = true) : Jvm.Cond.before (Jvm.Cond.static ({ cls := "java/lang/Integer", name := "numberOfLeadingZeros", desc := "(I)I" } : Jvm.MethodName)) a0 Z = true := hw _ (List.mem_of_getElem? (i := 78) rfl)
theorem wd79 {a0 : Array Value} {Z : State} (hw : ∀ d ∈ tables_1, d.before a0 Z = true) : Jvm.Cond.before (Jvm.Cond.initialized "java/lang/Integer") a0 Z = true := hw _ (List.mem_of_getElem? (i := 79) rfl)
theorem wd80 {a0 : Array Value} {Z : State} (hw : ∀ d ∈ tables_1, d.before a0 Z = true) : Jvm.Cond.before (Jvm.Cond.code ({ cls := "java/lang/Integer", name := "numberOfLeadingZeros", desc := "(I)I" } : Jvm.MethodName) jdk_33_method_47_code (2 : Nat) (Option.some Jvm.ClassFile.FieldType.int)) a0 Z = true := hw _ (List.mem_of_getElem? (i := 80) rfl)
theorem wd81 {a0 : Array Value} {Z : State} (hw : ∀ d ∈ tables_1, d.before a0 Z = true) : Jvm.Cond.before (Jvm.Cond.constant "java/lang/Integer" (264 : Nat) (65536 : Int32)) a0 Z = true := hw _ (List.mem_of_getElem? (i := 81) rfl)
theorem sn_LatencyHistogram_total_counts {a0 : Array Value} {Z : State} (hw : ∀ d ∈ tables_1, d.before a0 Z = true) : Jvm.RoadKit.slotOf Z "com/example/spokewire/spokewire/cli/LatencyHistogram" "total" "J" ≠ Jvm.RoadKit.slotOf Z "com/example/spokewire/spokewire/cli/LatencyHistogram" "counts" "[J" := slot_ne (C := "com/example/spokewire/spokewire/cli/LatencyHistogram") (a0 := a0) (t := .long) (t' := (.array .long)) (Or.inl (wd18 hw)) (Or.inr (wd11 hw)) (by decide) (by decide) (by decide)
theorem sn_LatencyHistogram_counts_total {a0 : Array Value} {Z : State} (hw : ∀ d ∈ tables_1, d.before a0 Z = true) : Jvm.RoadKit.slotOf Z "com/example/spokewire/spokewire/cli/LatencyHistogram" "counts" "[J" ≠ Jvm.RoadKit.slotOf Z "com/example/spokewire/spokewire/cli/LatencyHistogram" "total" "J" := slot_ne (C := "com/example/spokewire/spokewire/cli/LatencyHistogram") (a0 := a0) (t := (.array .long)) (t' := .long) (Or.inr (wd11 hw)) (Or.inl (wd18 hw)) (by decide) (by decide) (by decide)
theorem own_nat {n : Nat} (h : n ≤ 3) : (Int64.ofNat n).toInt = n := by
  have : n = 0 ∨ n = 1 ∨ n = 2 ∨ n = 3 := by omega
  rcases this with rfl | rfl | rfl | rfl <;> decide
theorem pd0 : parseMethodDescriptor "(DDDD)D" = some ⟨[.double, .double, .double, .double], some .double⟩ := by decide +kernel
theorem pd1 : parseMethodDescriptor "(D)I" = some ⟨[.double], some .int⟩ := by decide +kernel
theorem pd2 : parseMethodDescriptor "(I)I" = some ⟨[.int], some .int⟩ := by decide +kernel
theorem pd3 : parseMethodDescriptor "(J)I" = some ⟨[.long], some .int⟩ := by decide +kernel
theorem pd4 : parseMethodDescriptor "(JJ)J" = some ⟨[.long, .long], some .long⟩ := by decide +kernel
theorem pd5 : parseMethodDescriptor "(I)J" = some ⟨[.int], some .long⟩ := by decide +kernel
theorem pd6 : parseMethodDescriptor "()V" = some ⟨[], none⟩ := by decide +kernel
theorem pd7 : parseMethodDescriptor "(Lcom/example/spokewire/spokewire/cli/LatencyHistogram;)V" = some ⟨[(.object "com/example/spokewire/spokewire/cli/LatencyHistogram")], none⟩ := by decide +kernel
theorem pd8 : parseMethodDescriptor "()J" = some ⟨[], some .long⟩ := by decide +kernel
theorem pd9 : parseMethodDescriptor "(J)V" = some ⟨[.long], none⟩ := by decide +kernel
theorem pd10 : parseMethodDescriptor "(D)J" = some ⟨[.double], some .long⟩ := by decide +kernel
theorem pn0 : plainName "java/lang/Integer" = true := by first | (simp [plainName, overriddenIn]; done) | decide +kernel
theorem pn1 : plainName "java/lang/Long" = true := by first | (simp [plainName, overriddenIn]; done) | decide +kernel
theorem pn2 : plainName "com/example/spokewire/spokewire/cli/LatencyHistogram" = true := by first | (simp [plainName, overriddenIn]; done) | decide +kernel
theorem pn3 : plainName "com/example/spokewire/spokewire/cli/LatencyHistogramAddPinLaw" = true := by first | (simp [plainName, overriddenIn]; done) | decide +kernel
open Jvm.OwnRaw (GoR Kr FinN StaR fR)
set_option maxRecDepth 65536 in
set_option maxHeartbeats 40000000 in
theorem go_ceil0 {p : Program} {l : Launch} {e : Env} {below : List Frame} {s Z : State} {a0 : Array Value} (hx : p.tables.exec = Jvm.exec) (hZ : Z.Warmed39 s.vm) (hw : ∀ d ∈ tables_1, d.before a0 Z = true) {h : Heap} (V : StaR s h "java/lang/StrictMath" "$assertionsDisabled" "Z" (.int 1)) (T : State) (F : List Frame) (hadm : l.admits e) (eT : T.heap = h) (hm : ∃ mid, F = mid ++ below) (h1 : F.length + 6 ≤ (e.platform.stackLimits T.me).1) (h2 : stackWeight F + 140 ≤ (e.platform.stackLimits T.me).2) (N : NFrame) (F0 : List Frame) (hN : F = .native N :: F0) (mS : MethodId) (methS : Method) (cS : Code) (K1 : Kr "java/lang/StrictMath" jdk_128_method_16_code 2 (some .double) s mS methS cS) :
    GoR (FinN s T N F0 (.double (4607182418800017408 : UInt64))) p e below s T F mS cS (fR mS 0 #[.val (.double (4602678819172646912 : UInt64)), .second] []) := by
  have V' : StaR s T.heap "java/lang/StrictMath" "$assertionsDisabled" "Z" (.int 1) := by rw [eT]; exact V
  subst hN
  obtain ⟨mid, hmid⟩ := hm
  refine Jvm.OwnRaw.dloadN hx K1 d_jdk_128_method_16_0 rfl (pc' := 1) rfl ?_
  refine Jvm.OwnRaw.ldc2D hx K1 (mvT (args := #[]) hZ (wd49 hw)) d_jdk_128_method_16_1 (pc' := 4) rfl ?_
  refine Jvm.OwnRaw.dconst1 hx K1 d_jdk_128_method_16_4 (v := (4607182418800017408 : UInt64)) rfl (pc' := 5) rfl ?_
  refine Jvm.OwnRaw.dconst1 hx K1 d_jdk_128_method_16_5 (v := (4607182418800017408 : UInt64)) rfl (pc' := 6) rfl ?_
  refine Jvm.OwnRaw.rCall hadm hx K1 (y := (⟨"java/lang/StrictMath", "floorOrCeil", "(DDDD)D"⟩ : MethodName)) (argsL := [(.double (4602678819172646912 : UInt64)), (.double (9223372036854775808 : UInt64)), (.double (4607182418800017408 : UInt64)), (.double (4607182418800017408 : UInt64))]) (S := []) (Ls' := #[.val (.double (4602678819172646912 : UInt64)), .second, .val (.double (9223372036854775808 : UInt64)), .second, .val (.double (4607182418800017408 : UInt64)), .second, .val (.double (4607182418800017408 : UInt64)), .second, .unset, .unset, .unset, .unset, .unset, .unset, .unset]) (mvT (args := #[]) hZ (wd50 hw)) (mvT (args := #[]) hZ (wd51 hw)) (mvT (args := #[]) hZ (wd47 hw)) (mvT (args := #[]) hZ (wd52 hw)) (by decide +kernel) (by decide) (lenOf pd0 rfl) (fun _ => by first | (simp [entryFrame, fR, argsToLocals, Value.category]; done) | rfl) d_jdk_128_method_16_6 (by simp only [List.length_cons] at h1 ⊢; omega) (by show 11 + 2 + 0 + stackWeight _ + 15 + 11 ≤ _; omega) rfl ?_
  intro m2 meth_m2 c_m2 K2
  refine Jvm.OwnRaw.dloadN hx K2 d_jdk_128_method_18_0 rfl (pc' := 1) rfl ?_
  refine Jvm.OwnRaw.rCall hadm hx K2 (y := (⟨"java/lang/Math", "getExponent", "(D)I"⟩ : MethodName)) (argsL := [(.double (4602678819172646912 : UInt64))]) (S := []) (Ls' := #[.val (.double (4602678819172646912 : UInt64)), .second]) (mvT (args := #[]) hZ (wd53 hw)) (mvT (args := #[]) hZ (wd54 hw)) (mvT (args := #[]) hZ (wd31 hw)) (mvT (args := #[]) hZ (wd55 hw)) (by decide +kernel) (by decide) (lenOf pd1 rfl) (fun _ => by first | (simp [entryFrame, fR, argsToLocals, Value.category]; done) | rfl) d_jdk_128_method_18_1 (by simp only [List.length_cons] at h1 ⊢; omega) (by rw [OwnRaw.wt]; show 11 + 15 + 0 + (11 + 2 + 0 + stackWeight _) + 2 + 11 ≤ _; omega) rfl ?_
  intro m3 meth_m3 c_m3 K3
  refine Jvm.OwnRaw.dloadN hx K3 d_jdk_29_method_92_0 rfl (pc' := 1) rfl ?_
  refine Jvm.OwnRaw.rBits hadm hx K3 (mvT (args := #[]) hZ (wd56 hw)) (mvT (args := #[]) hZ (wd59 hw)) (mvT (args := #[]) hZ (wd57 hw)) (mvT (args := #[]) hZ (wd58 hw)) d_jdk_29_method_92_1 (by simp only [List.length_cons] at h1 ⊢; omega) (by rw [OwnRaw.wt, OwnRaw.wt]; show 11 + 2 + 0 + (11 + 15 + 0 + (11 + 2 + 0 + stackWeight _)) + 4 + 11 ≤ _; omega) ?_
  show GoR _ _ _ _ _ _ _ _ _ (fR m3 4 #[.val (.double (4602678819172646912 : UInt64)), .second] [(.long ((4602678819172646912 : UInt64)).toInt64)])
  refine Jvm.OwnRaw.ldc2J hx K3 (mvT (args := #[]) hZ (wd60 hw)) d_jdk_29_method_92_4 (pc' := 7) rfl ?_
  refine Jvm.OwnRaw.land hx K3 d_jdk_29_method_92_7 (pc' := 8) rfl ?_
  refine Jvm.OwnRaw.bipush hx K3 (52 : Int32) d_jdk_29_method_92_8 (by decide) (pc' := 10) rfl ?_
  refine Jvm.OwnRaw.lshr hx K3 d_jdk_29_method_92_10 (pc' := 11) rfl ?_
  refine Jvm.OwnRaw.ldc2J hx K3 (mvT (args := #[]) hZ (wd61 hw)) d_jdk_29_method_92_11 (pc' := 14) rfl ?_
  refine Jvm.OwnRaw.lsub hx K3 d_jdk_29_method_92_14 (pc' := 15) rfl ?_
  refine Jvm.OwnRaw.l2i hx K3 d_jdk_29_method_92_15 (pc' := 16) rfl ?_
  refine Jvm.OwnRaw.rRet hx K3 K2 (Or.inl ⟨d_jdk_29_method_92_16, rfl, _, rfl⟩) d_jdk_128_method_18_1 ⟨_ :: mid, by rw [hmid]; rfl⟩ ?_
  show GoR _ _ _ _ _ _ _ _ _ (fR m2 4 #[.val (.double (4602678819172646912 : UInt64)), .second, .val (.double (9223372036854775808 : UInt64)), .second, .val (.double (4607182418800017408 : UInt64)), .second, .val (.double (4607182418800017408 : UInt64)), .second, .unset, .unset, .unset, .unset, .unset, .unset, .unset] [(.int ((((((4602678819172646912 : UInt64)).toInt64 &&& (9218868437227405312 : Int64)) >>> (((52 : Int32)).toInt64 &&& 63)) - (1023 : Int64))).toInt32)])
  refine Jvm.OwnRaw.istore hx K2 d_jdk_128_method_18_4 (Ls' := #[.val (.double (4602678819172646912 : UInt64)), .second, .val (.double (9223372036854775808 : UInt64)), .second, .val (.double (4607182418800017408 : UInt64)), .second, .val (.double (4607182418800017408 : UInt64)), .second, .val (.int ((((((4602678819172646912 : UInt64)).toInt64 &&& (9218868437227405312 : Int64)) >>> (((52 : Int32)).toInt64 &&& 63)) - (1023 : Int64))).toInt32), .unset, .unset, .unset, .unset, .unset, .unset]) rfl (pc' := 6) rfl ?_
  refine Jvm.OwnRaw.iload hx K2 d_jdk_128_method_18_6 rfl (pc' := 8) rfl ?_
  refine Jvm.OwnRaw.ifN hx K2 d_jdk_128_method_18_8 (by decide +kernel) (pc' := 11) rfl ?_
  refine Jvm.OwnRaw.dloadN hx K2 d_jdk_128_method_18_11 rfl (pc' := 12) rfl ?_
  refine Jvm.OwnRaw.dconst0 hx K2 d_jdk_128_method_18_12 (v := (0 : UInt64)) rfl (pc' := 13) rfl ?_
  refine Jvm.OwnRaw.dcmp hx K2 d_jdk_128_method_18_13 (pc' := 14) rfl ?_
  refine Jvm.OwnRaw.ifY hx K2 d_jdk_128_method_18_14 (by decide +kernel) (pc' := 21) (by decide) (by decide) ?_
  refine Jvm.OwnRaw.dloadN hx K2 d_jdk_128_method_18_21 rfl (pc' := 22) rfl ?_
  refine Jvm.OwnRaw.dconst0 hx K2 d_jdk_128_method_18_22 (v := (0 : UInt64)) rfl (pc' := 23) rfl ?_
  refine Jvm.OwnRaw.dcmp hx K2 d_jdk_128_method_18_23 (pc' := 24) rfl ?_
  refine Jvm.OwnRaw.ifY hx K2 d_jdk_128_method_18_24 (by decide +kernel) (pc' := 31) (by decide) (by decide) ?_
  refine Jvm.OwnRaw.dload hx K2 d_jdk_128_method_18_31 rfl (pc' := 33) rfl ?_
  refine Jvm.OwnRaw.rRet hx K2 K1 (Or.inr ⟨d_jdk_128_method_18_33, rfl, _, rfl⟩) d_jdk_128_method_16_6 ⟨mid, hmid⟩ ?_
  show GoR _ _ _ _ _ _ _ _ _ (fR mS 9 #[.val (.double (4602678819172646912 : UInt64)), .second] [(.double (4607182418800017408 : UInt64))])
  exact Jvm.OwnRaw.rRetN hx K1 d_jdk_128_method_16_9
set_option maxRecDepth 65536 in
set_option maxHeartbeats 40000000 in
theorem go_ceil1 {p : Program} {l : Launch} {e : Env} {below : List Frame} {s Z : State} {a0 : Array Value} (hx : p.tables.exec = Jvm.exec) (hZ : Z.Warmed39 s.vm) (hw : ∀ d ∈ tables_1, d.before a0 Z = true) {h : Heap} (V : StaR s h "java/lang/StrictMath" "$assertionsDisabled" "Z" (.int 1)) (T : State) (F : List Frame) (hadm : l.admits e) (eT : T.heap = h) (hm : ∃ mid, F = mid ++ below) (h1 : F.length + 6 ≤ (e.platform.stackLimits T.me).1) (h2 : stackWeight F + 140 ≤ (e.platform.stackLimits T.me).2) (N : NFrame) (F0 : List Frame) (hN : F = .native N :: F0) (mS : MethodId) (methS : Method) (cS : Code) (K1 : Kr "java/lang/StrictMath" jdk_128_method_16_code 2 (some .double) s mS methS cS) :
    GoR (FinN s T N F0 (.double (4607182418800017408 : UInt64))) p e below s T F mS cS (fR mS 0 #[.val (.double (4607182418800017408 : UInt64)), .second] []) := by
  have V' : StaR s T.heap "java/lang/StrictMath" "$assertionsDisabled" "Z" (.int 1) := by rw [eT]; exact V
  subst hN
  obtain ⟨mid, hmid⟩ := hm
  refine Jvm.OwnRaw.dloadN hx K1 d_jdk_128_method_16_0 rfl (pc' := 1) rfl ?_
  refine Jvm.OwnRaw.ldc2D hx K1 (mvT (args := #[]) hZ (wd49 hw)) d_jdk_128_method_16_1 (pc' := 4) rfl ?_
  refine Jvm.OwnRaw.dconst1 hx K1 d_jdk_128_method_16_4 (v := (4607182418800017408 : UInt64)) rfl (pc' := 5) rfl ?_
  refine Jvm.OwnRaw.dconst1 hx K1 d_jdk_128_method_16_5 (v := (4607182418800017408 : UInt64)) rfl (pc' := 6) rfl ?_
  refine Jvm.OwnRaw.rCall hadm hx K1 (y := (⟨"java/lang/StrictMath", "floorOrCeil", "(DDDD)D"⟩ : MethodName)) (argsL := [(.double (4607182418800017408 : UInt64)), (.double (9223372036854775808 : UInt64)), (.double (4607182418800017408 : UInt64)), (.double (4607182418800017408 : UInt64))]) (S := []) (Ls' := #[.val (.double (4607182418800017408 : UInt64)), .second, .val (.double (9223372036854775808 : UInt64)), .second, .val (.double (4607182418800017408 : UInt64)), .second, .val (.double (4607182418800017408 : UInt64)), .second, .unset, .unset, .unset, .unset, .unset, .unset, .unset]) (mvT (args := #[]) hZ (wd50 hw)) (mvT (args := #[]) hZ (wd51 hw)) (mvT (args := #[]) hZ (wd47 hw)) (mvT (args := #[]) hZ (wd52 hw)) (by decide +kernel) (by decide) (lenOf pd0 rfl) (fun _ => by first | (simp [entryFrame, fR, argsToLocals, Value.category]; done) | rfl) d_jdk_128_method_16_6 (by simp only [List.length_cons] at h1 ⊢; omega) (by show 11 + 2 + 0 + stackWeight _ + 15 + 11 ≤ _; omega) rfl ?_
  intro m2 meth_m2 c_m2 K2
  refine Jvm.OwnRaw.dloadN hx K2 d_jdk_128_method_18_0 rfl (pc' := 1) rfl ?_
  refine Jvm.OwnRaw.rCall hadm hx K2 (y := (⟨"java/lang/Math", "getExponent", "(D)I"⟩ : MethodName)) (argsL := [(.double (4607182418800017408 : UInt64))]) (S := []) (Ls' := #[.val (.double (4607182418800017408 : UInt64)), .second]) (mvT (args := #[]) hZ (wd53 hw)) (mvT (args := #[]) hZ (wd54 hw)) (mvT (args := #[]) hZ (wd31 hw)) (mvT (args := #[]) hZ (wd55 hw)) (by decide +kernel) (by decide) (lenOf pd1 rfl) (fun _ => by first | (simp [entryFrame, fR, argsToLocals, Value.category]; done) | rfl) d_jdk_128_method_18_1 (by simp only [List.length_cons] at h1 ⊢; omega) (by rw [OwnRaw.wt]; show 11 + 15 + 0 + (11 + 2 + 0 + stackWeight _) + 2 + 11 ≤ _; omega) rfl ?_
  intro m3 meth_m3 c_m3 K3
  refine Jvm.OwnRaw.dloadN hx K3 d_jdk_29_method_92_0 rfl (pc' := 1) rfl ?_
  refine Jvm.OwnRaw.rBits hadm hx K3 (mvT (args := #[]) hZ (wd56 hw)) (mvT (args := #[]) hZ (wd59 hw)) (mvT (args := #[]) hZ (wd57 hw)) (mvT (args := #[]) hZ (wd58 hw)) d_jdk_29_method_92_1 (by simp only [List.length_cons] at h1 ⊢; omega) (by rw [OwnRaw.wt, OwnRaw.wt]; show 11 + 2 + 0 + (11 + 15 + 0 + (11 + 2 + 0 + stackWeight _)) + 4 + 11 ≤ _; omega) ?_
  show GoR _ _ _ _ _ _ _ _ _ (fR m3 4 #[.val (.double (4607182418800017408 : UInt64)), .second] [(.long ((4607182418800017408 : UInt64)).toInt64)])
  refine Jvm.OwnRaw.ldc2J hx K3 (mvT (args := #[]) hZ (wd60 hw)) d_jdk_29_method_92_4 (pc' := 7) rfl ?_
  refine Jvm.OwnRaw.land hx K3 d_jdk_29_method_92_7 (pc' := 8) rfl ?_
  refine Jvm.OwnRaw.bipush hx K3 (52 : Int32) d_jdk_29_method_92_8 (by decide) (pc' := 10) rfl ?_
  refine Jvm.OwnRaw.lshr hx K3 d_jdk_29_method_92_10 (pc' := 11) rfl ?_
  refine Jvm.OwnRaw.ldc2J hx K3 (mvT (args := #[]) hZ (wd61 hw)) d_jdk_29_method_92_11 (pc' := 14) rfl ?_
  refine Jvm.OwnRaw.lsub hx K3 d_jdk_29_method_92_14 (pc' := 15) rfl ?_
  refine Jvm.OwnRaw.l2i hx K3 d_jdk_29_method_92_15 (pc' := 16) rfl ?_
  refine Jvm.OwnRaw.rRet hx K3 K2 (Or.inl ⟨d_jdk_29_method_92_16, rfl, _, rfl⟩) d_jdk_128_method_18_1 ⟨_ :: mid, by rw [hmid]; rfl⟩ ?_
  show GoR _ _ _ _ _ _ _ _ _ (fR m2 4 #[.val (.double (4607182418800017408 : UInt64)), .second, .val (.double (9223372036854775808 : UInt64)), .second, .val (.double (4607182418800017408 : UInt64)), .second, .val (.double (4607182418800017408 : UInt64)), .second, .unset, .unset, .unset, .unset, .unset, .unset, .unset] [(.int ((((((4607182418800017408 : UInt64)).toInt64 &&& (9218868437227405312 : Int64)) >>> (((52 : Int32)).toInt64 &&& 63)) - (1023 : Int64))).toInt32)])
  refine Jvm.OwnRaw.istore hx K2 d_jdk_128_method_18_4 (Ls' := #[.val (.double (4607182418800017408 : UInt64)), .second, .val (.double (9223372036854775808 : UInt64)), .second, .val (.double (4607182418800017408 : UInt64)), .second, .val (.double (4607182418800017408 : UInt64)), .second, .val (.int ((((((4607182418800017408 : UInt64)).toInt64 &&& (9218868437227405312 : Int64)) >>> (((52 : Int32)).toInt64 &&& 63)) - (1023 : Int64))).toInt32), .unset, .unset, .unset, .unset, .unset, .unset]) rfl (pc' := 6) rfl ?_
  refine Jvm.OwnRaw.iload hx K2 d_jdk_128_method_18_6 rfl (pc' := 8) rfl ?_
  refine Jvm.OwnRaw.ifY hx K2 d_jdk_128_method_18_8 (by decide +kernel) (pc' := 34) (by decide) (by decide) ?_
  refine Jvm.OwnRaw.iload hx K2 d_jdk_128_method_18_34 rfl (pc' := 36) rfl ?_
  refine Jvm.OwnRaw.bipush hx K2 (52 : Int32) d_jdk_128_method_18_36 (by decide) (pc' := 38) rfl ?_
  refine Jvm.OwnRaw.icY hx K2 d_jdk_128_method_18_38 (by decide +kernel) (pc' := 43) (by decide) (by decide) ?_
  refine Jvm.OwnRaw.rGets hadm hx K2 (mvT (args := #[]) hZ (wd62 hw)) V' d_jdk_128_method_18_43 ?_
  show GoR _ _ _ _ _ _ _ _ _ (fR m2 46 #[.val (.double (4607182418800017408 : UInt64)), .second, .val (.double (9223372036854775808 : UInt64)), .second, .val (.double (4607182418800017408 : UInt64)), .second, .val (.double (4607182418800017408 : UInt64)), .second, .val (.int ((((((4607182418800017408 : UInt64)).toInt64 &&& (9218868437227405312 : Int64)) >>> (((52 : Int32)).toInt64 &&& 63)) - (1023 : Int64))).toInt32), .unset, .unset, .unset, .unset, .unset, .unset] [(.int 1)])
  refine Jvm.OwnRaw.ifY hx K2 d_jdk_128_method_18_46 (by decide +kernel) (pc' := 69) (by decide) (by decide) ?_
  refine Jvm.OwnRaw.dloadN hx K2 d_jdk_128_method_18_69 rfl (pc' := 70) rfl ?_
  refine Jvm.OwnRaw.rBits hadm hx K2 (mvT (args := #[]) hZ (wd63 hw)) (mvT (args := #[]) hZ (wd59 hw)) (mvT (args := #[]) hZ (wd57 hw)) (mvT (args := #[]) hZ (wd58 hw)) d_jdk_128_method_18_70 (by simp only [List.length_cons] at h1 ⊢; omega) (by rw [OwnRaw.wt]; show 11 + 15 + 0 + (11 + 2 + 0 + stackWeight _) + 4 + 11 ≤ _; omega) ?_
  show GoR _ _ _ _ _ _ _ _ _ (fR m2 73 #[.val (.double (4607182418800017408 : UInt64)), .second, .val (.double (9223372036854775808 : UInt64)), .second, .val (.double (4607182418800017408 : UInt64)), .second, .val (.double (4607182418800017408 : UInt64)), .second, .val (.int ((((((4607182418800017408 : UInt64)).toInt64 &&& (9218868437227405312 : Int64)) >>> (((52 : Int32)).toInt64 &&& 63)) - (1023 : Int64))).toInt32), .unset, .unset, .unset, .unset, .unset, .unset] [(.long ((4607182418800017408 : UInt64)).toInt64)])
  refine Jvm.OwnRaw.lstore hx K2 d_jdk_128_method_18_73 (Ls' := #[.val (.double (4607182418800017408 : UInt64)), .second, .val (.double (9223372036854775808 : UInt64)), .second, .val (.double (4607182418800017408 : UInt64)), .second, .val (.double (4607182418800017408 : UInt64)), .second, .val (.int ((((((4607182418800017408 : UInt64)).toInt64 &&& (9218868437227405312 : Int64)) >>> (((52 : Int32)).toInt64 &&& 63)) - (1023 : Int64))).toInt32), .val (.long ((4607182418800017408 : UInt64)).toInt64), .second, .unset, .unset, .unset, .unset]) rfl (pc' := 75) rfl ?_
  refine Jvm.OwnRaw.ldc2J hx K2 (mvT (args := #[]) hZ (wd64 hw)) d_jdk_128_method_18_75 (pc' := 78) rfl ?_
  refine Jvm.OwnRaw.iload hx K2 d_jdk_128_method_18_78 rfl (pc' := 80) rfl ?_
  refine Jvm.OwnRaw.lshr hx K2 d_jdk_128_method_18_80 (pc' := 81) rfl ?_
  refine Jvm.OwnRaw.lstore hx K2 d_jdk_128_method_18_81 (Ls' := #[.val (.double (4607182418800017408 : UInt64)), .second, .val (.double (9223372036854775808 : UInt64)), .second, .val (.double (4607182418800017408 : UInt64)), .second, .val (.double (4607182418800017408 : UInt64)), .second, .val (.int ((((((4607182418800017408 : UInt64)).toInt64 &&& (9218868437227405312 : Int64)) >>> (((52 : Int32)).toInt64 &&& 63)) - (1023 : Int64))).toInt32), .val (.long ((4607182418800017408 : UInt64)).toInt64), .second, .val (.long ((4503599627370495 : Int64) >>> ((((((((4607182418800017408 : UInt64)).toInt64 &&& (9218868437227405312 : Int64)) >>> (((52 : Int32)).toInt64 &&& 63)) - (1023 : Int64))).toInt32).toInt64 &&& 63))), .second, .unset, .unset]) rfl (pc' := 83) rfl ?_
  refine Jvm.OwnRaw.lload hx K2 d_jdk_128_method_18_83 rfl (pc' := 85) rfl ?_
  refine Jvm.OwnRaw.lload hx K2 d_jdk_128_method_18_85 rfl (pc' := 87) rfl ?_
  refine Jvm.OwnRaw.land hx K2 d_jdk_128_method_18_87 (pc' := 88) rfl ?_
  refine Jvm.OwnRaw.lconst hx K2 (0 : Int64) d_jdk_128_method_18_88 (by decide) (pc' := 89) rfl ?_
  refine Jvm.OwnRaw.lcmp hx K2 d_jdk_128_method_18_89 (pc' := 90) rfl ?_
  refine Jvm.OwnRaw.ifN hx K2 d_jdk_128_method_18_90 (by decide +kernel) (pc' := 93) rfl ?_
  refine Jvm.OwnRaw.dloadN hx K2 d_jdk_128_method_18_93 rfl (pc' := 94) rfl ?_
  refine Jvm.OwnRaw.rRet hx K2 K1 (Or.inr ⟨d_jdk_128_method_18_94, rfl, _, rfl⟩) d_jdk_128_method_16_6 ⟨mid, hmid⟩ ?_
  show GoR _ _ _ _ _ _ _ _ _ (fR mS 9 #[.val (.double (4607182418800017408 : UInt64)), .second] [(.double (4607182418800017408 : UInt64))])
  exact Jvm.OwnRaw.rRetN hx K1 d_jdk_128_method_16_9
set_option maxRecDepth 65536 in
set_option maxHeartbeats 40000000 in
theorem go_ceil2 {p : Program} {l : Launch} {e : Env} {below : List Frame} {s Z : State} {a0 : Array Value} (hx : p.tables.exec = Jvm.exec) (hZ : Z.Warmed39 s.vm) (hw : ∀ d ∈ tables_1, d.before a0 Z = true) {h : Heap} (V : StaR s h "java/lang/StrictMath" "$assertionsDisabled" "Z" (.int 1)) (T : State) (F : List Frame) (hadm : l.admits e) (eT : T.heap = h) (hm : ∃ mid, F = mid ++ below) (h1 : F.length + 6 ≤ (e.platform.stackLimits T.me).1) (h2 : stackWeight F + 140 ≤ (e.platform.stackLimits T.me).2) (N : NFrame) (F0 : List Frame) (hN : F = .native N :: F0) (mS : MethodId) (methS : Method) (cS : Code) (K1 : Kr "java/lang/StrictMath" jdk_128_method_16_code 2 (some .double) s mS methS cS) :
    GoR (FinN s T N F0 (.double (4611686018427387904 : UInt64))) p e below s T F mS cS (fR mS 0 #[.val (.double (4611686018427387904 : UInt64)), .second] []) := by
  have V' : StaR s T.heap "java/lang/StrictMath" "$assertionsDisabled" "Z" (.int 1) := by rw [eT]; exact V
  subst hN
  obtain ⟨mid, hmid⟩ := hm
  refine Jvm.OwnRaw.dloadN hx K1 d_jdk_128_method_16_0 rfl (pc' := 1) rfl ?_
  refine Jvm.OwnRaw.ldc2D hx K1 (mvT (args := #[]) hZ (wd49 hw)) d_jdk_128_method_16_1 (pc' := 4) rfl ?_
  refine Jvm.OwnRaw.dconst1 hx K1 d_jdk_128_method_16_4 (v := (4607182418800017408 : UInt64)) rfl (pc' := 5) rfl ?_
  refine Jvm.OwnRaw.dconst1 hx K1 d_jdk_128_method_16_5 (v := (4607182418800017408 : UInt64)) rfl (pc' := 6) rfl ?_
  refine Jvm.OwnRaw.rCall hadm hx K1 (y := (⟨"java/lang/StrictMath", "floorOrCeil", "(DDDD)D"⟩ : MethodName)) (argsL := [(.double (4611686018427387904 : UInt64)), (.double (9223372036854775808 : UInt64)), (.double (4607182418800017408 : UInt64)), (.double (4607182418800017408 : UInt64))]) (S := []) (Ls' := #[.val (.double (4611686018427387904 : UInt64)), .second, .val (.double (9223372036854775808 : UInt64)), .second, .val (.double (4607182418800017408 : UInt64)), .second, .val (.double (4607182418800017408 : UInt64)), .second, .unset, .unset, .unset, .unset, .unset, .unset, .unset]) (mvT (args := #[]) hZ (wd50 hw)) (mvT (args := #[]) hZ (wd51 hw)) (mvT (args := #[]) hZ (wd47 hw)) (mvT (args := #[]) hZ (wd52 hw)) (by decide +kernel) (by decide) (lenOf pd0 rfl) (fun _ => by first | (simp [entryFrame, fR, argsToLocals, Value.category]; done) | rfl) d_jdk_128_method_16_6 (by simp only [List.length_cons] at h1 ⊢; omega) (by show 11 + 2 + 0 + stackWeight _ + 15 + 11 ≤ _; omega) rfl ?_
  intro m2 meth_m2 c_m2 K2
  refine Jvm.OwnRaw.dloadN hx K2 d_jdk_128_method_18_0 rfl (pc' := 1) rfl ?_
  refine Jvm.OwnRaw.rCall hadm hx K2 (y := (⟨"java/lang/Math", "getExponent", "(D)I"⟩ : MethodName)) (argsL := [(.double (4611686018427387904 : UInt64))]) (S := []) (Ls' := #[.val (.double (4611686018427387904 : UInt64)), .second]) (mvT (args := #[]) hZ (wd53 hw)) (mvT (args := #[]) hZ (wd54 hw)) (mvT (args := #[]) hZ (wd31 hw)) (mvT (args := #[]) hZ (wd55 hw)) (by decide +kernel) (by decide) (lenOf pd1 rfl) (fun _ => by first | (simp [entryFrame, fR, argsToLocals, Value.category]; done) | rfl) d_jdk_128_method_18_1 (by simp only [List.length_cons] at h1 ⊢; omega) (by rw [OwnRaw.wt]; show 11 + 15 + 0 + (11 + 2 + 0 + stackWeight _) + 2 + 11 ≤ _; omega) rfl ?_
  intro m3 meth_m3 c_m3 K3
  refine Jvm.OwnRaw.dloadN hx K3 d_jdk_29_method_92_0 rfl (pc' := 1) rfl ?_
  refine Jvm.OwnRaw.rBits hadm hx K3 (mvT (args := #[]) hZ (wd56 hw)) (mvT (args := #[]) hZ (wd59 hw)) (mvT (args := #[]) hZ (wd57 hw)) (mvT (args := #[]) hZ (wd58 hw)) d_jdk_29_method_92_1 (by simp only [List.length_cons] at h1 ⊢; omega) (by rw [OwnRaw.wt, OwnRaw.wt]; show 11 + 2 + 0 + (11 + 15 + 0 + (11 + 2 + 0 + stackWeight _)) + 4 + 11 ≤ _; omega) ?_
  show GoR _ _ _ _ _ _ _ _ _ (fR m3 4 #[.val (.double (4611686018427387904 : UInt64)), .second] [(.long ((4611686018427387904 : UInt64)).toInt64)])
  refine Jvm.OwnRaw.ldc2J hx K3 (mvT (args := #[]) hZ (wd60 hw)) d_jdk_29_method_92_4 (pc' := 7) rfl ?_
  refine Jvm.OwnRaw.land hx K3 d_jdk_29_method_92_7 (pc' := 8) rfl ?_
  refine Jvm.OwnRaw.bipush hx K3 (52 : Int32) d_jdk_29_method_92_8 (by decide) (pc' := 10) rfl ?_
  refine Jvm.OwnRaw.lshr hx K3 d_jdk_29_method_92_10 (pc' := 11) rfl ?_
  refine Jvm.OwnRaw.ldc2J hx K3 (mvT (args := #[]) hZ (wd61 hw)) d_jdk_29_method_92_11 (pc' := 14) rfl ?_
  refine Jvm.OwnRaw.lsub hx K3 d_jdk_29_method_92_14 (pc' := 15) rfl ?_
  refine Jvm.OwnRaw.l2i hx K3 d_jdk_29_method_92_15 (pc' := 16) rfl ?_
  refine Jvm.OwnRaw.rRet hx K3 K2 (Or.inl ⟨d_jdk_29_method_92_16, rfl, _, rfl⟩) d_jdk_128_method_18_1 ⟨_ :: mid, by rw [hmid]; rfl⟩ ?_
  show GoR _ _ _ _ _ _ _ _ _ (fR m2 4 #[.val (.double (4611686018427387904 : UInt64)), .second, .val (.double (9223372036854775808 : UInt64)), .second, .val (.double (4607182418800017408 : UInt64)), .second, .val (.double (4607182418800017408 : UInt64)), .second, .unset, .unset, .unset, .unset, .unset, .unset, .unset] [(.int ((((((4611686018427387904 : UInt64)).toInt64 &&& (9218868437227405312 : Int64)) >>> (((52 : Int32)).toInt64 &&& 63)) - (1023 : Int64))).toInt32)])
  refine Jvm.OwnRaw.istore hx K2 d_jdk_128_method_18_4 (Ls' := #[.val (.double (4611686018427387904 : UInt64)), .second, .val (.double (9223372036854775808 : UInt64)), .second, .val (.double (4607182418800017408 : UInt64)), .second, .val (.double (4607182418800017408 : UInt64)), .second, .val (.int ((((((4611686018427387904 : UInt64)).toInt64 &&& (9218868437227405312 : Int64)) >>> (((52 : Int32)).toInt64 &&& 63)) - (1023 : Int64))).toInt32), .unset, .unset, .unset, .unset, .unset, .unset]) rfl (pc' := 6) rfl ?_
  refine Jvm.OwnRaw.iload hx K2 d_jdk_128_method_18_6 rfl (pc' := 8) rfl ?_
  refine Jvm.OwnRaw.ifY hx K2 d_jdk_128_method_18_8 (by decide +kernel) (pc' := 34) (by decide) (by decide) ?_
  refine Jvm.OwnRaw.iload hx K2 d_jdk_128_method_18_34 rfl (pc' := 36) rfl ?_
  refine Jvm.OwnRaw.bipush hx K2 (52 : Int32) d_jdk_128_method_18_36 (by decide) (pc' := 38) rfl ?_
  refine Jvm.OwnRaw.icY hx K2 d_jdk_128_method_18_38 (by decide +kernel) (pc' := 43) (by decide) (by decide) ?_
  refine Jvm.OwnRaw.rGets hadm hx K2 (mvT (args := #[]) hZ (wd62 hw)) V' d_jdk_128_method_18_43 ?_
  show GoR _ _ _ _ _ _ _ _ _ (fR m2 46 #[.val (.double (4611686018427387904 : UInt64)), .second, .val (.double (9223372036854775808 : UInt64)), .second, .val (.double (4607182418800017408 : UInt64)), .second, .val (.double (4607182418800017408 : UInt64)), .second, .val (.int ((((((4611686018427387904 : UInt64)).toInt64 &&& (9218868437227405312 : Int64)) >>> (((52 : Int32)).toInt64 &&& 63)) - (1023 : Int64))).toInt32), .unset, .unset, .unset, .unset, .unset, .unset] [(.int 1)])
  refine Jvm.OwnRaw.ifY hx K2 d_jdk_128_method_18_46 (by decide +kernel) (pc' := 69) (by decide) (by decide) ?_
  refine Jvm.OwnRaw.dloadN hx K2 d_jdk_128_method_18_69 rfl (pc' := 70) rfl ?_
  refine Jvm.OwnRaw.rBits hadm hx K2 (mvT (args := #[]) hZ (wd63 hw)) (mvT (args := #[]) hZ (wd59 hw)) (mvT (args := #[]) hZ (wd57 hw)) (mvT (args := #[]) hZ (wd58 hw)) d_jdk_128_method_18_70 (by simp only [List.length_cons] at h1 ⊢; omega) (by rw [OwnRaw.wt]; show 11 + 15 + 0 + (11 + 2 + 0 + stackWeight _) + 4 + 11 ≤ _; omega) ?_
  show GoR _ _ _ _ _ _ _ _ _ (fR m2 73 #[.val (.double (4611686018427387904 : UInt64)), .second, .val (.double (9223372036854775808 : UInt64)), .second, .val (.double (4607182418800017408 : UInt64)), .second, .val (.double (4607182418800017408 : UInt64)), .second, .val (.int ((((((4611686018427387904 : UInt64)).toInt64 &&& (9218868437227405312 : Int64)) >>> (((52 : Int32)).toInt64 &&& 63)) - (1023 : Int64))).toInt32), .unset, .unset, .unset, .unset, .unset, .unset] [(.long ((4611686018427387904 : UInt64)).toInt64)])
  refine Jvm.OwnRaw.lstore hx K2 d_jdk_128_method_18_73 (Ls' := #[.val (.double (4611686018427387904 : UInt64)), .second, .val (.double (9223372036854775808 : UInt64)), .second, .val (.double (4607182418800017408 : UInt64)), .second, .val (.double (4607182418800017408 : UInt64)), .second, .val (.int ((((((4611686018427387904 : UInt64)).toInt64 &&& (9218868437227405312 : Int64)) >>> (((52 : Int32)).toInt64 &&& 63)) - (1023 : Int64))).toInt32), .val (.long ((4611686018427387904 : UInt64)).toInt64), .second, .unset, .unset, .unset, .unset]) rfl (pc' := 75) rfl ?_
  refine Jvm.OwnRaw.ldc2J hx K2 (mvT (args := #[]) hZ (wd64 hw)) d_jdk_128_method_18_75 (pc' := 78) rfl ?_
  refine Jvm.OwnRaw.iload hx K2 d_jdk_128_method_18_78 rfl (pc' := 80) rfl ?_
  refine Jvm.OwnRaw.lshr hx K2 d_jdk_128_method_18_80 (pc' := 81) rfl ?_
  refine Jvm.OwnRaw.lstore hx K2 d_jdk_128_method_18_81 (Ls' := #[.val (.double (4611686018427387904 : UInt64)), .second, .val (.double (9223372036854775808 : UInt64)), .second, .val (.double (4607182418800017408 : UInt64)), .second, .val (.double (4607182418800017408 : UInt64)), .second, .val (.int ((((((4611686018427387904 : UInt64)).toInt64 &&& (9218868437227405312 : Int64)) >>> (((52 : Int32)).toInt64 &&& 63)) - (1023 : Int64))).toInt32), .val (.long ((4611686018427387904 : UInt64)).toInt64), .second, .val (.long ((4503599627370495 : Int64) >>> ((((((((4611686018427387904 : UInt64)).toInt64 &&& (9218868437227405312 : Int64)) >>> (((52 : Int32)).toInt64 &&& 63)) - (1023 : Int64))).toInt32).toInt64 &&& 63))), .second, .unset, .unset]) rfl (pc' := 83) rfl ?_
  refine Jvm.OwnRaw.lload hx K2 d_jdk_128_method_18_83 rfl (pc' := 85) rfl ?_
  refine Jvm.OwnRaw.lload hx K2 d_jdk_128_method_18_85 rfl (pc' := 87) rfl ?_
  refine Jvm.OwnRaw.land hx K2 d_jdk_128_method_18_87 (pc' := 88) rfl ?_
  refine Jvm.OwnRaw.lconst hx K2 (0 : Int64) d_jdk_128_method_18_88 (by decide) (pc' := 89) rfl ?_
  refine Jvm.OwnRaw.lcmp hx K2 d_jdk_128_method_18_89 (pc' := 90) rfl ?_
  refine Jvm.OwnRaw.ifN hx K2 d_jdk_128_method_18_90 (by decide +kernel) (pc' := 93) rfl ?_
  refine Jvm.OwnRaw.dloadN hx K2 d_jdk_128_method_18_93 rfl (pc' := 94) rfl ?_
  refine Jvm.OwnRaw.rRet hx K2 K1 (Or.inr ⟨d_jdk_128_method_18_94, rfl, _, rfl⟩) d_jdk_128_method_16_6 ⟨mid, hmid⟩ ?_
  show GoR _ _ _ _ _ _ _ _ _ (fR mS 9 #[.val (.double (4611686018427387904 : UInt64)), .second] [(.double (4611686018427387904 : UInt64))])
  exact Jvm.OwnRaw.rRetN hx K1 d_jdk_128_method_16_9
open Jvm.OwnHist
theorem own_max (x y : Int64) : (if x < y then y else x).toInt = max x.toInt y.toInt := by
  split <;> rename_i q <;> rw [Int64.lt_iff_toInt_lt] at q <;> omega
theorem own_min (x y : Int64) : (if y < x then y else x).toInt = min x.toInt y.toInt := by
  split <;> rename_i q <;> rw [Int64.lt_iff_toInt_lt] at q <;> omega
/-- a recorded value as a number -/
def nv (x : Int64) : Nat := x.toInt.toNat
theorem nv_lt (x : Int64) : nv x < 2 ^ 63 := by have := x.toInt_lt; unfold nv; omega
theorem nv_max (x : Int64) {y : Int64} (h : y.toInt = max x.toInt 0) : 0 ≤ y.toInt ∧ y.toInt.toNat = nv x := by unfold nv; omega
set_option maxRecDepth 65536 in
set_option maxHeartbeats 40000000 in
theorem c_max (l : Launch) (Z : State) (a0 : Array Value) (hw : ∀ d ∈ tables_1, d.before a0 Z = true) (ws : List Jvm.Cond) (x y : Int64) (h0 : Heap) (n0 : Nat) (Z0 : n0 ≤ h0.size) :
    Ctr l Z (⟨"java/lang/Math", "max", "(JJ)J"⟩ : MethodName) jdk_29_method_66_code 4 (some .long) ws ({ frames := 0, cells := 0, slots := 0, locals := 0 } : Room) n0 #[(.long x), (.long y)] h0 (fun v h => ∃ r : Int64, v = some (.long r) ∧ h0 = h ∧ r.toInt = max x.toInt y.toInt) := by
  refine ctr (own := "java/lang/Math") (nm := "max") rfl rfl (Ls := #[.val (.long x), .second, .val (.long y), .second]) (by decide +kernel) (fun m => by first | (simp [entryFrame, mkF, argsToLocals, Value.category]; done) | rfl) ?_
  intro p e s m below meth c K eh
  refine Jvm.OwnWp.lloadN K d_jdk_29_method_66_0 rfl (pc' := 1) rfl ?_
  refine Jvm.OwnWp.lloadN K d_jdk_29_method_66_1 rfl (pc' := 2) rfl ?_
  refine Jvm.OwnWp.lcmp K d_jdk_29_method_66_2 (pc' := 3) rfl ?_
  by_cases c1 : x < y
  · refine ifY K d_jdk_29_method_66_3 (XT.ll_lt_t c1) (pc' := 10) (by decide) (by decide) ?_
    refine Jvm.OwnWp.lloadN K d_jdk_29_method_66_10 rfl (pc' := 11) rfl ?_
    refine retL K rfl d_jdk_29_method_66_11 (Nat.le_of_ble_eq_true rfl) (Nat.le_of_ble_eq_true rfl) ?_
    exact ⟨_, rfl, rfl, by have q := own_max x y; rwa [if_pos c1] at q⟩
  · refine ifN K d_jdk_29_method_66_3 (XT.ll_lt_f c1) (pc' := 6) rfl ?_
    refine Jvm.OwnWp.lloadN K d_jdk_29_method_66_6 rfl (pc' := 7) rfl ?_
    refine goto' K d_jdk_29_method_66_7 (pc' := 11) (by decide) (by decide) ?_
    refine retL K rfl d_jdk_29_method_66_11 (Nat.le_of_ble_eq_true rfl) (Nat.le_of_ble_eq_true rfl) ?_
    exact ⟨_, rfl, rfl, by have q := own_max x y; rwa [if_neg c1] at q⟩
set_option maxRecDepth 65536 in
set_option maxHeartbeats 40000000 in
theorem c_min (l : Launch) (Z : State) (a0 : Array Value) (hw : ∀ d ∈ tables_1, d.before a0 Z = true) (ws : List Jvm.Cond) (x y : Int64) (h0 : Heap) (n0 : Nat) (Z0 : n0 ≤ h0.size) :
    Ctr l Z (⟨"java/lang/Math", "min", "(JJ)J"⟩ : MethodName) jdk_29_method_70_code 4 (some .long) ws ({ frames := 0, cells := 0, slots := 0, locals := 0 } : Room) n0 #[(.long x), (.long y)] h0 (fun v h => ∃ r : Int64, v = some (.long r) ∧ h0 = h ∧ r.toInt = min x.toInt y.toInt) := by
  refine ctr (own := "java/lang/Math") (nm := "min") rfl rfl (Ls := #[.val (.long x), .second, .val (.long y), .second]) (by decide +kernel) (fun m => by first | (simp [entryFrame, mkF, argsToLocals, Value.category]; done) | rfl) ?_
  intro p e s m below meth c K eh
  refine Jvm.OwnWp.lloadN K d_jdk_29_method_70_0 rfl (pc' := 1) rfl ?_
  refine Jvm.OwnWp.lloadN K d_jdk_29_method_70_1 rfl (pc' := 2) rfl ?_
  refine Jvm.OwnWp.lcmp K d_jdk_29_method_70_2 (pc' := 3) rfl ?_
  by_cases c1 : y < x
  · refine ifY K d_jdk_29_method_70_3 (XT.ll_gt_t c1) (pc' := 10) (by decide) (by decide) ?_
    refine Jvm.OwnWp.lloadN K d_jdk_29_method_70_10 rfl (pc' := 11) rfl ?_
    refine retL K rfl d_jdk_29_method_70_11 (Nat.le_of_ble_eq_true rfl) (Nat.le_of_ble_eq_true rfl) ?_
    exact ⟨_, rfl, rfl, by have q := own_min x y; rwa [if_pos c1] at q⟩
  · refine ifN K d_jdk_29_method_70_3 (XT.ll_gt_f c1) (pc' := 6) rfl ?_
    refine Jvm.OwnWp.lloadN K d_jdk_29_method_70_6 rfl (pc' := 7) rfl ?_
    refine goto' K d_jdk_29_method_70_7 (pc' := 11) (by decide) (by decide) ?_
    refine retL K rfl d_jdk_29_method_70_11 (Nat.le_of_ble_eq_true rfl) (Nat.le_of_ble_eq_true rfl) ?_
    exact ⟨_, rfl, rfl, by have q := own_min x y; rwa [if_neg c1] at q⟩
set_option maxRecDepth 65536 in
set_option maxHeartbeats 40000000 in
theorem c_nlz32 (l : Launch) (Z : State) (a0 : Array Value) (hw : ∀ d ∈ tables_1, d.before a0 Z = true) (ws : List Jvm.Cond) (x : Int32) (h0 : Heap) (n0 : Nat) (Z0 : n0 ≤ h0.size) (nx : x ≠ 0) :
    Ctr l Z (⟨"java/lang/Integer", "numberOfLeadingZeros", "(I)I"⟩ : MethodName) jdk_33_method_47_code 2 (some .int) ws ({ frames := 0, cells := 0, slots := 0, locals := 0 } : Room) n0 #[(.int x)] h0 (fun v h => ∃ r : Int32, v = some (.int r) ∧ h0 = h ∧ r.toInt = 31 - (Nat.log2 x.toBitVec.toNat : Int)) := by
  refine ctr (own := "java/lang/Integer") (nm := "numberOfLeadingZeros") rfl rfl (Ls := #[.val (.int x), .unset]) (plainFor_of_name pn0) (fun m => by first | (simp [entryFrame, mkF, argsToLocals, Value.category]; done) | rfl) ?_
  intro p e s m below meth c K eh
  refine Jvm.OwnWp.iloadN K d_jdk_33_method_47_0 rfl (pc' := 1) rfl ?_
  by_cases c1 : 0 < x
  · refine ifY K d_jdk_33_method_47_1 (XT.i0_gt_t c1) (pc' := 15) (by decide) (by decide) ?_
    refine Jvm.OwnWp.bipush K (31 : Int32) d_jdk_33_method_47_15 (by decide) (pc' := 17) rfl ?_
    refine Jvm.OwnWp.istoreN K d_jdk_33_method_47_17 (Ls' := #[.val (.int x), .val (.int (31 : Int32))]) rfl (pc' := 18) rfl ?_
    refine Jvm.OwnWp.iloadN K d_jdk_33_method_47_18 rfl (pc' := 19) rfl ?_
    refine Jvm.OwnWp.ldcWI K (wd81 hw) d_jdk_33_method_47_19 (pc' := 22) rfl ?_
    have J0 : ∀ (iu0 nu0 : Int32) (q0 : NInv (31 - (Nat.log2 x.toBitVec.toNat : Int)) 16 iu0 nu0), Go p l e ({ frames := 0, cells := 0, slots := 0, locals := 0 } : Room) s m #[(.int x)] below meth c n0 h0 0 0 (mkF m 33 #[.val (.int iu0), .val (.int nu0)] []) (fun v h => ∃ r : Int32, v = some (.int r) ∧ h0 = h ∧ r.toInt = 31 - (Nat.log2 x.toBitVec.toNat : Int)) := by
      intro iu0 nu0 q0
      refine Jvm.OwnWp.iloadN K d_jdk_33_method_47_33 rfl (pc' := 34) rfl ?_
      refine Jvm.OwnWp.sipush K (256 : Int32) d_jdk_33_method_47_34 (by decide) (pc' := 37) rfl ?_
      have J1 : ∀ (iu1 nu1 : Int32) (q1 : NInv (31 - (Nat.log2 x.toBitVec.toNat : Int)) 8 iu1 nu1), Go p l e ({ frames := 0, cells := 0, slots := 0, locals := 0 } : Room) s m #[(.int x)] below meth c n0 h0 0 0 (mkF m 48 #[.val (.int iu1), .val (.int nu1)] []) (fun v h => ∃ r : Int32, v = some (.int r) ∧ h0 = h ∧ r.toInt = 31 - (Nat.log2 x.toBitVec.toNat : Int)) := by
        intro iu1 nu1 q1
        refine Jvm.OwnWp.iloadN K d_jdk_33_method_47_48 rfl (pc' := 49) rfl ?_
        refine Jvm.OwnWp.bipush K (16 : Int32) d_jdk_33_method_47_49 (by decide) (pc' := 51) rfl ?_
        have J2 : ∀ (iu2 nu2 : Int32) (q2 : NInv (31 - (Nat.log2 x.toBitVec.toNat : Int)) 4 iu2 nu2), Go p l e ({ frames := 0, cells := 0, slots := 0, locals := 0 } : Room) s m #[(.int x)] below meth c n0 h0 0 0 (mkF m 61 #[.val (.int iu2), .val (.int nu2)] []) (fun v h => ∃ r : Int32, v = some (.int r) ∧ h0 = h ∧ r.toInt = 31 - (Nat.log2 x.toBitVec.toNat : Int)) := by
          intro iu2 nu2 q2
          refine Jvm.OwnWp.iloadN K d_jdk_33_method_47_61 rfl (pc' := 62) rfl ?_
          refine Jvm.OwnWp.iconst K (4 : Int32) d_jdk_33_method_47_62 (by decide) (pc' := 63) rfl ?_
          have J3 : ∀ (iu3 nu3 : Int32) (q3 : NInv (31 - (Nat.log2 x.toBitVec.toNat : Int)) 2 iu3 nu3), Go p l e ({ frames := 0, cells := 0, slots := 0, locals := 0 } : Room) s m #[(.int x)] below meth c n0 h0 0 0 (mkF m 73 #[.val (.int iu3), .val (.int nu3)] []) (fun v h => ∃ r : Int32, v = some (.int r) ∧ h0 = h ∧ r.toInt = 31 - (Nat.log2 x.toBitVec.toNat : Int)) := by
            intro iu3 nu3 q3
            refine Jvm.OwnWp.iloadN K d_jdk_33_method_47_73 rfl (pc' := 74) rfl ?_
            refine Jvm.OwnWp.iloadN K d_jdk_33_method_47_74 rfl (pc' := 75) rfl ?_
            refine Jvm.OwnWp.iconst K (1 : Int32) d_jdk_33_method_47_75 (by decide) (pc' := 76) rfl ?_
            refine Jvm.OwnWp.iushr K d_jdk_33_method_47_76 (pc' := 77) rfl ?_
            refine Jvm.OwnWp.isub K d_jdk_33_method_47_77 (pc' := 78) rfl ?_
            refine retI K rfl d_jdk_33_method_47_78 (Nat.le_of_ble_eq_true rfl) (Nat.le_of_ble_eq_true rfl) ?_
            exact ⟨_, rfl, rfl, n_end q3⟩
          by_cases c5 : iu2 < (4 : Int32)
          · refine icY K d_jdk_33_method_47_63 (XT.ii_lt_t c5) (pc' := 73) (by decide) (by decide) ?_
            exact J3 iu2 nu2 (n_stay q2 (by decide) c5)
          · refine icN K d_jdk_33_method_47_63 (XT.ii_lt_f c5) (pc' := 66) rfl ?_
            refine Jvm.OwnWp.iinc K (-2 : Int32) d_jdk_33_method_47_66 (by decide) rfl (Ls' := #[.val (.int iu2), .val (.int (nu2 + (-2 : Int32)))]) rfl (pc' := 69) rfl ?_
            refine Jvm.OwnWp.iloadN K d_jdk_33_method_47_69 rfl (pc' := 70) rfl ?_
            refine Jvm.OwnWp.iconst K (2 : Int32) d_jdk_33_method_47_70 (by decide) (pc' := 71) rfl ?_
            refine Jvm.OwnWp.iushr K d_jdk_33_method_47_71 (pc' := 72) rfl ?_
            refine Jvm.OwnWp.istoreN K d_jdk_33_method_47_72 (Ls' := #[.val (.int ((iu2.toUInt32 >>> ((2 : Int32) &&& 31).toUInt32).toInt32)), .val (.int (nu2 + (-2 : Int32)))]) rfl (pc' := 73) rfl ?_
            exact J3 ((iu2.toUInt32 >>> ((2 : Int32) &&& 31).toUInt32).toInt32) (nu2 + (-2 : Int32)) (n_go q2 (by decide) (by decide) (by decide) (by decide) (by decide) (by decide) c5)
        by_cases c4 : iu1 < (16 : Int32)
        · refine icY K d_jdk_33_method_47_51 (XT.ii_lt_t c4) (pc' := 61) (by decide) (by decide) ?_
          exact J2 iu1 nu1 (n_stay q1 (by decide) c4)
        · refine icN K d_jdk_33_method_47_51 (XT.ii_lt_f c4) (pc' := 54) rfl ?_
          refine Jvm.OwnWp.iinc K (-4 : Int32) d_jdk_33_method_47_54 (by decide) rfl (Ls' := #[.val (.int iu1), .val (.int (nu1 + (-4 : Int32)))]) rfl (pc' := 57) rfl ?_
          refine Jvm.OwnWp.iloadN K d_jdk_33_method_47_57 rfl (pc' := 58) rfl ?_
          refine Jvm.OwnWp.iconst K (4 : Int32) d_jdk_33_method_47_58 (by decide) (pc' := 59) rfl ?_
          refine Jvm.OwnWp.iushr K d_jdk_33_method_47_59 (pc' := 60) rfl ?_
          refine Jvm.OwnWp.istoreN K d_jdk_33_method_47_60 (Ls' := #[.val (.int ((iu1.toUInt32 >>> ((4 : Int32) &&& 31).toUInt32).toInt32)), .val (.int (nu1 + (-4 : Int32)))]) rfl (pc' := 61) rfl ?_
          exact J2 ((iu1.toUInt32 >>> ((4 : Int32) &&& 31).toUInt32).toInt32) (nu1 + (-4 : Int32)) (n_go q1 (by decide) (by decide) (by decide) (by decide) (by decide) (by decide) c4)
      by_cases c3 : iu0 < (256 : Int32)
      · refine icY K d_jdk_33_method_47_37 (XT.ii_lt_t c3) (pc' := 48) (by decide) (by decide) ?_
        exact J1 iu0 nu0 (n_stay q0 (by decide) c3)
      · refine icN K d_jdk_33_method_47_37 (XT.ii_lt_f c3) (pc' := 40) rfl ?_
        refine Jvm.OwnWp.iinc K (-8 : Int32) d_jdk_33_method_47_40 (by decide) rfl (Ls' := #[.val (.int iu0), .val (.int (nu0 + (-8 : Int32)))]) rfl (pc' := 43) rfl ?_
        refine Jvm.OwnWp.iloadN K d_jdk_33_method_47_43 rfl (pc' := 44) rfl ?_
        refine Jvm.OwnWp.bipush K (8 : Int32) d_jdk_33_method_47_44 (by decide) (pc' := 46) rfl ?_
        refine Jvm.OwnWp.iushr K d_jdk_33_method_47_46 (pc' := 47) rfl ?_
        refine Jvm.OwnWp.istoreN K d_jdk_33_method_47_47 (Ls' := #[.val (.int ((iu0.toUInt32 >>> ((8 : Int32) &&& 31).toUInt32).toInt32)), .val (.int (nu0 + (-8 : Int32)))]) rfl (pc' := 48) rfl ?_
        exact J1 ((iu0.toUInt32 >>> ((8 : Int32) &&& 31).toUInt32).toInt32) (nu0 + (-8 : Int32)) (n_go q0 (by decide) (by decide) (by decide) (by decide) (by decide) (by decide) c3)
    by_cases c2 : x < (65536 : Int32)
    · refine icY K d_jdk_33_method_47_22 (XT.ii_lt_t c2) (pc' := 33) (by decide) (by decide) ?_
      exact J0 x (31 : Int32) (n_stay (n_start c1) (by decide) c2)
    · refine icN K d_jdk_33_method_47_22 (XT.ii_lt_f c2) (pc' := 25) rfl ?_
      refine Jvm.OwnWp.iinc K (-16 : Int32) d_jdk_33_method_47_25 (by decide) rfl (Ls' := #[.val (.int x), .val (.int ((31 : Int32) + (-16 : Int32)))]) rfl (pc' := 28) rfl ?_
      refine Jvm.OwnWp.iloadN K d_jdk_33_method_47_28 rfl (pc' := 29) rfl ?_
      refine Jvm.OwnWp.bipush K (16 : Int32) d_jdk_33_method_47_29 (by decide) (pc' := 31) rfl ?_
      refine Jvm.OwnWp.iushr K d_jdk_33_method_47_31 (pc' := 32) rfl ?_
      refine Jvm.OwnWp.istoreN K d_jdk_33_method_47_32 (Ls' := #[.val (.int ((x.toUInt32 >>> ((16 : Int32) &&& 31).toUInt32).toInt32)), .val (.int ((31 : Int32) + (-16 : Int32)))]) rfl (pc' := 33) rfl ?_
      exact J0 ((x.toUInt32 >>> ((16 : Int32) &&& 31).toUInt32).toInt32) ((31 : Int32) + (-16 : Int32)) (n_go (n_start c1) (by decide) (by decide) (by decide) (by decide) (by decide) (by decide) c2)
  · refine ifN K d_jdk_33_method_47_1 (XT.i0_gt_f c1) (pc' := 4) rfl ?_
    refine Jvm.OwnWp.iloadN K d_jdk_33_method_47_4 rfl (pc' := 5) rfl ?_
    refine ifY K d_jdk_33_method_47_5 (XT.i0_ne_t nx) (pc' := 13) (by decide) (by decide) ?_
    refine Jvm.OwnWp.iconst K (0 : Int32) d_jdk_33_method_47_13 (by decide) (pc' := 14) rfl ?_
    refine retI K rfl d_jdk_33_method_47_14 (Nat.le_of_ble_eq_true rfl) (Nat.le_of_ble_eq_true rfl) ?_
    exact ⟨_, rfl, rfl, n_neg c1 nx⟩
set_option maxRecDepth 65536 in
set_option maxHeartbeats 40000000 in
theorem c_nlz64 (l : Launch) (Z : State) (a0 : Array Value) (hw : ∀ d ∈ tables_1, d.before a0 Z = true) (ws : List Jvm.Cond) (x : Int64) (h0 : Heap) (n0 : Nat) (Z0 : n0 ≤ h0.size) (px : 0 < x.toInt) :
    Ctr l Z (⟨"java/lang/Long", "numberOfLeadingZeros", "(J)I"⟩ : MethodName) jdk_35_method_48_code 3 (some .int) ws ({ frames := 1, cells := 0, slots := 0, locals := 14 } : Room) n0 #[(.long x)] h0 (fun v h => ∃ r : Int32, v = some (.int r) ∧ h0 = h ∧ r.toInt = 63 - (Nat.log2 x.toInt.toNat : Int)) := by
  refine ctr (own := "java/lang/Long") (nm := "numberOfLeadingZeros") rfl rfl (Ls := #[.val (.long x), .second, .unset]) (plainFor_of_name pn1) (fun m => by first | (simp [entryFrame, mkF, argsToLocals, Value.category]; done) | rfl) ?_
  intro p e s m below meth c K eh
  refine Jvm.OwnWp.lloadN K d_jdk_35_method_48_0 rfl (pc' := 1) rfl ?_
  refine Jvm.OwnWp.bipush K (32 : Int32) d_jdk_35_method_48_1 (by decide) (pc' := 3) rfl ?_
  refine Jvm.OwnWp.lushr K d_jdk_35_method_48_3 (pc' := 4) rfl ?_
  refine Jvm.OwnWp.l2i K d_jdk_35_method_48_4 (pc' := 5) rfl ?_
  refine Jvm.OwnWp.istoreN K d_jdk_35_method_48_5 (Ls' := #[.val (.long x), .second, .val (.int ((XT.ushrL x (32 : Int32))).toInt32)]) rfl (pc' := 6) rfl ?_
  refine Jvm.OwnWp.iloadN K d_jdk_35_method_48_6 rfl (pc' := 7) rfl ?_
  by_cases c1 : ((XT.ushrL x (32 : Int32))).toInt32 = 0
  · refine ifN K d_jdk_35_method_48_7 (XT.i0_ne_f c1) (pc' := 10) rfl ?_
    obtain ⟨l1, l2⟩ := nlz_lo px c1
    refine Jvm.OwnWp.bipush K (32 : Int32) d_jdk_35_method_48_10 (by decide) (pc' := 12) rfl ?_
    refine Jvm.OwnWp.lloadN K d_jdk_35_method_48_12 rfl (pc' := 13) rfl ?_
    refine Jvm.OwnWp.l2i K d_jdk_35_method_48_13 (pc' := 14) rfl ?_
    refine callStatic K (y := (⟨"java/lang/Integer", "numberOfLeadingZeros", "(I)I"⟩ : MethodName)) (argsL := [(.int (x).toInt32)]) (S := [(.int (32 : Int32))]) (wd77 hw) (wd78 hw) (wd79 hw) (wd80 hw) (by decide) (c_nlz32 l Z a0 hw [] (x).toInt32 h0 n0 Z0 l1) (lenOf pd2 rfl) d_jdk_35_method_48_14 rfl (Nat.le_of_ble_eq_true rfl) (Nat.le_of_ble_eq_true rfl) (Nat.le_of_ble_eq_true rfl) (Nat.le_of_ble_eq_true rfl) rfl (pc' := 17) rfl ?_
    rintro v1 h1 ⟨r1, rfl, rfl, e1⟩
    show Go _ _ _ _ _ _ _ _ _ _ _ h0 0 0 (mkF m 17 #[.val (.long x), .second, .val (.int ((XT.ushrL x (32 : Int32))).toInt32)] [(.int r1), (.int (32 : Int32))]) _
    refine Jvm.OwnWp.iadd K d_jdk_35_method_48_17 (pc' := 18) rfl ?_
    refine goto' K d_jdk_35_method_48_18 (pc' := 25) (by decide) (by decide) ?_
    refine retI K rfl d_jdk_35_method_48_25 (Nat.le_of_ble_eq_true rfl) (Nat.le_of_ble_eq_true rfl) ?_
    exact ⟨_, rfl, rfl, l2 _ e1⟩
  · refine ifY K d_jdk_35_method_48_7 (XT.i0_ne_t c1) (pc' := 21) (by decide) (by decide) ?_
    refine Jvm.OwnWp.iloadN K d_jdk_35_method_48_21 rfl (pc' := 22) rfl ?_
    refine callStatic K (y := (⟨"java/lang/Integer", "numberOfLeadingZeros", "(I)I"⟩ : MethodName)) (argsL := [(.int ((XT.ushrL x (32 : Int32))).toInt32)]) (S := []) (wd77 hw) (wd78 hw) (wd79 hw) (wd80 hw) (by decide) (c_nlz32 l Z a0 hw [] ((XT.ushrL x (32 : Int32))).toInt32 h0 n0 Z0 c1) (lenOf pd2 rfl) d_jdk_35_method_48_22 rfl (Nat.le_of_ble_eq_true rfl) (Nat.le_of_ble_eq_true rfl) (Nat.le_of_ble_eq_true rfl) (Nat.le_of_ble_eq_true rfl) rfl (pc' := 25) rfl ?_
    rintro v2 h2 ⟨r2, rfl, rfl, e2⟩
    show Go _ _ _ _ _ _ _ _ _ _ _ h0 0 0 (mkF m 25 #[.val (.long x), .second, .val (.int ((XT.ushrL x (32 : Int32))).toInt32)] [(.int r2)]) _
    refine retI K rfl d_jdk_35_method_48_25 (Nat.le_of_ble_eq_true rfl) (Nat.le_of_ble_eq_true rfl) ?_
    exact ⟨_, rfl, rfl, nlz_hi px c1 e2⟩
theorem own_big {x : Int64} (h : ¬ x < 256) : 256 ≤ x.toInt := by
  rw [Int64.lt_iff_toInt_lt] at h; simp only [Int64.reduceToInt] at h; omega
theorem own_lt256 {x : Int64} (h : x < 256) : x.toInt < 256 := by
  rw [Int64.lt_iff_toInt_lt] at h; simpa using h
theorem own_small {x : Int64} (px : 0 ≤ x.toInt) (h : x < 256) : x.toInt32.toInt = (bkt x.toInt.toNat : Int) := by
  have h2 := own_lt256 h
  rw [l2i_val (by omega) (by omega)]; unfold bkt; rw [if_pos (by omega)]; omega
theorem own_j256 {j : Int32} {b : Nat} (hj : j.toInt = b) : (j < 256 ↔ b < 256) := by
  rw [Int32.lt_iff_toInt_lt, hj]; simp only [Int32.reduceToInt]; omega
set_option maxRecDepth 65536 in
set_option maxHeartbeats 40000000 in
theorem c_bkt (l : Launch) (Z : State) (a0 : Array Value) (hw : ∀ d ∈ tables_1, d.before a0 Z = true) (ws : List Jvm.Cond) (x : Int64) (h0 : Heap) (n0 : Nat) (Z0 : n0 ≤ h0.size) (px : 0 ≤ x.toInt) :
    Ctr l Z (⟨"com/example/spokewire/spokewire/cli/LatencyHistogram", "bucketOf", "(J)I"⟩ : MethodName) prog_7_method_6_code 3 (some .int) ws ({ frames := 2, cells := 0, slots := 0, locals := 29 } : Room) n0 #[(.long x)] h0 (fun v h => ∃ r : Int32, v = some (.int r) ∧ h0 = h ∧ r.toInt = (bkt x.toInt.toNat : Int)) := by
  refine ctr (own := "com/example/spokewire/spokewire/cli/LatencyHistogram") (nm := "bucketOf") rfl rfl (Ls := #[.val (.long x), .second, .unset]) (plainFor_of_name pn2) (fun m => by first | (simp [entryFrame, mkF, argsToLocals, Value.category]; done) | rfl) ?_
  intro p e s m below meth c K eh
  refine Jvm.OwnWp.lloadN K d_prog_7_method_6_0 rfl (pc' := 1) rfl ?_
  refine Jvm.OwnWp.ldc2J K (wd36 hw) d_prog_7_method_6_1 (pc' := 4) rfl ?_
  refine Jvm.OwnWp.lcmp K d_prog_7_method_6_4 (pc' := 5) rfl ?_
  by_cases c1 : x < (256 : Int64)
  · refine ifN K d_prog_7_method_6_5 (XT.ll_ge_f c1) (pc' := 8) rfl ?_
    refine Jvm.OwnWp.lloadN K d_prog_7_method_6_8 rfl (pc' := 9) rfl ?_
    refine Jvm.OwnWp.l2i K d_prog_7_method_6_9 (pc' := 10) rfl ?_
    refine retI K rfl d_prog_7_method_6_10 (Nat.le_of_ble_eq_true rfl) (Nat.le_of_ble_eq_true rfl) ?_
    exact ⟨_, rfl, rfl, own_small px c1⟩
  · refine ifY K d_prog_7_method_6_5 (XT.ll_ge_t c1) (pc' := 11) (by decide) (by decide) ?_
    have g1 := own_big c1
    refine Jvm.OwnWp.bipush K (64 : Int32) d_prog_7_method_6_11 (by decide) (pc' := 13) rfl ?_
    refine Jvm.OwnWp.lloadN K d_prog_7_method_6_13 rfl (pc' := 14) rfl ?_
    refine callStatic K (y := (⟨"java/lang/Long", "numberOfLeadingZeros", "(J)I"⟩ : MethodName)) (argsL := [(.long x)]) (S := [(.int (64 : Int32))]) (wd73 hw) (wd74 hw) (wd75 hw) (wd76 hw) (by decide) (c_nlz64 l Z a0 hw [] x h0 n0 Z0 (by omega)) (lenOf pd3 rfl) d_prog_7_method_6_14 rfl (Nat.le_of_ble_eq_true rfl) (Nat.le_of_ble_eq_true rfl) (Nat.le_of_ble_eq_true rfl) (Nat.le_of_ble_eq_true rfl) rfl (pc' := 17) rfl ?_
    rintro v3 h3 ⟨r3, rfl, rfl, e3⟩
    show Go _ _ _ _ _ _ _ _ _ _ _ h0 0 0 (mkF m 17 #[.val (.long x), .second, .unset] [(.int r3), (.int (64 : Int32))]) _
    refine Jvm.OwnWp.isub K d_prog_7_method_6_17 (pc' := 18) rfl ?_
    refine Jvm.OwnWp.bipush K (8 : Int32) d_prog_7_method_6_18 (by decide) (pc' := 20) rfl ?_
    refine Jvm.OwnWp.isub K d_prog_7_method_6_20 (pc' := 21) rfl ?_
    refine Jvm.OwnWp.istoreN K d_prog_7_method_6_21 (Ls' := #[.val (.long x), .second, .val (.int (((64 : Int32) - r3) - (8 : Int32)))]) rfl (pc' := 22) rfl ?_
    refine Jvm.OwnWp.sipush K (256 : Int32) d_prog_7_method_6_22 (by decide) (pc' := 25) rfl ?_
    refine Jvm.OwnWp.iloadN K d_prog_7_method_6_25 rfl (pc' := 26) rfl ?_
    refine Jvm.OwnWp.iconst K (1 : Int32) d_prog_7_method_6_26 (by decide) (pc' := 27) rfl ?_
    refine Jvm.OwnWp.isub K d_prog_7_method_6_27 (pc' := 28) rfl ?_
    refine Jvm.OwnWp.sipush K (128 : Int32) d_prog_7_method_6_28 (by decide) (pc' := 31) rfl ?_
    refine Jvm.OwnWp.imul K d_prog_7_method_6_31 (pc' := 32) rfl ?_
    refine Jvm.OwnWp.iadd K d_prog_7_method_6_32 (pc' := 33) rfl ?_
    refine Jvm.OwnWp.lloadN K d_prog_7_method_6_33 rfl (pc' := 34) rfl ?_
    refine Jvm.OwnWp.iloadN K d_prog_7_method_6_34 rfl (pc' := 35) rfl ?_
    refine Jvm.OwnWp.lushr K d_prog_7_method_6_35 (pc' := 36) rfl ?_
    refine Jvm.OwnWp.l2i K d_prog_7_method_6_36 (pc' := 37) rfl ?_
    refine Jvm.OwnWp.iadd K d_prog_7_method_6_37 (pc' := 38) rfl ?_
    refine Jvm.OwnWp.sipush K (128 : Int32) d_prog_7_method_6_38 (by decide) (pc' := 41) rfl ?_
    refine Jvm.OwnWp.isub K d_prog_7_method_6_41 (pc' := 42) rfl ?_
    refine retI K rfl d_prog_7_method_6_42 (Nat.le_of_ble_eq_true rfl) (Nat.le_of_ble_eq_true rfl) ?_
    exact ⟨_, rfl, rfl, bkt_val g1 e3⟩
set_option maxRecDepth 65536 in
set_option maxHeartbeats 40000000 in
theorem c_hi (l : Launch) (Z : State) (a0 : Array Value) (hw : ∀ d ∈ tables_1, d.before a0 Z = true) (ws : List Jvm.Cond) (j : Int32) (b : Nat) (h0 : Heap) (n0 : Nat) (Z0 : n0 ≤ h0.size) (hj : j.toInt = b) (hb : b < 7296) :
    Ctr l Z (⟨"com/example/spokewire/spokewire/cli/LatencyHistogram", "highestOf", "(I)J"⟩ : MethodName) prog_7_method_7_code 4 (some .long) ws ({ frames := 0, cells := 0, slots := 0, locals := 0 } : Room) n0 #[(.int j)] h0 (fun v h => ∃ r : Int64, v = some (.long r) ∧ h0 = h ∧ r.toInt = (hiN b : Int)) := by
  refine ctr (own := "com/example/spokewire/spokewire/cli/LatencyHistogram") (nm := "highestOf") rfl rfl (Ls := #[.val (.int j), .unset, .unset, .unset]) (plainFor_of_name pn2) (fun m => by first | (simp [entryFrame, mkF, argsToLocals, Value.category]; done) | rfl) ?_
  intro p e s m below meth c K eh
  refine Jvm.OwnWp.iloadN K d_prog_7_method_7_0 rfl (pc' := 1) rfl ?_
  refine Jvm.OwnWp.sipush K (256 : Int32) d_prog_7_method_7_1 (by decide) (pc' := 4) rfl ?_
  by_cases c1 : j < (256 : Int32)
  · refine icN K d_prog_7_method_7_4 (XT.ii_ge_f c1) (pc' := 7) rfl ?_
    refine Jvm.OwnWp.iloadN K d_prog_7_method_7_7 rfl (pc' := 8) rfl ?_
    refine Jvm.OwnWp.i2l K d_prog_7_method_7_8 (pc' := 9) rfl ?_
    refine retL K rfl d_prog_7_method_7_9 (Nat.le_of_ble_eq_true rfl) (Nat.le_of_ble_eq_true rfl) ?_
    exact ⟨_, rfl, rfl, by rw [Int32.toInt_toInt64, hj]; unfold hiN; rw [if_pos ((own_j256 hj).mp c1)]⟩
  · refine icY K d_prog_7_method_7_4 (XT.ii_ge_t c1) (pc' := 10) (by decide) (by decide) ?_
    refine Jvm.OwnWp.iloadN K d_prog_7_method_7_10 rfl (pc' := 11) rfl ?_
    refine Jvm.OwnWp.sipush K (256 : Int32) d_prog_7_method_7_11 (by decide) (pc' := 14) rfl ?_
    refine Jvm.OwnWp.isub K d_prog_7_method_7_14 (pc' := 15) rfl ?_
    refine Jvm.OwnWp.sipush K (128 : Int32) d_prog_7_method_7_15 (by decide) (pc' := 18) rfl ?_
    refine Jvm.OwnWp.idiv K d_prog_7_method_7_18 (by decide) (pc' := 19) rfl ?_
    refine Jvm.OwnWp.iconst K (1 : Int32) d_prog_7_method_7_19 (by decide) (pc' := 20) rfl ?_
    refine Jvm.OwnWp.iadd K d_prog_7_method_7_20 (pc' := 21) rfl ?_
    refine Jvm.OwnWp.istoreN K d_prog_7_method_7_21 (Ls' := #[.val (.int j), .val (.int (((j - (256 : Int32)) / (128 : Int32)) + (1 : Int32))), .unset, .unset]) rfl (pc' := 22) rfl ?_
    refine Jvm.OwnWp.iloadN K d_prog_7_method_7_22 rfl (pc' := 23) rfl ?_
    refine Jvm.OwnWp.sipush K (256 : Int32) d_prog_7_method_7_23 (by decide) (pc' := 26) rfl ?_
    refine Jvm.OwnWp.isub K d_prog_7_method_7_26 (pc' := 27) rfl ?_
    refine Jvm.OwnWp.sipush K (128 : Int32) d_prog_7_method_7_27 (by decide) (pc' := 30) rfl ?_
    refine Jvm.OwnWp.irem K d_prog_7_method_7_30 (by decide) (pc' := 31) rfl ?_
    refine Jvm.OwnWp.sipush K (128 : Int32) d_prog_7_method_7_31 (by decide) (pc' := 34) rfl ?_
    refine Jvm.OwnWp.iadd K d_prog_7_method_7_34 (pc' := 35) rfl ?_
    refine Jvm.OwnWp.i2l K d_prog_7_method_7_35 (pc' := 36) rfl ?_
    refine Jvm.OwnWp.lstoreN K d_prog_7_method_7_36 (Ls' := #[.val (.int j), .val (.int (((j - (256 : Int32)) / (128 : Int32)) + (1 : Int32))), .val (.long ((((j - (256 : Int32)) % (128 : Int32)) + (128 : Int32))).toInt64), .second]) rfl (pc' := 37) rfl ?_
    refine Jvm.OwnWp.lloadN K d_prog_7_method_7_37 rfl (pc' := 38) rfl ?_
    refine Jvm.OwnWp.lconst K (1 : Int64) d_prog_7_method_7_38 (by decide) (pc' := 39) rfl ?_
    refine Jvm.OwnWp.ladd K d_prog_7_method_7_39 (pc' := 40) rfl ?_
    refine Jvm.OwnWp.iloadN K d_prog_7_method_7_40 rfl (pc' := 41) rfl ?_
    refine Jvm.OwnWp.lshl K d_prog_7_method_7_41 (pc' := 42) rfl ?_
    refine Jvm.OwnWp.lconst K (1 : Int64) d_prog_7_method_7_42 (by decide) (pc' := 43) rfl ?_
    refine Jvm.OwnWp.lsub K d_prog_7_method_7_43 (pc' := 44) rfl ?_
    refine retL K rfl d_prog_7_method_7_44 (Nat.le_of_ble_eq_true rfl) (Nat.le_of_ble_eq_true rfl) ?_
    exact ⟨_, rfl, rfl, hi_val' hj (by have := mt (own_j256 hj).mpr c1; omega) hb⟩
set_option maxRecDepth 65536 in
set_option maxHeartbeats 40000000 in
theorem c_lhi (l : Launch) (Z : State) (a0 : Array Value) (hw : ∀ d ∈ tables_1, d.before a0 Z = true) (ws : List Jvm.Cond) (a : Addr) (h0 : Heap) (n0 : Nat) (Z0 : n0 ≤ h0.size) (E : Exa Z h0 a "com/example/spokewire/spokewire/cli/LatencyHistogram") (ge_a : n0 ≤ a) (Fc : Fld Z h0 a "com/example/spokewire/spokewire/cli/LatencyHistogram" "counts" "[J" .null) (Ft : Fld Z h0 a "com/example/spokewire/spokewire/cli/LatencyHistogram" "total" "J" (.long 0)) :
    Ctr l Z (⟨"com/example/spokewire/spokewire/cli/LatencyHistogram", "<init>", "()V"⟩ : MethodName) prog_7_method_1_code 1 none ws ({ frames := 1, cells := 1, slots := 7296, locals := 12 } : Room) n0 #[(.ref a)] h0 (fun v h => v = none ∧ Keep h0 h [a] ∧ ∃ ca : Addr, h0.size ≤ ca ∧ Fld Z h a "com/example/spokewire/spokewire/cli/LatencyHistogram" "counts" "[J" (.ref ca) ∧ Fld Z h a "com/example/spokewire/spokewire/cli/LatencyHistogram" "total" "J" (.long 0) ∧ Hst Z h ca nil0) := by
  refine ctr (own := "com/example/spokewire/spokewire/cli/LatencyHistogram") (nm := "<init>") rfl rfl (Ls := #[.val (.ref a)]) (plainFor_of_name pn2) (fun m => by first | (simp [entryFrame, mkF, argsToLocals, Value.category]; done) | rfl) ?_
  intro p e s m below meth c K eh
  have P0 := Keep.refl h0 [a]
  refine Jvm.OwnWp.aloadN K d_prog_7_method_1_0 rfl rfl (pc' := 1) rfl ?_
  refine initObj K (wd6 hw) (wd7 hw) (wd8 hw) d_prog_7_method_1_1 rfl (Nat.le_of_ble_eq_true rfl) (Nat.le_of_ble_eq_true rfl) (pc' := 4) rfl ?_
  refine Jvm.OwnWp.aloadN K d_prog_7_method_1_4 rfl rfl (pc' := 5) rfl ?_
  refine Jvm.OwnWp.sipush K (7296 : Int32) d_prog_7_method_1_5 (by decide) (pc' := 8) rfl ?_
  refine newArr K (aty := ArrayType.long) (N := 7296) (wd9 hw) (by decide) (by decide) d_prog_7_method_1_8 (Nat.le_of_ble_eq_true rfl) (Nat.le_of_ble_eq_true rfl) (pc' := 10) rfl ?_
  intro h4 b4 g4 E4 A4
  have ne_a_b4 : a ≠ b4 := Nat.ne_of_lt (Nat.lt_of_lt_of_eq (Exa.lt E) g4.symm)
  have lt_b4 : h0.size ≤ b4 := Nat.le_trans P0.1 (Nat.le_of_eq g4.symm)
  have ge_b4 : n0 ≤ b4 := Nat.le_trans Z0 lt_b4
  have F4_counts_a := (Fld.ext E4 Fc)
  have F4_total_a := (Fld.ext E4 Ft)
  have X4_a := (Exa.ext E4 E)
  have P4 := (P0.ext E4)
  have HS := Hst.new A4
  refine putf K (wd10 hw) Via.refl F4_counts_a X4_a (Or.inr ⟨(wd11 hw), rfl, rfl⟩) (wd1 hw) (ty := (.array .long)) (by decide) rfl rfl ge_a d_prog_7_method_1_10 (pc' := 13) rfl ?_
  intro h5 W5
  have F5_total_a := (Fld.other W5 F4_total_a (Or.inr (sn_LatencyHistogram_total_counts hw)))
  have X5_a := (Exa.wr W5 X4_a)
  have V5_b4 := (HS.other W5 (Ne.symm ne_a_b4))
  have P5 := (P4.wr W5 (Or.inl (List.mem_of_getElem? (i := 0) rfl)))
  have F5_counts_a := Fld.same W5 F4_counts_a
  refine retV K rfl d_prog_7_method_1_13 (Nat.le_of_ble_eq_true rfl) (Nat.le_of_ble_eq_true rfl) ?_
  exact ⟨rfl, P5, _, lt_b4, F5_counts_a, F5_total_a, V5_b4⟩
set_option maxRecDepth 65536 in
set_option maxHeartbeats 40000000 in
theorem c_cnt (l : Launch) (Z : State) (a0 : Array Value) (hw : ∀ d ∈ tables_1, d.before a0 Z = true) (ws : List Jvm.Cond) (a : Addr) (t : Int64) (h0 : Heap) (n0 : Nat) (Z0 : n0 ≤ h0.size) (Ft : Fld Z h0 a "com/example/spokewire/spokewire/cli/LatencyHistogram" "total" "J" (.long t)) :
    Ctr l Z (⟨"com/example/spokewire/spokewire/cli/LatencyHistogram", "count", "()J"⟩ : MethodName) prog_7_method_4_code 1 (some .long) ws ({ frames := 0, cells := 0, slots := 0, locals := 0 } : Room) n0 #[(.ref a)] h0 (fun v h => v = some (.long t) ∧ h0 = h) := by
  refine ctr (own := "com/example/spokewire/spokewire/cli/LatencyHistogram") (nm := "count") rfl rfl (Ls := #[.val (.ref a)]) (plainFor_of_name pn2) (fun m => by first | (simp [entryFrame, mkF, argsToLocals, Value.category]; done) | rfl) ?_
  intro p e s m below meth c K eh
  refine Jvm.OwnWp.aloadN K d_prog_7_method_4_0 rfl rfl (pc' := 1) rfl ?_
  refine Jvm.OwnWp.getf K (wd17 hw) Via.refl Ft d_prog_7_method_4_1 (pc' := 4) rfl ?_
  refine retL K rfl d_prog_7_method_4_4 (Nat.le_of_ble_eq_true rfl) (Nat.le_of_ble_eq_true rfl) ?_
  exact ⟨rfl, rfl⟩
theorem own_inc (n : Nat) : Int64.ofNat n + 1 = Int64.ofNat (n + 1) := by rw [Int64.ofNat_add]; rfl
set_option maxRecDepth 65536 in
set_option maxHeartbeats 40000000 in
theorem c_rcd (l : Launch) (Z : State) (a0 : Array Value) (hw : ∀ d ∈ tables_1, d.before a0 Z = true) (ws : List Jvm.Cond) (a ca : Addr) (x t t' : Int64) (f : Nat → Nat) (h0 : Heap) (n0 : Nat) (Z0 : n0 ≤ h0.size) (E : Exa Z h0 a "com/example/spokewire/spokewire/cli/LatencyHistogram") (ge_a : n0 ≤ a) (ge_ca : n0 ≤ ca) (ne_ca_a : ca ≠ a) (Fc : Fld Z h0 a "com/example/spokewire/spokewire/cli/LatencyHistogram" "counts" "[J" (.ref ca)) (Ft : Fld Z h0 a "com/example/spokewire/spokewire/cli/LatencyHistogram" "total" "J" (.long t)) (H0 : Hst Z h0 ca f) (ht : t + 1 = t') :
    Ctr l Z (⟨"com/example/spokewire/spokewire/cli/LatencyHistogram", "record", "(J)V"⟩ : MethodName) prog_7_method_2_code 3 none ws ({ frames := 3, cells := 0, slots := 0, locals := 44 } : Room) n0 #[(.ref a), (.long x)] h0 (fun v h => v = none ∧ Keep h0 h [a, ca] ∧ Fld Z h a "com/example/spokewire/spokewire/cli/LatencyHistogram" "counts" "[J" (.ref ca) ∧ Fld Z h a "com/example/spokewire/spokewire/cli/LatencyHistogram" "total" "J" (.long t') ∧ Hst Z h ca (bump f (bkt (nv x)))) := by
  refine ctr (own := "com/example/spokewire/spokewire/cli/LatencyHistogram") (nm := "record") rfl rfl (Ls := #[.val (.ref a), .val (.long x), .second]) (plainFor_of_name pn2) (fun m => by first | (simp [entryFrame, mkF, argsToLocals, Value.category]; done) | rfl) ?_
  intro p e s m below meth c K eh
  have P0 := Keep.refl h0 [a, ca]
  refine Jvm.OwnWp.aloadN K d_prog_7_method_2_0 rfl rfl (pc' := 1) rfl ?_
  refine Jvm.OwnWp.getf K (wd10 hw) Via.refl Fc d_prog_7_method_2_1 (pc' := 4) rfl ?_
  refine Jvm.OwnWp.lloadN K d_prog_7_method_2_4 rfl (pc' := 5) rfl ?_
  refine Jvm.OwnWp.lconst K (0 : Int64) d_prog_7_method_2_5 (by decide) (pc' := 6) rfl ?_
  refine callStatic K (y := (⟨"java/lang/Math", "max", "(JJ)J"⟩ : MethodName)) (argsL := [(.long x), (.long (0 : Int64))]) (S := [(.ref ca)]) (wd29 hw) (wd30 hw) (wd31 hw) (wd32 hw) (by decide) (c_max l Z a0 hw [] x (0 : Int64) h0 n0 Z0) (lenOf pd4 rfl) d_prog_7_method_2_6 rfl (Nat.le_of_ble_eq_true rfl) (Nat.le_of_ble_eq_true rfl) (Nat.le_of_ble_eq_true rfl) (Nat.le_of_ble_eq_true rfl) rfl (pc' := 9) rfl ?_
  rintro v6 h6 ⟨r6, rfl, rfl, e6⟩
  show Go _ _ _ _ _ _ _ _ _ _ _ h0 0 0 (mkF m 9 #[.val (.ref a), .val (.long x), .second] [(.long r6), (.ref ca)]) _
  obtain ⟨p1, p2⟩ := nv_max x e6
  refine callStatic K (y := (⟨"com/example/spokewire/spokewire/cli/LatencyHistogram", "bucketOf", "(J)I"⟩ : MethodName)) (argsL := [(.long r6)]) (S := [(.ref ca)]) (wd33 hw) (wd34 hw) (wd2 hw) (wd35 hw) (by decide) (c_bkt l Z a0 hw [] r6 h0 n0 Z0 p1) (lenOf pd3 rfl) d_prog_7_method_2_9 rfl (Nat.le_of_ble_eq_true rfl) (Nat.le_of_ble_eq_true rfl) (Nat.le_of_ble_eq_true rfl) (Nat.le_of_ble_eq_true rfl) rfl (pc' := 12) rfl ?_
  rintro v7 h7 ⟨r7, rfl, rfl, e7⟩
  show Go _ _ _ _ _ _ _ _ _ _ _ h0 0 0 (mkF m 12 #[.val (.ref a), .val (.long x), .second] [(.int r7), (.ref ca)]) _
  rw [p2] at e7
  have hb := bkt_lt (nv_lt x)
  obtain ⟨xs, VX, LX, PX⟩ := id H0
  refine Jvm.OwnWp.dup2 K d_prog_7_method_2_12 rfl rfl (pc' := 13) rfl ?_
  refine laload K (i := bkt (nv x)) VX e7 (PX _ hb) d_prog_7_method_2_13 (pc' := 14) rfl ?_
  refine Jvm.OwnWp.lconst K (1 : Int64) d_prog_7_method_2_14 (by decide) (pc' := 15) rfl ?_
  refine Jvm.OwnWp.ladd K d_prog_7_method_2_15 (pc' := 16) rfl ?_
  refine lastore K (i := bkt (nv x)) VX e7 (by rw [LX]; exact hb) ge_ca d_prog_7_method_2_16 (pc' := 17) rfl ?_
  intro h8 W8
  have F8_counts_a := (Fld.other W8 Fc (Or.inl (Ne.symm ne_ca_a)))
  have F8_total_a := (Fld.other W8 Ft (Or.inl (Ne.symm ne_ca_a)))
  have X8_a := (Exa.wr W8 E)
  have P8 := (P0.wr W8 (Or.inl (List.mem_of_getElem? (i := 1) rfl)))
  have HB := Hst.put VX LX PX hb W8 (own_inc _) (g := bump f (bkt (nv x))) (fun j _ => by unfold bump; by_cases q : j = bkt (nv x) <;> simp [q])
  refine Jvm.OwnWp.aloadN K d_prog_7_method_2_17 rfl rfl (pc' := 18) rfl ?_
  refine Jvm.OwnWp.dup K d_prog_7_method_2_18 rfl (pc' := 19) rfl ?_
  refine Jvm.OwnWp.getf K (wd17 hw) Via.refl F8_total_a d_prog_7_method_2_19 (pc' := 22) rfl ?_
  refine Jvm.OwnWp.lconst K (1 : Int64) d_prog_7_method_2_22 (by decide) (pc' := 23) rfl ?_
  refine Jvm.OwnWp.ladd K d_prog_7_method_2_23 (pc' := 24) rfl ?_
  rw [ht]
  refine putf K (wd17 hw) Via.refl F8_total_a X8_a (Or.inl (wd18 hw)) (wd1 hw) (ty := .long) (by decide) rfl rfl ge_a d_prog_7_method_2_24 (pc' := 27) rfl ?_
  intro h9 W9
  have F9_counts_a := (Fld.other W9 F8_counts_a (Or.inr (sn_LatencyHistogram_counts_total hw)))
  have X9_a := (Exa.wr W9 X8_a)
  have V9_ca := (HB.other W9 ne_ca_a)
  have P9 := (P8.wr W9 (Or.inl (List.mem_of_getElem? (i := 0) rfl)))
  have F9_total_a := Fld.same W9 F8_total_a
  refine retV K rfl d_prog_7_method_2_27 (Nat.le_of_ble_eq_true rfl) (Nat.le_of_ble_eq_true rfl) ?_
  exact ⟨rfl, P9, F9_counts_a, F9_total_a, V9_ca⟩
set_option maxRecDepth 65536 in
set_option maxHeartbeats 40000000 in
theorem c_per1_1 (l : Launch) (Z : State) (a0 : Array Value) (hw : ∀ d ∈ tables_1, d.before a0 Z = true) (ws : List Jvm.Cond) (a ca : Addr) (f : Nat → Nat) (b : Nat) (h0 : Heap) (n0 : Nat) (Z0 : n0 ≤ h0.size) (O0 : Old Z n0 h0) (S_ad : Sta Z Z.heap "java/lang/StrictMath" "$assertionsDisabled" "Z" (.int 1)) (Fc : Fld Z h0 a "com/example/spokewire/spokewire/cli/LatencyHistogram" "counts" "[J" (.ref ca)) (Ft : Fld Z h0 a "com/example/spokewire/spokewire/cli/LatencyHistogram" "total" "J" (.long 1)) (H0 : Hst Z h0 ca f) (hb : b < 7296) (s1 : Sm f b < 1) (s2 : 1 ≤ Sm f (b + 1)) (sm : ∀ k, Sm f k ≤ 3) :
    Ctr l Z (⟨"com/example/spokewire/spokewire/cli/LatencyHistogram", "percentile", "(D)J"⟩ : MethodName) prog_7_method_5_code 8 (some .long) ws ({ frames := 8, cells := 0, slots := 0, locals := 152 } : Room) n0 #[(.ref a), (.double (4607182418800017408 : UInt64))] h0 (fun v h => ∃ r : Int64, v = some (.long r) ∧ h0 = h ∧ r.toInt = (hiN b : Int)) := by
  refine ctr (own := "com/example/spokewire/spokewire/cli/LatencyHistogram") (nm := "percentile") rfl rfl (Ls := #[.val (.ref a), .val (.double (4607182418800017408 : UInt64)), .second, .unset, .unset, .unset, .unset, .unset]) (plainFor_of_name pn2) (fun m => by first | (simp [entryFrame, mkF, argsToLocals, Value.category]; done) | rfl) ?_
  intro p e s m below meth c K eh
  refine Jvm.OwnWp.aloadN K d_prog_7_method_5_0 rfl rfl (pc' := 1) rfl ?_
  refine Jvm.OwnWp.getf K (wd17 hw) Via.refl Ft d_prog_7_method_5_1 (pc' := 4) rfl ?_
  refine Jvm.OwnWp.lconst K (0 : Int64) d_prog_7_method_5_4 (by decide) (pc' := 5) rfl ?_
  refine Jvm.OwnWp.lcmp K d_prog_7_method_5_5 (pc' := 6) rfl ?_
  refine ifY K d_prog_7_method_5_6 (by decide) (pc' := 19) (by decide) (by decide) ?_
  refine Jvm.OwnWp.lconst K (1 : Int64) d_prog_7_method_5_19 (by decide) (pc' := 20) rfl ?_
  refine Jvm.OwnWp.dloadN K d_prog_7_method_5_20 rfl (pc' := 21) rfl ?_
  refine Jvm.OwnWp.aloadN K d_prog_7_method_5_21 rfl rfl (pc' := 22) rfl ?_
  refine Jvm.OwnWp.getf K (wd17 hw) Via.refl Ft d_prog_7_method_5_22 (pc' := 25) rfl ?_
  refine Jvm.OwnWp.l2d K d_prog_7_method_5_25 (pc' := 26) rfl ?_
  refine Jvm.OwnWp.dmul K d_prog_7_method_5_26 (by unfold Jvm.Free.Fl.NoNaN64; decide +kernel) (pc' := 27) rfl ?_
  rw [show (FP.dmul (4607182418800017408 : UInt64) (FP.l2d (1 : Int64))) = (4607182418800017408 : UInt64) from by decide +kernel]
  show Go _ _ _ _ _ _ _ _ _ _ _ h0 0 0 (mkF m 27 #[.val (.ref a), .val (.double (4607182418800017408 : UInt64)), .second, .unset, .unset, .unset, .unset, .unset] [(.double (4607182418800017408 : UInt64)), (.long (1 : Int64))]) _
  have V := StaR.of K.2.1 (Sta.ext O0.2 S_ad)
  refine callCeil K (b := (4607182418800017408 : UInt64)) (z := (4607182418800017408 : UInt64)) (wd42 hw) (wd43 hw) (wd31 hw) (wd44 hw) (wd48 hw) (wd47 hw) (by decide) d_prog_7_method_5_27 rfl (Nat.le_of_ble_eq_true rfl) (Nat.le_of_ble_eq_true rfl) (fun T F hadm eT hm h1 h2 N F0 hN mS methS cS K1 => go_ceil1 K.1 K.2.1 hw V T F hadm eT hm h1 h2 N F0 hN mS methS cS K1) (pc' := 30) rfl ?_
  refine Jvm.OwnWp.d2l K d_prog_7_method_5_30 (pc' := 31) rfl ?_
  rw [show (FP.d2l (4607182418800017408 : UInt64)) = (1 : Int64) from by decide +kernel]
  show Go _ _ _ _ _ _ _ _ _ _ _ h0 0 0 (mkF m 31 #[.val (.ref a), .val (.double (4607182418800017408 : UInt64)), .second, .unset, .unset, .unset, .unset, .unset] [(.long (1 : Int64)), (.long (1 : Int64))]) _
  refine callStatic K (y := (⟨"java/lang/Math", "max", "(JJ)J"⟩ : MethodName)) (argsL := [(.long (1 : Int64)), (.long (1 : Int64))]) (S := []) (wd29 hw) (wd30 hw) (wd31 hw) (wd32 hw) (by decide) (c_max l Z a0 hw [] (1 : Int64) (1 : Int64) h0 n0 Z0) (lenOf pd4 rfl) d_prog_7_method_5_31 rfl (Nat.le_of_ble_eq_true rfl) (Nat.le_of_ble_eq_true rfl) (Nat.le_of_ble_eq_true rfl) (Nat.le_of_ble_eq_true rfl) rfl (pc' := 34) rfl ?_
  rintro v10 h10 ⟨r10, rfl, rfl, e10⟩
  show Go _ _ _ _ _ _ _ _ _ _ _ h0 0 0 (mkF m 34 #[.val (.ref a), .val (.double (4607182418800017408 : UInt64)), .second, .unset, .unset, .unset, .unset, .unset] [(.long r10)]) _
  obtain rfl : r10 = (1 : Int64) := Int64.toInt_inj.mp (by rw [e10]; decide)
  show Go _ _ _ _ _ _ _ _ _ _ _ h0 0 0 (mkF m 34 #[.val (.ref a), .val (.double (4607182418800017408 : UInt64)), .second, .unset, .unset, .unset, .unset, .unset] [(.long (1 : Int64))]) _
  refine Jvm.OwnWp.lstoreN K d_prog_7_method_5_34 (Ls' := #[.val (.ref a), .val (.double (4607182418800017408 : UInt64)), .second, .val (.long (1 : Int64)), .second, .unset, .unset, .unset]) rfl (pc' := 35) rfl ?_
  refine Jvm.OwnWp.lconst K (0 : Int64) d_prog_7_method_5_35 (by decide) (pc' := 36) rfl ?_
  refine Jvm.OwnWp.lstore K d_prog_7_method_5_36 (Ls' := #[.val (.ref a), .val (.double (4607182418800017408 : UInt64)), .second, .val (.long (1 : Int64)), .second, .val (.long (0 : Int64)), .second, .unset]) rfl (pc' := 38) rfl ?_
  refine Jvm.OwnWp.iconst K (0 : Int32) d_prog_7_method_5_38 (by decide) (pc' := 39) rfl ?_
  refine Jvm.OwnWp.istore K d_prog_7_method_5_39 (Ls' := #[.val (.ref a), .val (.double (4607182418800017408 : UInt64)), .second, .val (.long (1 : Int64)), .second, .val (.long (0 : Int64)), .second, .val (.int (0 : Int32))]) rfl (pc' := 41) rfl ?_
  have loop : ∀ (d k : Nat) (i : Int32) (sn : Int64), k + d = b → i.toInt = k → sn.toInt = Sm f k → Go p l e ({ frames := 8, cells := 0, slots := 0, locals := 152 } : Room) s m #[(.ref a), (.double (4607182418800017408 : UInt64))] below meth c n0 h0 0 0 (mkF m 41 #[.val (.ref a), .val (.double (4607182418800017408 : UInt64)), .second, .val (.long (1 : Int64)), .second, .val (.long sn), .second, .val (.int i)] []) (fun v h => ∃ r : Int64, v = some (.long r) ∧ h0 = h ∧ r.toInt = (hiN b : Int)) := by
    intro d
    induction d with
    | zero =>
      intro k i sn hk hi hs
      obtain ⟨xs, VX, LX, PX⟩ := id H0
      have b1 := sm (k + 1)
      have b2 := sm k
      have eS : Sm f (k + 1) = Sm f k + f k := rfl
      have ea : (sn + Int64.ofNat (f k)).toInt = Sm f (k + 1) := by have e1 := own_nat (n := f k) (by omega); rw [Jvm.OwnHist.add64 (by omega) (by omega), hs, e1, eS]; omega
      refine Jvm.OwnWp.lload K d_prog_7_method_5_41 rfl (pc' := 43) rfl ?_
      refine Jvm.OwnWp.aloadN K d_prog_7_method_5_43 rfl rfl (pc' := 44) rfl ?_
      refine Jvm.OwnWp.getf K (wd10 hw) Via.refl Fc d_prog_7_method_5_44 (pc' := 47) rfl ?_
      refine Jvm.OwnWp.iload K d_prog_7_method_5_47 rfl (pc' := 49) rfl ?_
      refine laload K (i := k) VX hi (PX k (by omega)) d_prog_7_method_5_49 (pc' := 50) rfl ?_
      refine Jvm.OwnWp.ladd K d_prog_7_method_5_50 (pc' := 51) rfl ?_
      refine Jvm.OwnWp.lloadN K d_prog_7_method_5_51 rfl (pc' := 52) rfl ?_
      refine Jvm.OwnWp.lcmp K d_prog_7_method_5_52 (pc' := 53) rfl ?_
      obtain rfl : k = b := by omega
      refine ifY K d_prog_7_method_5_53 (XT.ll_ge_t (by rw [Int64.lt_iff_toInt_lt, ea]; simp only [Int64.reduceToInt]; omega)) (pc' := 74) (by decide) (by decide) ?_
      refine Jvm.OwnWp.iload K d_prog_7_method_5_74 rfl (pc' := 76) rfl ?_
      refine callStatic K (y := (⟨"com/example/spokewire/spokewire/cli/LatencyHistogram", "highestOf", "(I)J"⟩ : MethodName)) (argsL := [(.int i)]) (S := []) (wd65 hw) (wd66 hw) (wd2 hw) (wd67 hw) (by decide) (c_hi l Z a0 hw [] i k h0 n0 Z0 hi hb) (lenOf pd5 rfl) d_prog_7_method_5_76 rfl (Nat.le_of_ble_eq_true rfl) (Nat.le_of_ble_eq_true rfl) (Nat.le_of_ble_eq_true rfl) (Nat.le_of_ble_eq_true rfl) rfl (pc' := 79) rfl ?_
      rintro v11 h11 ⟨r11, rfl, rfl, e11⟩
      show Go _ _ _ _ _ _ _ _ _ _ _ h0 0 0 (mkF m 79 #[.val (.ref a), .val (.double (4607182418800017408 : UInt64)), .second, .val (.long (1 : Int64)), .second, .val (.long sn), .second, .val (.int i)] [(.long r11)]) _
      refine retL K rfl d_prog_7_method_5_79 (Nat.le_of_ble_eq_true rfl) (Nat.le_of_ble_eq_true rfl) ?_
      exact ⟨_, rfl, rfl, e11⟩
    | succ d ih =>
      intro k i sn hk hi hs
      obtain ⟨xs, VX, LX, PX⟩ := id H0
      have b1 := sm (k + 1)
      have b2 := sm k
      have eS : Sm f (k + 1) = Sm f k + f k := rfl
      have ea : (sn + Int64.ofNat (f k)).toInt = Sm f (k + 1) := by have e1 := own_nat (n := f k) (by omega); rw [Jvm.OwnHist.add64 (by omega) (by omega), hs, e1, eS]; omega
      refine Jvm.OwnWp.lload K d_prog_7_method_5_41 rfl (pc' := 43) rfl ?_
      refine Jvm.OwnWp.aloadN K d_prog_7_method_5_43 rfl rfl (pc' := 44) rfl ?_
      refine Jvm.OwnWp.getf K (wd10 hw) Via.refl Fc d_prog_7_method_5_44 (pc' := 47) rfl ?_
      refine Jvm.OwnWp.iload K d_prog_7_method_5_47 rfl (pc' := 49) rfl ?_
      refine laload K (i := k) VX hi (PX k (by omega)) d_prog_7_method_5_49 (pc' := 50) rfl ?_
      refine Jvm.OwnWp.ladd K d_prog_7_method_5_50 (pc' := 51) rfl ?_
      refine Jvm.OwnWp.lloadN K d_prog_7_method_5_51 rfl (pc' := 52) rfl ?_
      refine Jvm.OwnWp.lcmp K d_prog_7_method_5_52 (pc' := 53) rfl ?_
      have m1 := Sm_mono f (show k + 1 ≤ b by omega)
      refine ifN K d_prog_7_method_5_53 (XT.ll_ge_f (by rw [Int64.lt_iff_toInt_lt, ea]; simp only [Int64.reduceToInt]; omega)) (pc' := 56) rfl ?_
      refine Jvm.OwnWp.lload K d_prog_7_method_5_56 rfl (pc' := 58) rfl ?_
      refine Jvm.OwnWp.aloadN K d_prog_7_method_5_58 rfl rfl (pc' := 59) rfl ?_
      refine Jvm.OwnWp.getf K (wd10 hw) Via.refl Fc d_prog_7_method_5_59 (pc' := 62) rfl ?_
      refine Jvm.OwnWp.iload K d_prog_7_method_5_62 rfl (pc' := 64) rfl ?_
      refine laload K (i := k) VX hi (PX k (by omega)) d_prog_7_method_5_64 (pc' := 65) rfl ?_
      refine Jvm.OwnWp.ladd K d_prog_7_method_5_65 (pc' := 66) rfl ?_
      refine Jvm.OwnWp.lstore K d_prog_7_method_5_66 (Ls' := #[.val (.ref a), .val (.double (4607182418800017408 : UInt64)), .second, .val (.long (1 : Int64)), .second, .val (.long (sn + (Int64.ofNat (f k)))), .second, .val (.int i)]) rfl (pc' := 68) rfl ?_
      refine Jvm.OwnWp.iinc K (1 : Int32) d_prog_7_method_5_68 (by decide) rfl (Ls' := #[.val (.ref a), .val (.double (4607182418800017408 : UInt64)), .second, .val (.long (1 : Int64)), .second, .val (.long (sn + (Int64.ofNat (f k)))), .second, .val (.int (i + (1 : Int32)))]) rfl (pc' := 71) rfl ?_
      refine goto' K d_prog_7_method_5_71 (pc' := 41) (by decide) (by decide) ?_
      exact ih (k + 1) _ _ (by omega) (by rw [Jvm.OwnHist.add32 (by rw [hi]; show _ ≤ (k : Int) + 1; omega) (by rw [hi]; show (k : Int) + 1 ≤ _; omega), hi]; rfl) ea
  exact loop b 0 _ _ (by omega) rfl rfl
set_option maxRecDepth 65536 in
set_option maxHeartbeats 40000000 in
theorem c_perh_1 (l : Launch) (Z : State) (a0 : Array Value) (hw : ∀ d ∈ tables_1, d.before a0 Z = true) (ws : List Jvm.Cond) (a ca : Addr) (f : Nat → Nat) (b : Nat) (h0 : Heap) (n0 : Nat) (Z0 : n0 ≤ h0.size) (O0 : Old Z n0 h0) (S_ad : Sta Z Z.heap "java/lang/StrictMath" "$assertionsDisabled" "Z" (.int 1)) (Fc : Fld Z h0 a "com/example/spokewire/spokewire/cli/LatencyHistogram" "counts" "[J" (.ref ca)) (Ft : Fld Z h0 a "com/example/spokewire/spokewire/cli/LatencyHistogram" "total" "J" (.long 1)) (H0 : Hst Z h0 ca f) (hb : b < 7296) (s1 : Sm f b < 1) (s2 : 1 ≤ Sm f (b + 1)) (sm : ∀ k, Sm f k ≤ 3) :
    Ctr l Z (⟨"com/example/spokewire/spokewire/cli/LatencyHistogram", "percentile", "(D)J"⟩ : MethodName) prog_7_method_5_code 8 (some .long) ws ({ frames := 8, cells := 0, slots := 0, locals := 152 } : Room) n0 #[(.ref a), (.double (4602678819172646912 : UInt64))] h0 (fun v h => ∃ r : Int64, v = some (.long r) ∧ h0 = h ∧ r.toInt = (hiN b : Int)) := by
  refine ctr (own := "com/example/spokewire/spokewire/cli/LatencyHistogram") (nm := "percentile") rfl rfl (Ls := #[.val (.ref a), .val (.double (4602678819172646912 : UInt64)), .second, .unset, .unset, .unset, .unset, .unset]) (plainFor_of_name pn2) (fun m => by first | (simp [entryFrame, mkF, argsToLocals, Value.category]; done) | rfl) ?_
  intro p e s m below meth c K eh
  refine Jvm.OwnWp.aloadN K d_prog_7_method_5_0 rfl rfl (pc' := 1) rfl ?_
  refine Jvm.OwnWp.getf K (wd17 hw) Via.refl Ft d_prog_7_method_5_1 (pc' := 4) rfl ?_
  refine Jvm.OwnWp.lconst K (0 : Int64) d_prog_7_method_5_4 (by decide) (pc' := 5) rfl ?_
  refine Jvm.OwnWp.lcmp K d_prog_7_method_5_5 (pc' := 6) rfl ?_
  refine ifY K d_prog_7_method_5_6 (by decide) (pc' := 19) (by decide) (by decide) ?_
  refine Jvm.OwnWp.lconst K (1 : Int64) d_prog_7_method_5_19 (by decide) (pc' := 20) rfl ?_
  refine Jvm.OwnWp.dloadN K d_prog_7_method_5_20 rfl (pc' := 21) rfl ?_
  refine Jvm.OwnWp.aloadN K d_prog_7_method_5_21 rfl rfl (pc' := 22) rfl ?_
  refine Jvm.OwnWp.getf K (wd17 hw) Via.refl Ft d_prog_7_method_5_22 (pc' := 25) rfl ?_
  refine Jvm.OwnWp.l2d K d_prog_7_method_5_25 (pc' := 26) rfl ?_
  refine Jvm.OwnWp.dmul K d_prog_7_method_5_26 (by unfold Jvm.Free.Fl.NoNaN64; decide +kernel) (pc' := 27) rfl ?_
  rw [show (FP.dmul (4602678819172646912 : UInt64) (FP.l2d (1 : Int64))) = (4602678819172646912 : UInt64) from by decide +kernel]
  show Go _ _ _ _ _ _ _ _ _ _ _ h0 0 0 (mkF m 27 #[.val (.ref a), .val (.double (4602678819172646912 : UInt64)), .second, .unset, .unset, .unset, .unset, .unset] [(.double (4602678819172646912 : UInt64)), (.long (1 : Int64))]) _
  have V := StaR.of K.2.1 (Sta.ext O0.2 S_ad)
  refine callCeil K (b := (4602678819172646912 : UInt64)) (z := (4607182418800017408 : UInt64)) (wd42 hw) (wd43 hw) (wd31 hw) (wd44 hw) (wd48 hw) (wd47 hw) (by decide) d_prog_7_method_5_27 rfl (Nat.le_of_ble_eq_true rfl) (Nat.le_of_ble_eq_true rfl) (fun T F hadm eT hm h1 h2 N F0 hN mS methS cS K1 => go_ceil0 K.1 K.2.1 hw V T F hadm eT hm h1 h2 N F0 hN mS methS cS K1) (pc' := 30) rfl ?_
  refine Jvm.OwnWp.d2l K d_prog_7_method_5_30 (pc' := 31) rfl ?_
  rw [show (FP.d2l (4607182418800017408 : UInt64)) = (1 : Int64) from by decide +kernel]
  show Go _ _ _ _ _ _ _ _ _ _ _ h0 0 0 (mkF m 31 #[.val (.ref a), .val (.double (4602678819172646912 : UInt64)), .second, .unset, .unset, .unset, .unset, .unset] [(.long (1 : Int64)), (.long (1 : Int64))]) _
  refine callStatic K (y := (⟨"java/lang/Math", "max", "(JJ)J"⟩ : MethodName)) (argsL := [(.long (1 : Int64)), (.long (1 : Int64))]) (S := []) (wd29 hw) (wd30 hw) (wd31 hw) (wd32 hw) (by decide) (c_max l Z a0 hw [] (1 : Int64) (1 : Int64) h0 n0 Z0) (lenOf pd4 rfl) d_prog_7_method_5_31 rfl (Nat.le_of_ble_eq_true rfl) (Nat.le_of_ble_eq_true rfl) (Nat.le_of_ble_eq_true rfl) (Nat.le_of_ble_eq_true rfl) rfl (pc' := 34) rfl ?_
  rintro v12 h12 ⟨r12, rfl, rfl, e12⟩
  show Go _ _ _ _ _ _ _ _ _ _ _ h0 0 0 (mkF m 34 #[.val (.ref a), .val (.double (4602678819172646912 : UInt64)), .second, .unset, .unset, .unset, .unset, .unset] [(.long r12)]) _
  obtain rfl : r12 = (1 : Int64) := Int64.toInt_inj.mp (by rw [e12]; decide)
  show Go _ _ _ _ _ _ _ _ _ _ _ h0 0 0 (mkF m 34 #[.val (.ref a), .val (.double (4602678819172646912 : UInt64)), .second, .unset, .unset, .unset, .unset, .unset] [(.long (1 : Int64))]) _
  refine Jvm.OwnWp.lstoreN K d_prog_7_method_5_34 (Ls' := #[.val (.ref a), .val (.double (4602678819172646912 : UInt64)), .second, .val (.long (1 : Int64)), .second, .unset, .unset, .unset]) rfl (pc' := 35) rfl ?_
  refine Jvm.OwnWp.lconst K (0 : Int64) d_prog_7_method_5_35 (by decide) (pc' := 36) rfl ?_
  refine Jvm.OwnWp.lstore K d_prog_7_method_5_36 (Ls' := #[.val (.ref a), .val (.double (4602678819172646912 : UInt64)), .second, .val (.long (1 : Int64)), .second, .val (.long (0 : Int64)), .second, .unset]) rfl (pc' := 38) rfl ?_
  refine Jvm.OwnWp.iconst K (0 : Int32) d_prog_7_method_5_38 (by decide) (pc' := 39) rfl ?_
  refine Jvm.OwnWp.istore K d_prog_7_method_5_39 (Ls' := #[.val (.ref a), .val (.double (4602678819172646912 : UInt64)), .second, .val (.long (1 : Int64)), .second, .val (.long (0 : Int64)), .second, .val (.int (0 : Int32))]) rfl (pc' := 41) rfl ?_
  have loop : ∀ (d k : Nat) (i : Int32) (sn : Int64), k + d = b → i.toInt = k → sn.toInt = Sm f k → Go p l e ({ frames := 8, cells := 0, slots := 0, locals := 152 } : Room) s m #[(.ref a), (.double (4602678819172646912 : UInt64))] below meth c n0 h0 0 0 (mkF m 41 #[.val (.ref a), .val (.double (4602678819172646912 : UInt64)), .second, .val (.long (1 : Int64)), .second, .val (.long sn), .second, .val (.int i)] []) (fun v h => ∃ r : Int64, v = some (.long r) ∧ h0 = h ∧ r.toInt = (hiN b : Int)) := by
    intro d
    induction d with
    | zero =>
      intro k i sn hk hi hs
      obtain ⟨xs, VX, LX, PX⟩ := id H0
      have b1 := sm (k + 1)
      have b2 := sm k
      have eS : Sm f (k + 1) = Sm f k + f k := rfl
      have ea : (sn + Int64.ofNat (f k)).toInt = Sm f (k + 1) := by have e1 := own_nat (n := f k) (by omega); rw [Jvm.OwnHist.add64 (by omega) (by omega), hs, e1, eS]; omega
      refine Jvm.OwnWp.lload K d_prog_7_method_5_41 rfl (pc' := 43) rfl ?_
      refine Jvm.OwnWp.aloadN K d_prog_7_method_5_43 rfl rfl (pc' := 44) rfl ?_
      refine Jvm.OwnWp.getf K (wd10 hw) Via.refl Fc d_prog_7_method_5_44 (pc' := 47) rfl ?_
      refine Jvm.OwnWp.iload K d_prog_7_method_5_47 rfl (pc' := 49) rfl ?_
      refine laload K (i := k) VX hi (PX k (by omega)) d_prog_7_method_5_49 (pc' := 50) rfl ?_
      refine Jvm.OwnWp.ladd K d_prog_7_method_5_50 (pc' := 51) rfl ?_
      refine Jvm.OwnWp.lloadN K d_prog_7_method_5_51 rfl (pc' := 52) rfl ?_
      refine Jvm.OwnWp.lcmp K d_prog_7_method_5_52 (pc' := 53) rfl ?_
      obtain rfl : k = b := by omega
      refine ifY K d_prog_7_method_5_53 (XT.ll_ge_t (by rw [Int64.lt_iff_toInt_lt, ea]; simp only [Int64.reduceToInt]; omega)) (pc' := 74) (by decide) (by decide) ?_
      refine Jvm.OwnWp.iload K d_prog_7_method_5_74 rfl (pc' := 76) rfl ?_
      refine callStatic K (y := (⟨"com/example/spokewire/spokewire/cli/LatencyHistogram", "highestOf", "(I)J"⟩ : MethodName)) (argsL := [(.int i)]) (S := []) (wd65 hw) (wd66 hw) (wd2 hw) (wd67 hw) (by decide) (c_hi l Z a0 hw [] i k h0 n0 Z0 hi hb) (lenOf pd5 rfl) d_prog_7_method_5_76 rfl (Nat.le_of_ble_eq_true rfl) (Nat.le_of_ble_eq_true rfl) (Nat.le_of_ble_eq_true rfl) (Nat.le_of_ble_eq_true rfl) rfl (pc' := 79) rfl ?_
      rintro v13 h13 ⟨r13, rfl, rfl, e13⟩
      show Go _ _ _ _ _ _ _ _ _ _ _ h0 0 0 (mkF m 79 #[.val (.ref a), .val (.double (4602678819172646912 : UInt64)), .second, .val (.long (1 : Int64)), .second, .val (.long sn), .second, .val (.int i)] [(.long r13)]) _
      refine retL K rfl d_prog_7_method_5_79 (Nat.le_of_ble_eq_true rfl) (Nat.le_of_ble_eq_true rfl) ?_
      exact ⟨_, rfl, rfl, e13⟩
    | succ d ih =>
      intro k i sn hk hi hs
      obtain ⟨xs, VX, LX, PX⟩ := id H0
      have b1 := sm (k + 1)
      have b2 := sm k
      have eS : Sm f (k + 1) = Sm f k + f k := rfl
      have ea : (sn + Int64.ofNat (f k)).toInt = Sm f (k + 1) := by have e1 := own_nat (n := f k) (by omega); rw [Jvm.OwnHist.add64 (by omega) (by omega), hs, e1, eS]; omega
      refine Jvm.OwnWp.lload K d_prog_7_method_5_41 rfl (pc' := 43) rfl ?_
      refine Jvm.OwnWp.aloadN K d_prog_7_method_5_43 rfl rfl (pc' := 44) rfl ?_
      refine Jvm.OwnWp.getf K (wd10 hw) Via.refl Fc d_prog_7_method_5_44 (pc' := 47) rfl ?_
      refine Jvm.OwnWp.iload K d_prog_7_method_5_47 rfl (pc' := 49) rfl ?_
      refine laload K (i := k) VX hi (PX k (by omega)) d_prog_7_method_5_49 (pc' := 50) rfl ?_
      refine Jvm.OwnWp.ladd K d_prog_7_method_5_50 (pc' := 51) rfl ?_
      refine Jvm.OwnWp.lloadN K d_prog_7_method_5_51 rfl (pc' := 52) rfl ?_
      refine Jvm.OwnWp.lcmp K d_prog_7_method_5_52 (pc' := 53) rfl ?_
      have m1 := Sm_mono f (show k + 1 ≤ b by omega)
      refine ifN K d_prog_7_method_5_53 (XT.ll_ge_f (by rw [Int64.lt_iff_toInt_lt, ea]; simp only [Int64.reduceToInt]; omega)) (pc' := 56) rfl ?_
      refine Jvm.OwnWp.lload K d_prog_7_method_5_56 rfl (pc' := 58) rfl ?_
      refine Jvm.OwnWp.aloadN K d_prog_7_method_5_58 rfl rfl (pc' := 59) rfl ?_
      refine Jvm.OwnWp.getf K (wd10 hw) Via.refl Fc d_prog_7_method_5_59 (pc' := 62) rfl ?_
      refine Jvm.OwnWp.iload K d_prog_7_method_5_62 rfl (pc' := 64) rfl ?_
      refine laload K (i := k) VX hi (PX k (by omega)) d_prog_7_method_5_64 (pc' := 65) rfl ?_
      refine Jvm.OwnWp.ladd K d_prog_7_method_5_65 (pc' := 66) rfl ?_
      refine Jvm.OwnWp.lstore K d_prog_7_method_5_66 (Ls' := #[.val (.ref a), .val (.double (4602678819172646912 : UInt64)), .second, .val (.long (1 : Int64)), .second, .val (.long (sn + (Int64.ofNat (f k)))), .second, .val (.int i)]) rfl (pc' := 68) rfl ?_
      refine Jvm.OwnWp.iinc K (1 : Int32) d_prog_7_method_5_68 (by decide) rfl (Ls' := #[.val (.ref a), .val (.double (4602678819172646912 : UInt64)), .second, .val (.long (1 : Int64)), .second, .val (.long (sn + (Int64.ofNat (f k)))), .second, .val (.int (i + (1 : Int32)))]) rfl (pc' := 71) rfl ?_
      refine goto' K d_prog_7_method_5_71 (pc' := 41) (by decide) (by decide) ?_
      exact ih (k + 1) _ _ (by omega) (by rw [Jvm.OwnHist.add32 (by rw [hi]; show _ ≤ (k : Int) + 1; omega) (by rw [hi]; show (k : Int) + 1 ≤ _; omega), hi]; rfl) ea
  exact loop b 0 _ _ (by omega) rfl rfl
set_option maxRecDepth 65536 in
set_option maxHeartbeats 40000000 in
theorem c_perh_2 (l : Launch) (Z : State) (a0 : Array Value) (hw : ∀ d ∈ tables_1, d.before a0 Z = true) (ws : List Jvm.Cond) (a ca : Addr) (f : Nat → Nat) (b : Nat) (h0 : Heap) (n0 : Nat) (Z0 : n0 ≤ h0.size) (O0 : Old Z n0 h0) (S_ad : Sta Z Z.heap "java/lang/StrictMath" "$assertionsDisabled" "Z" (.int 1)) (Fc : Fld Z h0 a "com/example/spokewire/spokewire/cli/LatencyHistogram" "counts" "[J" (.ref ca)) (Ft : Fld Z h0 a "com/example/spokewire/spokewire/cli/LatencyHistogram" "total" "J" (.long 2)) (H0 : Hst Z h0 ca f) (hb : b < 7296) (s1 : Sm f b < 1) (s2 : 1 ≤ Sm f (b + 1)) (sm : ∀ k, Sm f k ≤ 3) :
    Ctr l Z (⟨"com/example/spokewire/spokewire/cli/LatencyHistogram", "percentile", "(D)J"⟩ : MethodName) prog_7_method_5_code 8 (some .long) ws ({ frames := 8, cells := 0, slots := 0, locals := 152 } : Room) n0 #[(.ref a), (.double (4602678819172646912 : UInt64))] h0 (fun v h => ∃ r : Int64, v = some (.long r) ∧ h0 = h ∧ r.toInt = (hiN b : Int)) := by
  refine ctr (own := "com/example/spokewire/spokewire/cli/LatencyHistogram") (nm := "percentile") rfl rfl (Ls := #[.val (.ref a), .val (.double (4602678819172646912 : UInt64)), .second, .unset, .unset, .unset, .unset, .unset]) (plainFor_of_name pn2) (fun m => by first | (simp [entryFrame, mkF, argsToLocals, Value.category]; done) | rfl) ?_
  intro p e s m below meth c K eh
  refine Jvm.OwnWp.aloadN K d_prog_7_method_5_0 rfl rfl (pc' := 1) rfl ?_
  refine Jvm.OwnWp.getf K (wd17 hw) Via.refl Ft d_prog_7_method_5_1 (pc' := 4) rfl ?_
  refine Jvm.OwnWp.lconst K (0 : Int64) d_prog_7_method_5_4 (by decide) (pc' := 5) rfl ?_
  refine Jvm.OwnWp.lcmp K d_prog_7_method_5_5 (pc' := 6) rfl ?_
  refine ifY K d_prog_7_method_5_6 (by decide) (pc' := 19) (by decide) (by decide) ?_
  refine Jvm.OwnWp.lconst K (1 : Int64) d_prog_7_method_5_19 (by decide) (pc' := 20) rfl ?_
  refine Jvm.OwnWp.dloadN K d_prog_7_method_5_20 rfl (pc' := 21) rfl ?_
  refine Jvm.OwnWp.aloadN K d_prog_7_method_5_21 rfl rfl (pc' := 22) rfl ?_
  refine Jvm.OwnWp.getf K (wd17 hw) Via.refl Ft d_prog_7_method_5_22 (pc' := 25) rfl ?_
  refine Jvm.OwnWp.l2d K d_prog_7_method_5_25 (pc' := 26) rfl ?_
  refine Jvm.OwnWp.dmul K d_prog_7_method_5_26 (by unfold Jvm.Free.Fl.NoNaN64; decide +kernel) (pc' := 27) rfl ?_
  rw [show (FP.dmul (4602678819172646912 : UInt64) (FP.l2d (2 : Int64))) = (4607182418800017408 : UInt64) from by decide +kernel]
  show Go _ _ _ _ _ _ _ _ _ _ _ h0 0 0 (mkF m 27 #[.val (.ref a), .val (.double (4602678819172646912 : UInt64)), .second, .unset, .unset, .unset, .unset, .unset] [(.double (4607182418800017408 : UInt64)), (.long (1 : Int64))]) _
  have V := StaR.of K.2.1 (Sta.ext O0.2 S_ad)
  refine callCeil K (b := (4607182418800017408 : UInt64)) (z := (4607182418800017408 : UInt64)) (wd42 hw) (wd43 hw) (wd31 hw) (wd44 hw) (wd48 hw) (wd47 hw) (by decide) d_prog_7_method_5_27 rfl (Nat.le_of_ble_eq_true rfl) (Nat.le_of_ble_eq_true rfl) (fun T F hadm eT hm h1 h2 N F0 hN mS methS cS K1 => go_ceil1 K.1 K.2.1 hw V T F hadm eT hm h1 h2 N F0 hN mS methS cS K1) (pc' := 30) rfl ?_
  refine Jvm.OwnWp.d2l K d_prog_7_method_5_30 (pc' := 31) rfl ?_
  rw [show (FP.d2l (4607182418800017408 : UInt64)) = (1 : Int64) from by decide +kernel]
  show Go _ _ _ _ _ _ _ _ _ _ _ h0 0 0 (mkF m 31 #[.val (.ref a), .val (.double (4602678819172646912 : UInt64)), .second, .unset, .unset, .unset, .unset, .unset] [(.long (1 : Int64)), (.long (1 : Int64))]) _
  refine callStatic K (y := (⟨"java/lang/Math", "max", "(JJ)J"⟩ : MethodName)) (argsL := [(.long (1 : Int64)), (.long (1 : Int64))]) (S := []) (wd29 hw) (wd30 hw) (wd31 hw) (wd32 hw) (by decide) (c_max l Z a0 hw [] (1 : Int64) (1 : Int64) h0 n0 Z0) (lenOf pd4 rfl) d_prog_7_method_5_31 rfl (Nat.le_of_ble_eq_true rfl) (Nat.le_of_ble_eq_true rfl) (Nat.le_of_ble_eq_true rfl) (Nat.le_of_ble_eq_true rfl) rfl (pc' := 34) rfl ?_
  rintro v14 h14 ⟨r14, rfl, rfl, e14⟩
  show Go _ _ _ _ _ _ _ _ _ _ _ h0 0 0 (mkF m 34 #[.val (.ref a), .val (.double (4602678819172646912 : UInt64)), .second, .unset, .unset, .unset, .unset, .unset] [(.long r14)]) _
  obtain rfl : r14 = (1 : Int64) := Int64.toInt_inj.mp (by rw [e14]; decide)
  show Go _ _ _ _ _ _ _ _ _ _ _ h0 0 0 (mkF m 34 #[.val (.ref a), .val (.double (4602678819172646912 : UInt64)), .second, .unset, .unset, .unset, .unset, .unset] [(.long (1 : Int64))]) _
  refine Jvm.OwnWp.lstoreN K d_prog_7_method_5_34 (Ls' := #[.val (.ref a), .val (.double (4602678819172646912 : UInt64)), .second, .val (.long (1 : Int64)), .second, .unset, .unset, .unset]) rfl (pc' := 35) rfl ?_
  refine Jvm.OwnWp.lconst K (0 : Int64) d_prog_7_method_5_35 (by decide) (pc' := 36) rfl ?_
  refine Jvm.OwnWp.lstore K d_prog_7_method_5_36 (Ls' := #[.val (.ref a), .val (.double (4602678819172646912 : UInt64)), .second, .val (.long (1 : Int64)), .second, .val (.long (0 : Int64)), .second, .unset]) rfl (pc' := 38) rfl ?_
  refine Jvm.OwnWp.iconst K (0 : Int32) d_prog_7_method_5_38 (by decide) (pc' := 39) rfl ?_
  refine Jvm.OwnWp.istore K d_prog_7_method_5_39 (Ls' := #[.val (.ref a), .val (.double (4602678819172646912 : UInt64)), .second, .val (.long (1 : Int64)), .second, .val (.long (0 : Int64)), .second, .val (.int (0 : Int32))]) rfl (pc' := 41) rfl ?_
  have loop : ∀ (d k : Nat) (i : Int32) (sn : Int64), k + d = b → i.toInt = k → sn.toInt = Sm f k → Go p l e ({ frames := 8, cells := 0, slots := 0, locals := 152 } : Room) s m #[(.ref a), (.double (4602678819172646912 : UInt64))] below meth c n0 h0 0 0 (mkF m 41 #[.val (.ref a), .val (.double (4602678819172646912 : UInt64)), .second, .val (.long (1 : Int64)), .second, .val (.long sn), .second, .val (.int i)] []) (fun v h => ∃ r : Int64, v = some (.long r) ∧ h0 = h ∧ r.toInt = (hiN b : Int)) := by
    intro d
    induction d with
    | zero =>
      intro k i sn hk hi hs
      obtain ⟨xs, VX, LX, PX⟩ := id H0
      have b1 := sm (k + 1)
      have b2 := sm k
      have eS : Sm f (k + 1) = Sm f k + f k := rfl
      have ea : (sn + Int64.ofNat (f k)).toInt = Sm f (k + 1) := by have e1 := own_nat (n := f k) (by omega); rw [Jvm.OwnHist.add64 (by omega) (by omega), hs, e1, eS]; omega
      refine Jvm.OwnWp.lload K d_prog_7_method_5_41 rfl (pc' := 43) rfl ?_
      refine Jvm.OwnWp.aloadN K d_prog_7_method_5_43 rfl rfl (pc' := 44) rfl ?_
      refine Jvm.OwnWp.getf K (wd10 hw) Via.refl Fc d_prog_7_method_5_44 (pc' := 47) rfl ?_
      refine Jvm.OwnWp.iload K d_prog_7_method_5_47 rfl (pc' := 49) rfl ?_
      refine laload K (i := k) VX hi (PX k (by omega)) d_prog_7_method_5_49 (pc' := 50) rfl ?_
      refine Jvm.OwnWp.ladd K d_prog_7_method_5_50 (pc' := 51) rfl ?_
      refine Jvm.OwnWp.lloadN K d_prog_7_method_5_51 rfl (pc' := 52) rfl ?_
      refine Jvm.OwnWp.lcmp K d_prog_7_method_5_52 (pc' := 53) rfl ?_
      obtain rfl : k = b := by omega
      refine ifY K d_prog_7_method_5_53 (XT.ll_ge_t (by rw [Int64.lt_iff_toInt_lt, ea]; simp only [Int64.reduceToInt]; omega)) (pc' := 74) (by decide) (by decide) ?_
      refine Jvm.OwnWp.iload K d_prog_7_method_5_74 rfl (pc' := 76) rfl ?_
      refine callStatic K (y := (⟨"com/example/spokewire/spokewire/cli/LatencyHistogram", "highestOf", "(I)J"⟩ : MethodName)) (argsL := [(.int i)]) (S := []) (wd65 hw) (wd66 hw) (wd2 hw) (wd67 hw) (by decide) (c_hi l Z a0 hw [] i k h0 n0 Z0 hi hb) (lenOf pd5 rfl) d_prog_7_method_5_76 rfl (Nat.le_of_ble_eq_true rfl) (Nat.le_of_ble_eq_true rfl) (Nat.le_of_ble_eq_true rfl) (Nat.le_of_ble_eq_true rfl) rfl (pc' := 79) rfl ?_
      rintro v15 h15 ⟨r15, rfl, rfl, e15⟩
      show Go _ _ _ _ _ _ _ _ _ _ _ h0 0 0 (mkF m 79 #[.val (.ref a), .val (.double (4602678819172646912 : UInt64)), .second, .val (.long (1 : Int64)), .second, .val (.long sn), .second, .val (.int i)] [(.long r15)]) _
      refine retL K rfl d_prog_7_method_5_79 (Nat.le_of_ble_eq_true rfl) (Nat.le_of_ble_eq_true rfl) ?_
      exact ⟨_, rfl, rfl, e15⟩
    | succ d ih =>
      intro k i sn hk hi hs
      obtain ⟨xs, VX, LX, PX⟩ := id H0
      have b1 := sm (k + 1)
      have b2 := sm k
      have eS : Sm f (k + 1) = Sm f k + f k := rfl
      have ea : (sn + Int64.ofNat (f k)).toInt = Sm f (k + 1) := by have e1 := own_nat (n := f k) (by omega); rw [Jvm.OwnHist.add64 (by omega) (by omega), hs, e1, eS]; omega
      refine Jvm.OwnWp.lload K d_prog_7_method_5_41 rfl (pc' := 43) rfl ?_
      refine Jvm.OwnWp.aloadN K d_prog_7_method_5_43 rfl rfl (pc' := 44) rfl ?_
      refine Jvm.OwnWp.getf K (wd10 hw) Via.refl Fc d_prog_7_method_5_44 (pc' := 47) rfl ?_
      refine Jvm.OwnWp.iload K d_prog_7_method_5_47 rfl (pc' := 49) rfl ?_
      refine laload K (i := k) VX hi (PX k (by omega)) d_prog_7_method_5_49 (pc' := 50) rfl ?_
      refine Jvm.OwnWp.ladd K d_prog_7_method_5_50 (pc' := 51) rfl ?_
      refine Jvm.OwnWp.lloadN K d_prog_7_method_5_51 rfl (pc' := 52) rfl ?_
      refine Jvm.OwnWp.lcmp K d_prog_7_method_5_52 (pc' := 53) rfl ?_
      have m1 := Sm_mono f (show k + 1 ≤ b by omega)
      refine ifN K d_prog_7_method_5_53 (XT.ll_ge_f (by rw [Int64.lt_iff_toInt_lt, ea]; simp only [Int64.reduceToInt]; omega)) (pc' := 56) rfl ?_
      refine Jvm.OwnWp.lload K d_prog_7_method_5_56 rfl (pc' := 58) rfl ?_
      refine Jvm.OwnWp.aloadN K d_prog_7_method_5_58 rfl rfl (pc' := 59) rfl ?_
      refine Jvm.OwnWp.getf K (wd10 hw) Via.refl Fc d_prog_7_method_5_59 (pc' := 62) rfl ?_
      refine Jvm.OwnWp.iload K d_prog_7_method_5_62 rfl (pc' := 64) rfl ?_
      refine laload K (i := k) VX hi (PX k (by omega)) d_prog_7_method_5_64 (pc' := 65) rfl ?_
      refine Jvm.OwnWp.ladd K d_prog_7_method_5_65 (pc' := 66) rfl ?_
      refine Jvm.OwnWp.lstore K d_prog_7_method_5_66 (Ls' := #[.val (.ref a), .val (.double (4602678819172646912 : UInt64)), .second, .val (.long (1 : Int64)), .second, .val (.long (sn + (Int64.ofNat (f k)))), .second, .val (.int i)]) rfl (pc' := 68) rfl ?_
      refine Jvm.OwnWp.iinc K (1 : Int32) d_prog_7_method_5_68 (by decide) rfl (Ls' := #[.val (.ref a), .val (.double (4602678819172646912 : UInt64)), .second, .val (.long (1 : Int64)), .second, .val (.long (sn + (Int64.ofNat (f k)))), .second, .val (.int (i + (1 : Int32)))]) rfl (pc' := 71) rfl ?_
      refine goto' K d_prog_7_method_5_71 (pc' := 41) (by decide) (by decide) ?_
      exact ih (k + 1) _ _ (by omega) (by rw [Jvm.OwnHist.add32 (by rw [hi]; show _ ≤ (k : Int) + 1; omega) (by rw [hi]; show (k : Int) + 1 ≤ _; omega), hi]; rfl) ea
  exact loop b 0 _ _ (by omega) rfl rfl
set_option maxRecDepth 65536 in
set_option maxHeartbeats 40000000 in
theorem c_per1_2 (l : Launch) (Z : State) (a0 : Array Value) (hw : ∀ d ∈ tables_1, d.before a0 Z = true) (ws : List Jvm.Cond) (a ca : Addr) (f : Nat → Nat) (b : Nat) (h0 : Heap) (n0 : Nat) (Z0 : n0 ≤ h0.size) (O0 : Old Z n0 h0) (S_ad : Sta Z Z.heap "java/lang/StrictMath" "$assertionsDisabled" "Z" (.int 1)) (Fc : Fld Z h0 a "com/example/spokewire/spokewire/cli/LatencyHistogram" "counts" "[J" (.ref ca)) (Ft : Fld Z h0 a "com/example/spokewire/spokewire/cli/LatencyHistogram" "total" "J" (.long 2)) (H0 : Hst Z h0 ca f) (hb : b < 7296) (s1 : Sm f b < 2) (s2 : 2 ≤ Sm f (b + 1)) (sm : ∀ k, Sm f k ≤ 3) :
    Ctr l Z (⟨"com/example/spokewire/spokewire/cli/LatencyHistogram", "percentile", "(D)J"⟩ : MethodName) prog_7_method_5_code 8 (some .long) ws ({ frames := 8, cells := 0, slots := 0, locals := 152 } : Room) n0 #[(.ref a), (.double (4607182418800017408 : UInt64))] h0 (fun v h => ∃ r : Int64, v = some (.long r) ∧ h0 = h ∧ r.toInt = (hiN b : Int)) := by
  refine ctr (own := "com/example/spokewire/spokewire/cli/LatencyHistogram") (nm := "percentile") rfl rfl (Ls := #[.val (.ref a), .val (.double (4607182418800017408 : UInt64)), .second, .unset, .unset, .unset, .unset, .unset]) (plainFor_of_name pn2) (fun m => by first | (simp [entryFrame, mkF, argsToLocals, Value.category]; done) | rfl) ?_
  intro p e s m below meth c K eh
  refine Jvm.OwnWp.aloadN K d_prog_7_method_5_0 rfl rfl (pc' := 1) rfl ?_
  refine Jvm.OwnWp.getf K (wd17 hw) Via.refl Ft d_prog_7_method_5_1 (pc' := 4) rfl ?_
  refine Jvm.OwnWp.lconst K (0 : Int64) d_prog_7_method_5_4 (by decide) (pc' := 5) rfl ?_
  refine Jvm.OwnWp.lcmp K d_prog_7_method_5_5 (pc' := 6) rfl ?_
  refine ifY K d_prog_7_method_5_6 (by decide) (pc' := 19) (by decide) (by decide) ?_
  refine Jvm.OwnWp.lconst K (1 : Int64) d_prog_7_method_5_19 (by decide) (pc' := 20) rfl ?_
  refine Jvm.OwnWp.dloadN K d_prog_7_method_5_20 rfl (pc' := 21) rfl ?_
  refine Jvm.OwnWp.aloadN K d_prog_7_method_5_21 rfl rfl (pc' := 22) rfl ?_
  refine Jvm.OwnWp.getf K (wd17 hw) Via.refl Ft d_prog_7_method_5_22 (pc' := 25) rfl ?_
  refine Jvm.OwnWp.l2d K d_prog_7_method_5_25 (pc' := 26) rfl ?_
  refine Jvm.OwnWp.dmul K d_prog_7_method_5_26 (by unfold Jvm.Free.Fl.NoNaN64; decide +kernel) (pc' := 27) rfl ?_
  rw [show (FP.dmul (4607182418800017408 : UInt64) (FP.l2d (2 : Int64))) = (4611686018427387904 : UInt64) from by decide +kernel]
  show Go _ _ _ _ _ _ _ _ _ _ _ h0 0 0 (mkF m 27 #[.val (.ref a), .val (.double (4607182418800017408 : UInt64)), .second, .unset, .unset, .unset, .unset, .unset] [(.double (4611686018427387904 : UInt64)), (.long (1 : Int64))]) _
  have V := StaR.of K.2.1 (Sta.ext O0.2 S_ad)
  refine callCeil K (b := (4611686018427387904 : UInt64)) (z := (4611686018427387904 : UInt64)) (wd42 hw) (wd43 hw) (wd31 hw) (wd44 hw) (wd48 hw) (wd47 hw) (by decide) d_prog_7_method_5_27 rfl (Nat.le_of_ble_eq_true rfl) (Nat.le_of_ble_eq_true rfl) (fun T F hadm eT hm h1 h2 N F0 hN mS methS cS K1 => go_ceil2 K.1 K.2.1 hw V T F hadm eT hm h1 h2 N F0 hN mS methS cS K1) (pc' := 30) rfl ?_
  refine Jvm.OwnWp.d2l K d_prog_7_method_5_30 (pc' := 31) rfl ?_
  rw [show (FP.d2l (4611686018427387904 : UInt64)) = (2 : Int64) from by decide +kernel]
  show Go _ _ _ _ _ _ _ _ _ _ _ h0 0 0 (mkF m 31 #[.val (.ref a), .val (.double (4607182418800017408 : UInt64)), .second, .unset, .unset, .unset, .unset, .unset] [(.long (2 : Int64)), (.long (1 : Int64))]) _
  refine callStatic K (y := (⟨"java/lang/Math", "max", "(JJ)J"⟩ : MethodName)) (argsL := [(.long (1 : Int64)), (.long (2 : Int64))]) (S := []) (wd29 hw) (wd30 hw) (wd31 hw) (wd32 hw) (by decide) (c_max l Z a0 hw [] (1 : Int64) (2 : Int64) h0 n0 Z0) (lenOf pd4 rfl) d_prog_7_method_5_31 rfl (Nat.le_of_ble_eq_true rfl) (Nat.le_of_ble_eq_true rfl) (Nat.le_of_ble_eq_true rfl) (Nat.le_of_ble_eq_true rfl) rfl (pc' := 34) rfl ?_
  rintro v16 h16 ⟨r16, rfl, rfl, e16⟩
  show Go _ _ _ _ _ _ _ _ _ _ _ h0 0 0 (mkF m 34 #[.val (.ref a), .val (.double (4607182418800017408 : UInt64)), .second, .unset, .unset, .unset, .unset, .unset] [(.long r16)]) _
  obtain rfl : r16 = (2 : Int64) := Int64.toInt_inj.mp (by rw [e16]; decide)
  show Go _ _ _ _ _ _ _ _ _ _ _ h0 0 0 (mkF m 34 #[.val (.ref a), .val (.double (4607182418800017408 : UInt64)), .second, .unset, .unset, .unset, .unset, .unset] [(.long (2 : Int64))]) _
  refine Jvm.OwnWp.lstoreN K d_prog_7_method_5_34 (Ls' := #[.val (.ref a), .val (.double (4607182418800017408 : UInt64)), .second, .val (.long (2 : Int64)), .second, .unset, .unset, .unset]) rfl (pc' := 35) rfl ?_
  refine Jvm.OwnWp.lconst K (0 : Int64) d_prog_7_method_5_35 (by decide) (pc' := 36) rfl ?_
  refine Jvm.OwnWp.lstore K d_prog_7_method_5_36 (Ls' := #[.val (.ref a), .val (.double (4607182418800017408 : UInt64)), .second, .val (.long (2 : Int64)), .second, .val (.long (0 : Int64)), .second, .unset]) rfl (pc' := 38) rfl ?_
  refine Jvm.OwnWp.iconst K (0 : Int32) d_prog_7_method_5_38 (by decide) (pc' := 39) rfl ?_
  refine Jvm.OwnWp.istore K d_prog_7_method_5_39 (Ls' := #[.val (.ref a), .val (.double (4607182418800017408 : UInt64)), .second, .val (.long (2 : Int64)), .second, .val (.long (0 : Int64)), .second, .val (.int (0 : Int32))]) rfl (pc' := 41) rfl ?_
  have loop : ∀ (d k : Nat) (i : Int32) (sn : Int64), k + d = b → i.toInt = k → sn.toInt = Sm f k → Go p l e ({ frames := 8, cells := 0, slots := 0, locals := 152 } : Room) s m #[(.ref a), (.double (4607182418800017408 : UInt64))] below meth c n0 h0 0 0 (mkF m 41 #[.val (.ref a), .val (.double (4607182418800017408 : UInt64)), .second, .val (.long (2 : Int64)), .second, .val (.long sn), .second, .val (.int i)] []) (fun v h => ∃ r : Int64, v = some (.long r) ∧ h0 = h ∧ r.toInt = (hiN b : Int)) := by
    intro d
    induction d with
    | zero =>
      intro k i sn hk hi hs
      obtain ⟨xs, VX, LX, PX⟩ := id H0
      have b1 := sm (k + 1)
      have b2 := sm k
      have eS : Sm f (k + 1) = Sm f k + f k := rfl
      have ea : (sn + Int64.ofNat (f k)).toInt = Sm f (k + 1) := by have e1 := own_nat (n := f k) (by omega); rw [Jvm.OwnHist.add64 (by omega) (by omega), hs, e1, eS]; omega
      refine Jvm.OwnWp.lload K d_prog_7_method_5_41 rfl (pc' := 43) rfl ?_
      refine Jvm.OwnWp.aloadN K d_prog_7_method_5_43 rfl rfl (pc' := 44) rfl ?_
      refine Jvm.OwnWp.getf K (wd10 hw) Via.refl Fc d_prog_7_method_5_44 (pc' := 47) rfl ?_
      refine Jvm.OwnWp.iload K d_prog_7_method_5_47 rfl (pc' := 49) rfl ?_
      refine laload K (i := k) VX hi (PX k (by omega)) d_prog_7_method_5_49 (pc' := 50) rfl ?_
      refine Jvm.OwnWp.ladd K d_prog_7_method_5_50 (pc' := 51) rfl ?_
      refine Jvm.OwnWp.lloadN K d_prog_7_method_5_51 rfl (pc' := 52) rfl ?_
      refine Jvm.OwnWp.lcmp K d_prog_7_method_5_52 (pc' := 53) rfl ?_
      obtain rfl : k = b := by omega
      refine ifY K d_prog_7_method_5_53 (XT.ll_ge_t (by rw [Int64.lt_iff_toInt_lt, ea]; simp only [Int64.reduceToInt]; omega)) (pc' := 74) (by decide) (by decide) ?_
      refine Jvm.OwnWp.iload K d_prog_7_method_5_74 rfl (pc' := 76) rfl ?_
      refine callStatic K (y := (⟨"com/example/spokewire/spokewire/cli/LatencyHistogram", "highestOf", "(I)J"⟩ : MethodName)) (argsL := [(.int i)]) (S := []) (wd65 hw) (wd66 hw) (wd2 hw) (wd67 hw) (by decide) (c_hi l Z a0 hw [] i k h0 n0 Z0 hi hb) (lenOf pd5 rfl) d_prog_7_method_5_76 rfl (Nat.le_of_ble_eq_true rfl) (Nat.le_of_ble_eq_true rfl) (Nat.le_of_ble_eq_true rfl) (Nat.le_of_ble_eq_true rfl) rfl (pc' := 79) rfl ?_
      rintro v17 h17 ⟨r17, rfl, rfl, e17⟩
      show Go _ _ _ _ _ _ _ _ _ _ _ h0 0 0 (mkF m 79 #[.val (.ref a), .val (.double (4607182418800017408 : UInt64)), .second, .val (.long (2 : Int64)), .second, .val (.long sn), .second, .val (.int i)] [(.long r17)]) _
      refine retL K rfl d_prog_7_method_5_79 (Nat.le_of_ble_eq_true rfl) (Nat.le_of_ble_eq_true rfl) ?_
      exact ⟨_, rfl, rfl, e17⟩
    | succ d ih =>
      intro k i sn hk hi hs
      obtain ⟨xs, VX, LX, PX⟩ := id H0
      have b1 := sm (k + 1)
      have b2 := sm k
      have eS : Sm f (k + 1) = Sm f k + f k := rfl
      have ea : (sn + Int64.ofNat (f k)).toInt = Sm f (k + 1) := by have e1 := own_nat (n := f k) (by omega); rw [Jvm.OwnHist.add64 (by omega) (by omega), hs, e1, eS]; omega
      refine Jvm.OwnWp.lload K d_prog_7_method_5_41 rfl (pc' := 43) rfl ?_
      refine Jvm.OwnWp.aloadN K d_prog_7_method_5_43 rfl rfl (pc' := 44) rfl ?_
      refine Jvm.OwnWp.getf K (wd10 hw) Via.refl Fc d_prog_7_method_5_44 (pc' := 47) rfl ?_
      refine Jvm.OwnWp.iload K d_prog_7_method_5_47 rfl (pc' := 49) rfl ?_
      refine laload K (i := k) VX hi (PX k (by omega)) d_prog_7_method_5_49 (pc' := 50) rfl ?_
      refine Jvm.OwnWp.ladd K d_prog_7_method_5_50 (pc' := 51) rfl ?_
      refine Jvm.OwnWp.lloadN K d_prog_7_method_5_51 rfl (pc' := 52) rfl ?_
      refine Jvm.OwnWp.lcmp K d_prog_7_method_5_52 (pc' := 53) rfl ?_
      have m1 := Sm_mono f (show k + 1 ≤ b by omega)
      refine ifN K d_prog_7_method_5_53 (XT.ll_ge_f (by rw [Int64.lt_iff_toInt_lt, ea]; simp only [Int64.reduceToInt]; omega)) (pc' := 56) rfl ?_
      refine Jvm.OwnWp.lload K d_prog_7_method_5_56 rfl (pc' := 58) rfl ?_
      refine Jvm.OwnWp.aloadN K d_prog_7_method_5_58 rfl rfl (pc' := 59) rfl ?_
      refine Jvm.OwnWp.getf K (wd10 hw) Via.refl Fc d_prog_7_method_5_59 (pc' := 62) rfl ?_
      refine Jvm.OwnWp.iload K d_prog_7_method_5_62 rfl (pc' := 64) rfl ?_
      refine laload K (i := k) VX hi (PX k (by omega)) d_prog_7_method_5_64 (pc' := 65) rfl ?_
      refine Jvm.OwnWp.ladd K d_prog_7_method_5_65 (pc' := 66) rfl ?_
      refine Jvm.OwnWp.lstore K d_prog_7_method_5_66 (Ls' := #[.val (.ref a), .val (.double (4607182418800017408 : UInt64)), .second, .val (.long (2 : Int64)), .second, .val (.long (sn + (Int64.ofNat (f k)))), .second, .val (.int i)]) rfl (pc' := 68) rfl ?_
      refine Jvm.OwnWp.iinc K (1 : Int32) d_prog_7_method_5_68 (by decide) rfl (Ls' := #[.val (.ref a), .val (.double (4607182418800017408 : UInt64)), .second, .val (.long (2 : Int64)), .second, .val (.long (sn + (Int64.ofNat (f k)))), .second, .val (.int (i + (1 : Int32)))]) rfl (pc' := 71) rfl ?_
      refine goto' K d_prog_7_method_5_71 (pc' := 41) (by decide) (by decide) ?_
      exact ih (k + 1) _ _ (by omega) (by rw [Jvm.OwnHist.add32 (by rw [hi]; show _ ≤ (k : Int) + 1; omega) (by rw [hi]; show (k : Int) + 1 ≤ _; omega), hi]; rfl) ea
  exact loop b 0 _ _ (by omega) rfl rfl
theorem own_lt7 {i : Int32} {k : Nat} (hi : i.toInt = k) : (i < 7296 ↔ k < 7296) := by
  rw [Int32.lt_iff_toInt_lt, hi]; simp only [Int32.reduceToInt]; omega
set_option maxRecDepth 65536 in
set_option maxHeartbeats 40000000 in
theorem c_add (l : Launch) (Z : State) (a0 : Array Value) (hw : ∀ d ∈ tables_1, d.before a0 Z = true) (ws : List Jvm.Cond) (a b ca cb : Addr) (t u t' : Int64) (f g : Nat → Nat) (h0 : Heap) (n0 : Nat) (Z0 : n0 ≤ h0.size) (E : Exa Z h0 a "com/example/spokewire/spokewire/cli/LatencyHistogram") (ge_a : n0 ≤ a) (ge_ca : n0 ≤ ca) (ne_ca_a : ca ≠ a) (ne_ca_b : ca ≠ b) (ne_cb_ca : cb ≠ ca) (Fc : Fld Z h0 a "com/example/spokewire/spokewire/cli/LatencyHistogram" "counts" "[J" (.ref ca)) (Ft : Fld Z h0 a "com/example/spokewire/spokewire/cli/LatencyHistogram" "total" "J" (.long t)) (Gc : Fld Z h0 b "com/example/spokewire/spokewire/cli/LatencyHistogram" "counts" "[J" (.ref cb)) (Gt : Fld Z h0 b "com/example/spokewire/spokewire/cli/LatencyHistogram" "total" "J" (.long u)) (H0 : Hst Z h0 ca f) (H1 : Hst Z h0 cb g) (ht : t + u = t') :
    Ctr l Z (⟨"com/example/spokewire/spokewire/cli/LatencyHistogram", "add", "(Lcom/example/spokewire/spokewire/cli/LatencyHistogram;)V"⟩ : MethodName) prog_7_method_3_code 3 none ws ({ frames := 0, cells := 0, slots := 0, locals := 0 } : Room) n0 #[(.ref a), (.ref b)] h0 (fun v h => v = none ∧ Keep h0 h [a, ca] ∧ Fld Z h a "com/example/spokewire/spokewire/cli/LatencyHistogram" "counts" "[J" (.ref ca) ∧ Fld Z h a "com/example/spokewire/spokewire/cli/LatencyHistogram" "total" "J" (.long t') ∧ Hst Z h ca (add2 f g)) := by
  refine ctr (own := "com/example/spokewire/spokewire/cli/LatencyHistogram") (nm := "add") rfl rfl (Ls := #[.val (.ref a), .val (.ref b), .unset]) (plainFor_of_name pn2) (fun m => by first | (simp [entryFrame, mkF, argsToLocals, Value.category]; done) | rfl) ?_
  intro p e s m below meth c K eh
  have P0 := Keep.refl h0 [a, ca]
  refine Jvm.OwnWp.iconst K (0 : Int32) d_prog_7_method_3_0 (by decide) (pc' := 1) rfl ?_
  refine Jvm.OwnWp.istoreN K d_prog_7_method_3_1 (Ls' := #[.val (.ref a), .val (.ref b), .val (.int (0 : Int32))]) rfl (pc' := 2) rfl ?_
  have loop : ∀ (d k : Nat) (i : Int32) (hh : Heap), k + d = 7296 → i.toInt = k → Keep h0 hh [a, ca] → Keep h0 hh [ca] → Hst Z hh ca (mix f g k) → Go p l e ({ frames := 0, cells := 0, slots := 0, locals := 0 } : Room) s m #[(.ref a), (.ref b)] below meth c n0 hh 0 0 (mkF m 2 #[.val (.ref a), .val (.ref b), .val (.int i)] []) (fun v h => v = none ∧ Keep h0 h [a, ca] ∧ Fld Z h a "com/example/spokewire/spokewire/cli/LatencyHistogram" "counts" "[J" (.ref ca) ∧ Fld Z h a "com/example/spokewire/spokewire/cli/LatencyHistogram" "total" "J" (.long t') ∧ Hst Z h ca (add2 f g)) := by
    intro d
    induction d with
    | zero =>
      intro k i hh hk hi LP LQ LH
      have LE := Exa.keep E LQ
      have LFc := Fld.keep Fc LQ (ninS (Ne.symm ne_ca_a) nin0)
      have LFt := Fld.keep Ft LQ (ninS (Ne.symm ne_ca_a) nin0)
      have LGc := Fld.keep Gc LQ (ninS (Ne.symm ne_ca_b) nin0)
      have LGt := Fld.keep Gt LQ (ninS (Ne.symm ne_ca_b) nin0)
      have LH1 := Hst.keep H1 LQ (ninS ne_cb_ca nin0)
      refine Jvm.OwnWp.iloadN K d_prog_7_method_3_2 rfl (pc' := 3) rfl ?_
      refine Jvm.OwnWp.sipush K (7296 : Int32) d_prog_7_method_3_3 (by decide) (pc' := 6) rfl ?_
      obtain rfl : k = 7296 := by omega
      refine icY K d_prog_7_method_3_6 (XT.ii_ge_t (fun q => absurd ((own_lt7 hi).mp q) (by decide))) (pc' := 30) (by decide) (by decide) ?_
      refine Jvm.OwnWp.aloadN K d_prog_7_method_3_30 rfl rfl (pc' := 31) rfl ?_
      refine Jvm.OwnWp.dup K d_prog_7_method_3_31 rfl (pc' := 32) rfl ?_
      refine Jvm.OwnWp.getf K (wd17 hw) Via.refl LFt d_prog_7_method_3_32 (pc' := 35) rfl ?_
      refine Jvm.OwnWp.aloadN K d_prog_7_method_3_35 rfl rfl (pc' := 36) rfl ?_
      refine Jvm.OwnWp.getf K (wd17 hw) Via.refl LGt d_prog_7_method_3_36 (pc' := 39) rfl ?_
      refine Jvm.OwnWp.ladd K d_prog_7_method_3_39 (pc' := 40) rfl ?_
      rw [ht]
      refine putf K (wd17 hw) Via.refl LFt LE (Or.inl (wd18 hw)) (wd1 hw) (ty := .long) (by decide) rfl rfl ge_a d_prog_7_method_3_40 (pc' := 43) rfl ?_
      intro h18 W18
      have F18_counts_a := (Fld.other W18 LFc (Or.inr (sn_LatencyHistogram_counts_total hw)))
      have X18_a := (Exa.wr W18 LE)
      have V18_ca := (LH.other W18 ne_ca_a)
      have P18 := (LP.wr W18 (Or.inl (List.mem_of_getElem? (i := 0) rfl)))
      have F18_total_a := Fld.same W18 LFt
      refine retV K rfl d_prog_7_method_3_43 (Nat.le_of_ble_eq_true rfl) (Nat.le_of_ble_eq_true rfl) ?_
      exact ⟨rfl, P18, F18_counts_a, F18_total_a, V18_ca.congr fun i hi => mix_end f g hi⟩
    | succ d ih =>
      intro k i hh hk hi LP LQ LH
      have LE := Exa.keep E LQ
      have LFc := Fld.keep Fc LQ (ninS (Ne.symm ne_ca_a) nin0)
      have LFt := Fld.keep Ft LQ (ninS (Ne.symm ne_ca_a) nin0)
      have LGc := Fld.keep Gc LQ (ninS (Ne.symm ne_ca_b) nin0)
      have LGt := Fld.keep Gt LQ (ninS (Ne.symm ne_ca_b) nin0)
      have LH1 := Hst.keep H1 LQ (ninS ne_cb_ca nin0)
      refine Jvm.OwnWp.iloadN K d_prog_7_method_3_2 rfl (pc' := 3) rfl ?_
      refine Jvm.OwnWp.sipush K (7296 : Int32) d_prog_7_method_3_3 (by decide) (pc' := 6) rfl ?_
      refine icN K d_prog_7_method_3_6 (XT.ii_ge_f ((own_lt7 hi).mpr (by omega))) (pc' := 9) rfl ?_
      obtain ⟨xs, VX, LX, PX⟩ := id LH
      obtain ⟨ys, VY, LY, PY⟩ := id LH1
      refine Jvm.OwnWp.aloadN K d_prog_7_method_3_9 rfl rfl (pc' := 10) rfl ?_
      refine Jvm.OwnWp.getf K (wd10 hw) Via.refl LFc d_prog_7_method_3_10 (pc' := 13) rfl ?_
      refine Jvm.OwnWp.iloadN K d_prog_7_method_3_13 rfl (pc' := 14) rfl ?_
      refine Jvm.OwnWp.dup2 K d_prog_7_method_3_14 rfl rfl (pc' := 15) rfl ?_
      refine laload K (i := k) VX hi (PX k (by omega)) d_prog_7_method_3_15 (pc' := 16) rfl ?_
      refine Jvm.OwnWp.aloadN K d_prog_7_method_3_16 rfl rfl (pc' := 17) rfl ?_
      refine Jvm.OwnWp.getf K (wd10 hw) Via.refl LGc d_prog_7_method_3_17 (pc' := 20) rfl ?_
      refine Jvm.OwnWp.iloadN K d_prog_7_method_3_20 rfl (pc' := 21) rfl ?_
      refine laload K (i := k) VY hi (PY k (by omega)) d_prog_7_method_3_21 (pc' := 22) rfl ?_
      refine Jvm.OwnWp.ladd K d_prog_7_method_3_22 (pc' := 23) rfl ?_
      refine lastore K (i := k) VX hi (by rw [LX]; omega) ge_ca d_prog_7_method_3_23 (pc' := 24) rfl ?_
      intro h19 W19
      have LP19 := LP.wr W19 (Or.inl (List.mem_of_getElem? (i := 1) rfl))
      have LQ19 := LQ.wr W19 (Or.inl (List.mem_of_getElem? (i := 0) rfl))
      have LH19 := Hst.put VX LX PX (by omega) W19 (Int64.ofNat_add _ _).symm (g := mix f g (k + 1)) (fun j _ => mix_succ f g k j)
      refine Jvm.OwnWp.iinc K (1 : Int32) d_prog_7_method_3_24 (by decide) rfl (Ls' := #[.val (.ref a), .val (.ref b), .val (.int (i + (1 : Int32)))]) rfl (pc' := 27) rfl ?_
      refine goto' K d_prog_7_method_3_27 (pc' := 2) (by decide) (by decide) ?_
      exact ih (k + 1) _ _ (by omega) (by rw [Jvm.OwnHist.add32 (by rw [hi]; show _ ≤ (k : Int) + 1; omega) (by rw [hi]; show (k : Int) + 1 ≤ _; omega), hi]; rfl) LP19 LQ19 LH19
  exact loop 7296 0 _ _ (by omega) rfl P0 (Keep.refl h0 [ca]) (by rw [mix_zero]; exact H0)
theorem own_lo2 {a b r p : Int64} {A B : Nat} (ha : a.toInt = (hiN A : Int)) (hb : b.toInt = (hiN B : Int)) (hr : r.toInt = min a.toInt b.toInt) (hp : p.toInt = (hiN (min A B) : Int)) : p = r :=
  Int64.toInt_inj.mp (by rw [hp, hr, ha, hb, hi_min]; omega)
theorem own_hi2 {a b r p : Int64} {A B : Nat} (ha : a.toInt = (hiN A : Int)) (hb : b.toInt = (hiN B : Int)) (hr : r.toInt = max a.toInt b.toInt) (hp : p.toInt = (hiN (max A B) : Int)) : p = r :=
  Int64.toInt_inj.mp (by rw [hp, hr, ha, hb, hi_max]; omega)
theorem own_eq1 {a p : Int64} {A : Nat} (ha : a.toInt = (hiN A : Int)) (hp : p.toInt = (hiN A : Int)) : p = a := Int64.toInt_inj.mp (hp.trans ha.symm)
set_option maxRecDepth 65536 in
set_option maxHeartbeats 40000000 in
theorem c_law (l : Launch) (Z : State) (a0 : Array Value) (hw : ∀ d ∈ tables_1, d.before a0 Z = true) (ws : List Jvm.Cond) (pa pb : Int64) (fl : Int32) (h0 : Heap) (n0 : Nat) (Z0 : n0 ≤ h0.size) (O0 : Old Z n0 h0) (S_ad : Sta Z Z.heap "java/lang/StrictMath" "$assertionsDisabled" "Z" (.int 1)) :
    Ctr l Z x code maxLocals ret ws room_1 n0 #[(.long pa), (.long pb), (.int fl)] h0 (fun v h => v = some (.int 1)) := by
  refine ctr (own := "com/example/spokewire/spokewire/cli/LatencyHistogramAddPinLaw") (nm := "law") rfl rfl (Ls := #[.val (.long pa), .second, .val (.long pb), .second, .val (.int fl), .unset, .unset, .unset, .unset, .unset, .unset, .unset, .unset, .unset, .unset, .unset, .unset, .unset, .unset, .unset]) (plainFor_of_name pn3) (fun m => by first | (simp [entryFrame, mkF, argsToLocals, Value.category, maxLocals]; done) | rfl) ?_
  intro p e s m below meth c K eh
  have P0 := Keep.refl h0 []
  have hA := bkt_lt (nv_lt pa)
  have hB := bkt_lt (nv_lt pb)
  refine Jvm.OwnWp.iload K at_0 rfl (pc' := 2) rfl ?_
  refine Jvm.OwnWp.iconst K (1 : Int32) at_2 (by decide) (pc' := 3) rfl ?_
  refine Jvm.OwnWp.iand K at_3 (pc' := 4) rfl ?_
  by_cases c1 : (fl &&& (1 : Int32)) = 0
  · refine ifY K at_4 (XT.i0_eq_t c1) (pc' := 11) (by decide) (by decide) ?_
    refine Jvm.OwnWp.iconst K (0 : Int32) at_11 (by decide) (pc' := 12) rfl ?_
    refine Jvm.OwnWp.istore K at_12 (Ls' := #[.val (.long pa), .second, .val (.long pb), .second, .val (.int fl), .val (.int (0 : Int32)), .unset, .unset, .unset, .unset, .unset, .unset, .unset, .unset, .unset, .unset, .unset, .unset, .unset, .unset]) rfl (pc' := 14) rfl ?_
    refine Jvm.OwnWp.iload K at_14 rfl (pc' := 16) rfl ?_
    refine Jvm.OwnWp.iconst K (2 : Int32) at_16 (by decide) (pc' := 17) rfl ?_
    refine Jvm.OwnWp.iand K at_17 (pc' := 18) rfl ?_
    by_cases c2 : (fl &&& (2 : Int32)) = 0
    · refine ifY K at_18 (XT.i0_eq_t c2) (pc' := 25) (by decide) (by decide) ?_
      refine Jvm.OwnWp.iconst K (0 : Int32) at_25 (by decide) (pc' := 26) rfl ?_
      refine Jvm.OwnWp.istore K at_26 (Ls' := #[.val (.long pa), .second, .val (.long pb), .second, .val (.int fl), .val (.int (0 : Int32)), .val (.int (0 : Int32)), .unset, .unset, .unset, .unset, .unset, .unset, .unset, .unset, .unset, .unset, .unset, .unset, .unset]) rfl (pc' := 28) rfl ?_
      refine newObj K (wd0 hw) (wd1 hw) (wd2 hw) at_28 (by decide) (by decide) (pc' := 31) rfl ?_
      intro h20 b20 g20 E20 A20 D20
      have lt_b20 : h0.size ≤ b20 := Nat.le_trans P0.1 (Nat.le_of_eq g20.symm)
      have ge_b20 : n0 ≤ b20 := Nat.le_trans Z0 lt_b20
      have O20 := (O0.ext E20)
      have P20 := (P0.ext E20)
      have F20_counts_b20 : Fld Z h20 b20 "com/example/spokewire/spokewire/cli/LatencyHistogram" "counts" "[J" .null := D20 (Or.inr (wd11 hw)) (ty := (.array .long)) (by decide)
      have F20_total_b20 : Fld Z h20 b20 "com/example/spokewire/spokewire/cli/LatencyHistogram" "total" "J" (.long (0 : Int64)) := D20 (Or.inl (wd18 hw)) (ty := .long) (by decide)
      refine Jvm.OwnWp.dup K at_31 rfl (pc' := 32) rfl ?_
      refine callInit K (y := (⟨"com/example/spokewire/spokewire/cli/LatencyHistogram", "<init>", "()V"⟩ : MethodName)) (b := b20) (argsL := []) (S := [(.ref b20)]) rfl (wd3 hw) (wd4 hw) (wd2 hw) (wd5 hw) rfl (by decide) (c_lhi l Z a0 hw [] b20 h20 n0 (Nat.le_trans Z0 P20.1) A20 ge_b20 F20_counts_b20 F20_total_b20) (lenOf pd6 rfl) at_32 rfl (Nat.le_of_ble_eq_true rfl) (Nat.le_of_ble_eq_true rfl) (Nat.le_of_ble_eq_true rfl) (Nat.le_of_ble_eq_true rfl) rfl (pc' := 35) rfl ?_
      rintro v21 h21 ⟨rfl, K21, ca, L21, Q21_c, Q21_t, Q21_h⟩
      have ne_b20_ca : b20 ≠ ca := Nat.ne_of_lt (Nat.lt_of_lt_of_le (Exa.lt A20) L21)
      have lt_ca : h0.size ≤ ca := Nat.le_trans P20.1 L21
      have ge_ca : n0 ≤ ca := Nat.le_trans Z0 lt_ca
      have X21_b20 := (Exa.keep A20 K21)
      have O21 := (O20.keep K21 (allS ge_b20 (all0)))
      have P21 := (P20.trans K21 (allS (Or.inr lt_b20) (all0)))
      show Go _ _ _ _ _ _ _ _ _ _ _ h21 2 7298 (mkF m 35 #[.val (.long pa), .second, .val (.long pb), .second, .val (.int fl), .val (.int (0 : Int32)), .val (.int (0 : Int32)), .unset, .unset, .unset, .unset, .unset, .unset, .unset, .unset, .unset, .unset, .unset, .unset, .unset] [(.ref b20)]) _
      refine Jvm.OwnWp.astore K at_35 rfl (Ls' := #[.val (.long pa), .second, .val (.long pb), .second, .val (.int fl), .val (.int (0 : Int32)), .val (.int (0 : Int32)), .val (.ref b20), .unset, .unset, .unset, .unset, .unset, .unset, .unset, .unset, .unset, .unset, .unset, .unset]) rfl (pc' := 37) rfl ?_
      refine newObj K (wd0 hw) (wd1 hw) (wd2 hw) at_37 (by decide) (by decide) (pc' := 40) rfl ?_
      intro h22 b22 g22 E22 A22 D22
      have ne_b20_b22 : b20 ≠ b22 := Nat.ne_of_lt (Nat.lt_of_lt_of_eq (Exa.lt X21_b20) g22.symm)
      have ne_ca_b22 : ca ≠ b22 := Nat.ne_of_lt (Nat.lt_of_lt_of_eq (Q21_h.lt) g22.symm)
      have lt_b22 : h0.size ≤ b22 := Nat.le_trans P21.1 (Nat.le_of_eq g22.symm)
      have ge_b22 : n0 ≤ b22 := Nat.le_trans Z0 lt_b22
      have F22_counts_b20 := (Fld.ext E22 Q21_c)
      have F22_total_b20 := (Fld.ext E22 Q21_t)
      have X22_b20 := (Exa.ext E22 X21_b20)
      have V22_ca := (Q21_h.ext E22)
      have O22 := (O21.ext E22)
      have P22 := (P21.ext E22)
      have F22_counts_b22 : Fld Z h22 b22 "com/example/spokewire/spokewire/cli/LatencyHistogram" "counts" "[J" .null := D22 (Or.inr (wd11 hw)) (ty := (.array .long)) (by decide)
      have F22_total_b22 : Fld Z h22 b22 "com/example/spokewire/spokewire/cli/LatencyHistogram" "total" "J" (.long (0 : Int64)) := D22 (Or.inl (wd18 hw)) (ty := .long) (by decide)
      refine Jvm.OwnWp.dup K at_40 rfl (pc' := 41) rfl ?_
      refine callInit K (y := (⟨"com/example/spokewire/spokewire/cli/LatencyHistogram", "<init>", "()V"⟩ : MethodName)) (b := b22) (argsL := []) (S := [(.ref b22)]) rfl (wd3 hw) (wd4 hw) (wd2 hw) (wd5 hw) rfl (by decide) (c_lhi l Z a0 hw [] b22 h22 n0 (Nat.le_trans Z0 P22.1) A22 ge_b22 F22_counts_b22 F22_total_b22) (lenOf pd6 rfl) at_41 rfl (Nat.le_of_ble_eq_true rfl) (Nat.le_of_ble_eq_true rfl) (Nat.le_of_ble_eq_true rfl) (Nat.le_of_ble_eq_true rfl) rfl (pc' := 44) rfl ?_
      rintro v23 h23 ⟨rfl, K23, cb, L23, Q23_c, Q23_t, Q23_h⟩
      have ne_b20_cb : b20 ≠ cb := Nat.ne_of_lt (Nat.lt_of_lt_of_le (Exa.lt X22_b20) L23)
      have ne_b22_cb : b22 ≠ cb := Nat.ne_of_lt (Nat.lt_of_lt_of_le (Exa.lt A22) L23)
      have ne_ca_cb : ca ≠ cb := Nat.ne_of_lt (Nat.lt_of_lt_of_le (V22_ca.lt) L23)
      have lt_cb : h0.size ≤ cb := Nat.le_trans P22.1 L23
      have ge_cb : n0 ≤ cb := Nat.le_trans Z0 lt_cb
      have F23_counts_b20 := (Fld.keep F22_counts_b20 K23 (ninS ne_b20_b22 (nin0)))
      have F23_total_b20 := (Fld.keep F22_total_b20 K23 (ninS ne_b20_b22 (nin0)))
      have X23_b20 := (Exa.keep X22_b20 K23)
      have X23_b22 := (Exa.keep A22 K23)
      have V23_ca := (V22_ca.keep K23 (ninS ne_ca_b22 (nin0)))
      have O23 := (O22.keep K23 (allS ge_b22 (all0)))
      have P23 := (P22.trans K23 (allS (Or.inr lt_b22) (all0)))
      show Go _ _ _ _ _ _ _ _ _ _ _ h23 4 14596 (mkF m 44 #[.val (.long pa), .second, .val (.long pb), .second, .val (.int fl), .val (.int (0 : Int32)), .val (.int (0 : Int32)), .val (.ref b20), .unset, .unset, .unset, .unset, .unset, .unset, .unset, .unset, .unset, .unset, .unset, .unset] [(.ref b22)]) _
      refine Jvm.OwnWp.astore K at_44 rfl (Ls' := #[.val (.long pa), .second, .val (.long pb), .second, .val (.int fl), .val (.int (0 : Int32)), .val (.int (0 : Int32)), .val (.ref b20), .val (.ref b22), .unset, .unset, .unset, .unset, .unset, .unset, .unset, .unset, .unset, .unset, .unset]) rfl (pc' := 46) rfl ?_
      refine Jvm.OwnWp.lconst K (0 : Int64) at_46 (by decide) (pc' := 47) rfl ?_
      refine Jvm.OwnWp.lstore K at_47 (Ls' := #[.val (.long pa), .second, .val (.long pb), .second, .val (.int fl), .val (.int (0 : Int32)), .val (.int (0 : Int32)), .val (.ref b20), .val (.ref b22), .val (.long (0 : Int64)), .second, .unset, .unset, .unset, .unset, .unset, .unset, .unset, .unset, .unset]) rfl (pc' := 49) rfl ?_
      refine Jvm.OwnWp.lconst K (0 : Int64) at_49 (by decide) (pc' := 50) rfl ?_
      refine Jvm.OwnWp.lstore K at_50 (Ls' := #[.val (.long pa), .second, .val (.long pb), .second, .val (.int fl), .val (.int (0 : Int32)), .val (.int (0 : Int32)), .val (.ref b20), .val (.ref b22), .val (.long (0 : Int64)), .second, .val (.long (0 : Int64)), .second, .unset, .unset, .unset, .unset, .unset, .unset, .unset]) rfl (pc' := 52) rfl ?_
      refine Jvm.OwnWp.iload K at_52 rfl (pc' := 54) rfl ?_
      refine ifY K at_54 (by decide) (pc' := 71) (by decide) (by decide) ?_
      refine Jvm.OwnWp.iload K at_71 rfl (pc' := 73) rfl ?_
      refine ifY K at_73 (by decide) (pc' := 90) (by decide) (by decide) ?_
      refine Jvm.OwnWp.aload K at_90 rfl rfl (pc' := 92) rfl ?_
      refine Jvm.OwnWp.aload K at_92 rfl rfl (pc' := 94) rfl ?_
      refine callVirt K (y := (⟨"com/example/spokewire/spokewire/cli/LatencyHistogram", "add", "(Lcom/example/spokewire/spokewire/cli/LatencyHistogram;)V"⟩ : MethodName)) (b := b20) (argsL := [(.ref b22)]) (S := []) (wd12 hw) (wd13 hw) (wd15 hw) (wd14 hw) (wd2 hw) (wd16 hw) (by decide) X23_b20 (c_add l Z a0 hw [] b20 b22 ca cb 0 0 0 nil0 nil0 h23 n0 (Nat.le_trans Z0 P23.1) X23_b20 ge_b20 ge_ca (Ne.symm ne_b20_ca) ne_ca_b22 (Ne.symm ne_ca_cb) F23_counts_b20 F23_total_b20 Q23_c Q23_t V23_ca Q23_h (by decide)) (lenOf pd7 rfl) at_94 rfl (Nat.le_of_ble_eq_true rfl) (Nat.le_of_ble_eq_true rfl) (Nat.le_of_ble_eq_true rfl) (Nat.le_of_ble_eq_true rfl) rfl (pc' := 97) rfl ?_
      rintro v24 h24 ⟨rfl, K24, Q24_c, Q24_t, Q24_h⟩
      have F24_counts_b22 := (Fld.keep Q23_c K24 (ninS (Ne.symm ne_b20_b22) (ninS (Ne.symm ne_ca_b22) (nin0))))
      have F24_total_b22 := (Fld.keep Q23_t K24 (ninS (Ne.symm ne_b20_b22) (ninS (Ne.symm ne_ca_b22) (nin0))))
      have X24_b20 := (Exa.keep X23_b20 K24)
      have X24_b22 := (Exa.keep X23_b22 K24)
      have V24_cb := (Q23_h.keep K24 (ninS (Ne.symm ne_b20_cb) (ninS (Ne.symm ne_ca_cb) (nin0))))
      have O24 := (O23.keep K24 (allS ge_b20 (allS ge_ca (all0))))
      have P24 := (P23.trans K24 (allS (Or.inr lt_b20) (allS (Or.inr lt_ca) (all0))))
      show Go _ _ _ _ _ _ _ _ _ _ _ h24 4 14596 (mkF m 97 #[.val (.long pa), .second, .val (.long pb), .second, .val (.int fl), .val (.int (0 : Int32)), .val (.int (0 : Int32)), .val (.ref b20), .val (.ref b22), .val (.long (0 : Int64)), .second, .val (.long (0 : Int64)), .second, .unset, .unset, .unset, .unset, .unset, .unset, .unset] []) _
      refine Jvm.OwnWp.lconst K (0 : Int64) at_97 (by decide) (pc' := 98) rfl ?_
      refine Jvm.OwnWp.lstore K at_98 (Ls' := #[.val (.long pa), .second, .val (.long pb), .second, .val (.int fl), .val (.int (0 : Int32)), .val (.int (0 : Int32)), .val (.ref b20), .val (.ref b22), .val (.long (0 : Int64)), .second, .val (.long (0 : Int64)), .second, .val (.long (0 : Int64)), .second, .unset, .unset, .unset, .unset, .unset]) rfl (pc' := 100) rfl ?_
      refine Jvm.OwnWp.iload K at_100 rfl (pc' := 102) rfl ?_
      refine ifY K at_102 (by decide) (pc' := 111) (by decide) (by decide) ?_
      refine Jvm.OwnWp.iload K at_111 rfl (pc' := 113) rfl ?_
      refine ifY K at_113 (by decide) (pc' := 122) (by decide) (by decide) ?_
      refine Jvm.OwnWp.aload K at_122 rfl rfl (pc' := 124) rfl ?_
      refine callVirt K (y := (⟨"com/example/spokewire/spokewire/cli/LatencyHistogram", "count", "()J"⟩ : MethodName)) (b := b20) (argsL := []) (S := []) (wd19 hw) (wd20 hw) (wd22 hw) (wd21 hw) (wd2 hw) (wd23 hw) (by decide) X24_b20 (c_cnt l Z a0 hw [] b20 0 h24 n0 (Nat.le_trans Z0 P24.1) Q24_t) (lenOf pd8 rfl) at_124 rfl (Nat.le_of_ble_eq_true rfl) (Nat.le_of_ble_eq_true rfl) (Nat.le_of_ble_eq_true rfl) (Nat.le_of_ble_eq_true rfl) rfl (pc' := 127) rfl ?_
      rintro v25 h25 ⟨rfl, rfl⟩
      show Go _ _ _ _ _ _ _ _ _ _ _ h24 4 14596 (mkF m 127 #[.val (.long pa), .second, .val (.long pb), .second, .val (.int fl), .val (.int (0 : Int32)), .val (.int (0 : Int32)), .val (.ref b20), .val (.ref b22), .val (.long (0 : Int64)), .second, .val (.long (0 : Int64)), .second, .val (.long (0 : Int64)), .second, .unset, .unset, .unset, .unset, .unset] [(.long (0 : Int64))]) _
      refine Jvm.OwnWp.lload K at_127 rfl (pc' := 129) rfl ?_
      refine Jvm.OwnWp.lcmp K at_129 (pc' := 130) rfl ?_
      refine ifN K at_130 (by decide) (pc' := 133) rfl ?_
      refine Jvm.OwnWp.iconst K (1 : Int32) at_133 (by decide) (pc' := 134) rfl ?_
      refine goto' K at_134 (pc' := 138) (by decide) (by decide) ?_
      refine Jvm.OwnWp.istore K at_138 (Ls' := #[.val (.long pa), .second, .val (.long pb), .second, .val (.int fl), .val (.int (0 : Int32)), .val (.int (0 : Int32)), .val (.ref b20), .val (.ref b22), .val (.long (0 : Int64)), .second, .val (.long (0 : Int64)), .second, .val (.long (0 : Int64)), .second, .val (.int (1 : Int32)), .unset, .unset, .unset, .unset]) rfl (pc' := 140) rfl ?_
      refine Jvm.OwnWp.iload K at_140 rfl (pc' := 142) rfl ?_
      refine ifN K at_142 (by decide) (pc' := 145) rfl ?_
      refine Jvm.OwnWp.aload K at_145 rfl rfl (pc' := 147) rfl ?_
      refine callVirt K (y := (⟨"com/example/spokewire/spokewire/cli/LatencyHistogram", "count", "()J"⟩ : MethodName)) (b := b22) (argsL := []) (S := []) (wd19 hw) (wd20 hw) (wd22 hw) (wd21 hw) (wd2 hw) (wd23 hw) (by decide) X24_b22 (c_cnt l Z a0 hw [] b22 0 h24 n0 (Nat.le_trans Z0 P24.1) F24_total_b22) (lenOf pd8 rfl) at_147 rfl (Nat.le_of_ble_eq_true rfl) (Nat.le_of_ble_eq_true rfl) (Nat.le_of_ble_eq_true rfl) (Nat.le_of_ble_eq_true rfl) rfl (pc' := 150) rfl ?_
      rintro v26 h26 ⟨rfl, rfl⟩
      show Go _ _ _ _ _ _ _ _ _ _ _ h24 4 14596 (mkF m 150 #[.val (.long pa), .second, .val (.long pb), .second, .val (.int fl), .val (.int (0 : Int32)), .val (.int (0 : Int32)), .val (.ref b20), .val (.ref b22), .val (.long (0 : Int64)), .second, .val (.long (0 : Int64)), .second, .val (.long (0 : Int64)), .second, .val (.int (1 : Int32)), .unset, .unset, .unset, .unset] [(.long (0 : Int64))]) _
      refine Jvm.OwnWp.iload K at_150 rfl (pc' := 152) rfl ?_
      refine ifY K at_152 (by decide) (pc' := 159) (by decide) (by decide) ?_
      refine Jvm.OwnWp.lconst K (0 : Int64) at_159 (by decide) (pc' := 160) rfl ?_
      refine Jvm.OwnWp.lcmp K at_160 (pc' := 161) rfl ?_
      refine ifN K at_161 (by decide) (pc' := 164) rfl ?_
      refine Jvm.OwnWp.iconst K (1 : Int32) at_164 (by decide) (pc' := 165) rfl ?_
      refine goto' K at_165 (pc' := 169) (by decide) (by decide) ?_
      refine Jvm.OwnWp.istore K at_169 (Ls' := #[.val (.long pa), .second, .val (.long pb), .second, .val (.int fl), .val (.int (0 : Int32)), .val (.int (0 : Int32)), .val (.ref b20), .val (.ref b22), .val (.long (0 : Int64)), .second, .val (.long (0 : Int64)), .second, .val (.long (0 : Int64)), .second, .val (.int (1 : Int32)), .unset, .unset, .unset, .unset]) rfl (pc' := 171) rfl ?_
      refine Jvm.OwnWp.iload K at_171 rfl (pc' := 173) rfl ?_
      refine ifN K at_173 (by decide) (pc' := 176) rfl ?_
      refine Jvm.OwnWp.iload K at_176 rfl (pc' := 178) rfl ?_
      refine ifN K at_178 (by decide) (pc' := 181) rfl ?_
      refine Jvm.OwnWp.iload K at_181 rfl (pc' := 183) rfl ?_
      refine retB K (t := .boolean) rfl (by simp) at_183 (Nat.le_of_ble_eq_true rfl) (Nat.le_of_ble_eq_true rfl) ?_
      rfl
    · refine ifN K at_18 (XT.i0_eq_f c2) (pc' := 21) rfl ?_
      refine Jvm.OwnWp.iconst K (1 : Int32) at_21 (by decide) (pc' := 22) rfl ?_
      refine goto' K at_22 (pc' := 26) (by decide) (by decide) ?_
      refine Jvm.OwnWp.istore K at_26 (Ls' := #[.val (.long pa), .second, .val (.long pb), .second, .val (.int fl), .val (.int (0 : Int32)), .val (.int (1 : Int32)), .unset, .unset, .unset, .unset, .unset, .unset, .unset, .unset, .unset, .unset, .unset, .unset, .unset]) rfl (pc' := 28) rfl ?_
      refine newObj K (wd0 hw) (wd1 hw) (wd2 hw) at_28 (by decide) (by decide) (pc' := 31) rfl ?_
      intro h27 b27 g27 E27 A27 D27
      have lt_b27 : h0.size ≤ b27 := Nat.le_trans P0.1 (Nat.le_of_eq g27.symm)
      have ge_b27 : n0 ≤ b27 := Nat.le_trans Z0 lt_b27
      have O27 := (O0.ext E27)
      have P27 := (P0.ext E27)
      have F27_counts_b27 : Fld Z h27 b27 "com/example/spokewire/spokewire/cli/LatencyHistogram" "counts" "[J" .null := D27 (Or.inr (wd11 hw)) (ty := (.array .long)) (by decide)
      have F27_total_b27 : Fld Z h27 b27 "com/example/spokewire/spokewire/cli/LatencyHistogram" "total" "J" (.long (0 : Int64)) := D27 (Or.inl (wd18 hw)) (ty := .long) (by decide)
      refine Jvm.OwnWp.dup K at_31 rfl (pc' := 32) rfl ?_
      refine callInit K (y := (⟨"com/example/spokewire/spokewire/cli/LatencyHistogram", "<init>", "()V"⟩ : MethodName)) (b := b27) (argsL := []) (S := [(.ref b27)]) rfl (wd3 hw) (wd4 hw) (wd2 hw) (wd5 hw) rfl (by decide) (c_lhi l Z a0 hw [] b27 h27 n0 (Nat.le_trans Z0 P27.1) A27 ge_b27 F27_counts_b27 F27_total_b27) (lenOf pd6 rfl) at_32 rfl (Nat.le_of_ble_eq_true rfl) (Nat.le_of_ble_eq_true rfl) (Nat.le_of_ble_eq_true rfl) (Nat.le_of_ble_eq_true rfl) rfl (pc' := 35) rfl ?_
      rintro v28 h28 ⟨rfl, K28, ca, L28, Q28_c, Q28_t, Q28_h⟩
      have ne_b27_ca : b27 ≠ ca := Nat.ne_of_lt (Nat.lt_of_lt_of_le (Exa.lt A27) L28)
      have lt_ca : h0.size ≤ ca := Nat.le_trans P27.1 L28
      have ge_ca : n0 ≤ ca := Nat.le_trans Z0 lt_ca
      have X28_b27 := (Exa.keep A27 K28)
      have O28 := (O27.keep K28 (allS ge_b27 (all0)))
      have P28 := (P27.trans K28 (allS (Or.inr lt_b27) (all0)))
      show Go _ _ _ _ _ _ _ _ _ _ _ h28 2 7298 (mkF m 35 #[.val (.long pa), .second, .val (.long pb), .second, .val (.int fl), .val (.int (0 : Int32)), .val (.int (1 : Int32)), .unset, .unset, .unset, .unset, .unset, .unset, .unset, .unset, .unset, .unset, .unset, .unset, .unset] [(.ref b27)]) _
      refine Jvm.OwnWp.astore K at_35 rfl (Ls' := #[.val (.long pa), .second, .val (.long pb), .second, .val (.int fl), .val (.int (0 : Int32)), .val (.int (1 : Int32)), .val (.ref b27), .unset, .unset, .unset, .unset, .unset, .unset, .unset, .unset, .unset, .unset, .unset, .unset]) rfl (pc' := 37) rfl ?_
      refine newObj K (wd0 hw) (wd1 hw) (wd2 hw) at_37 (by decide) (by decide) (pc' := 40) rfl ?_
      intro h29 b29 g29 E29 A29 D29
      have ne_b27_b29 : b27 ≠ b29 := Nat.ne_of_lt (Nat.lt_of_lt_of_eq (Exa.lt X28_b27) g29.symm)
      have ne_ca_b29 : ca ≠ b29 := Nat.ne_of_lt (Nat.lt_of_lt_of_eq (Q28_h.lt) g29.symm)
      have lt_b29 : h0.size ≤ b29 := Nat.le_trans P28.1 (Nat.le_of_eq g29.symm)
      have ge_b29 : n0 ≤ b29 := Nat.le_trans Z0 lt_b29
      have F29_counts_b27 := (Fld.ext E29 Q28_c)
      have F29_total_b27 := (Fld.ext E29 Q28_t)
      have X29_b27 := (Exa.ext E29 X28_b27)
      have V29_ca := (Q28_h.ext E29)
      have O29 := (O28.ext E29)
      have P29 := (P28.ext E29)
      have F29_counts_b29 : Fld Z h29 b29 "com/example/spokewire/spokewire/cli/LatencyHistogram" "counts" "[J" .null := D29 (Or.inr (wd11 hw)) (ty := (.array .long)) (by decide)
      have F29_total_b29 : Fld Z h29 b29 "com/example/spokewire/spokewire/cli/LatencyHistogram" "total" "J" (.long (0 : Int64)) := D29 (Or.inl (wd18 hw)) (ty := .long) (by decide)
      refine Jvm.OwnWp.dup K at_40 rfl (pc' := 41) rfl ?_
      refine callInit K (y := (⟨"com/example/spokewire/spokewire/cli/LatencyHistogram", "<init>", "()V"⟩ : MethodName)) (b := b29) (argsL := []) (S := [(.ref b29)]) rfl (wd3 hw) (wd4 hw) (wd2 hw) (wd5 hw) rfl (by decide) (c_lhi l Z a0 hw [] b29 h29 n0 (Nat.le_trans Z0 P29.1) A29 ge_b29 F29_counts_b29 F29_total_b29) (lenOf pd6 rfl) at_41 rfl (Nat.le_of_ble_eq_true rfl) (Nat.le_of_ble_eq_true rfl) (Nat.le_of_ble_eq_true rfl) (Nat.le_of_ble_eq_true rfl) rfl (pc' := 44) rfl ?_
      rintro v30 h30 ⟨rfl, K30, cb, L30, Q30_c, Q30_t, Q30_h⟩
      have ne_b27_cb : b27 ≠ cb := Nat.ne_of_lt (Nat.lt_of_lt_of_le (Exa.lt X29_b27) L30)
      have ne_b29_cb : b29 ≠ cb := Nat.ne_of_lt (Nat.lt_of_lt_of_le (Exa.lt A29) L30)
      have ne_ca_cb : ca ≠ cb := Nat.ne_of_lt (Nat.lt_of_lt_of_le (V29_ca.lt) L30)
      have lt_cb : h0.size ≤ cb := Nat.le_trans P29.1 L30
      have ge_cb : n0 ≤ cb := Nat.le_trans Z0 lt_cb
      have F30_counts_b27 := (Fld.keep F29_counts_b27 K30 (ninS ne_b27_b29 (nin0)))
      have F30_total_b27 := (Fld.keep F29_total_b27 K30 (ninS ne_b27_b29 (nin0)))
      have X30_b27 := (Exa.keep X29_b27 K30)
      have X30_b29 := (Exa.keep A29 K30)
      have V30_ca := (V29_ca.keep K30 (ninS ne_ca_b29 (nin0)))
      have O30 := (O29.keep K30 (allS ge_b29 (all0)))
      have P30 := (P29.trans K30 (allS (Or.inr lt_b29) (all0)))
      show Go _ _ _ _ _ _ _ _ _ _ _ h30 4 14596 (mkF m 44 #[.val (.long pa), .second, .val (.long pb), .second, .val (.int fl), .val (.int (0 : Int32)), .val (.int (1 : Int32)), .val (.ref b27), .unset, .unset, .unset, .unset, .unset, .unset, .unset, .unset, .unset, .unset, .unset, .unset] [(.ref b29)]) _
      refine Jvm.OwnWp.astore K at_44 rfl (Ls' := #[.val (.long pa), .second, .val (.long pb), .second, .val (.int fl), .val (.int (0 : Int32)), .val (.int (1 : Int32)), .val (.ref b27), .val (.ref b29), .unset, .unset, .unset, .unset, .unset, .unset, .unset, .unset, .unset, .unset, .unset]) rfl (pc' := 46) rfl ?_
      refine Jvm.OwnWp.lconst K (0 : Int64) at_46 (by decide) (pc' := 47) rfl ?_
      refine Jvm.OwnWp.lstore K at_47 (Ls' := #[.val (.long pa), .second, .val (.long pb), .second, .val (.int fl), .val (.int (0 : Int32)), .val (.int (1 : Int32)), .val (.ref b27), .val (.ref b29), .val (.long (0 : Int64)), .second, .unset, .unset, .unset, .unset, .unset, .unset, .unset, .unset, .unset]) rfl (pc' := 49) rfl ?_
      refine Jvm.OwnWp.lconst K (0 : Int64) at_49 (by decide) (pc' := 50) rfl ?_
      refine Jvm.OwnWp.lstore K at_50 (Ls' := #[.val (.long pa), .second, .val (.long pb), .second, .val (.int fl), .val (.int (0 : Int32)), .val (.int (1 : Int32)), .val (.ref b27), .val (.ref b29), .val (.long (0 : Int64)), .second, .val (.long (0 : Int64)), .second, .unset, .unset, .unset, .unset, .unset, .unset, .unset]) rfl (pc' := 52) rfl ?_
      refine Jvm.OwnWp.iload K at_52 rfl (pc' := 54) rfl ?_
      refine ifY K at_54 (by decide) (pc' := 71) (by decide) (by decide) ?_
      refine Jvm.OwnWp.iload K at_71 rfl (pc' := 73) rfl ?_
      refine ifN K at_73 (by decide) (pc' := 76) rfl ?_
      refine Jvm.OwnWp.aload K at_76 rfl rfl (pc' := 78) rfl ?_
      refine Jvm.OwnWp.lloadN K at_78 rfl (pc' := 79) rfl ?_
      refine callVirt K (y := (⟨"com/example/spokewire/spokewire/cli/LatencyHistogram", "record", "(J)V"⟩ : MethodName)) (b := b29) (argsL := [(.long pb)]) (S := []) (wd24 hw) (wd25 hw) (wd27 hw) (wd26 hw) (wd2 hw) (wd28 hw) (by decide) X30_b29 (c_rcd l Z a0 hw [] b29 cb pb 0 1 nil0 h30 n0 (Nat.le_trans Z0 P30.1) X30_b29 ge_b29 ge_cb (Ne.symm ne_b29_cb) Q30_c Q30_t Q30_h (by decide)) (lenOf pd9 rfl) at_79 rfl (Nat.le_of_ble_eq_true rfl) (Nat.le_of_ble_eq_true rfl) (Nat.le_of_ble_eq_true rfl) (Nat.le_of_ble_eq_true rfl) rfl (pc' := 82) rfl ?_
      rintro v31 h31 ⟨rfl, K31, Q31_c, Q31_t, Q31_h⟩
      have F31_counts_b27 := (Fld.keep F30_counts_b27 K31 (ninS ne_b27_b29 (ninS ne_b27_cb (nin0))))
      have F31_total_b27 := (Fld.keep F30_total_b27 K31 (ninS ne_b27_b29 (ninS ne_b27_cb (nin0))))
      have X31_b27 := (Exa.keep X30_b27 K31)
      have X31_b29 := (Exa.keep X30_b29 K31)
      have V31_ca := (V30_ca.keep K31 (ninS ne_ca_b29 (ninS ne_ca_cb (nin0))))
      have O31 := (O30.keep K31 (allS ge_b29 (allS ge_cb (all0))))
      have P31 := (P30.trans K31 (allS (Or.inr lt_b29) (allS (Or.inr lt_cb) (all0))))
      show Go _ _ _ _ _ _ _ _ _ _ _ h31 4 14596 (mkF m 82 #[.val (.long pa), .second, .val (.long pb), .second, .val (.int fl), .val (.int (0 : Int32)), .val (.int (1 : Int32)), .val (.ref b27), .val (.ref b29), .val (.long (0 : Int64)), .second, .val (.long (0 : Int64)), .second, .unset, .unset, .unset, .unset, .unset, .unset, .unset] []) _
      refine Jvm.OwnWp.aload K at_82 rfl rfl (pc' := 84) rfl ?_
      refine Jvm.OwnWp.dconst1 K at_84 (v := (4607182418800017408 : UInt64)) rfl (pc' := 85) rfl ?_
      show Go _ _ _ _ _ _ _ _ _ _ _ h31 4 14596 (mkF m 85 #[.val (.long pa), .second, .val (.long pb), .second, .val (.int fl), .val (.int (0 : Int32)), .val (.int (1 : Int32)), .val (.ref b27), .val (.ref b29), .val (.long (0 : Int64)), .second, .val (.long (0 : Int64)), .second, .unset, .unset, .unset, .unset, .unset, .unset, .unset] [(.double (4607182418800017408 : UInt64)), (.ref b29)]) _
      refine callVirt K (y := (⟨"com/example/spokewire/spokewire/cli/LatencyHistogram", "percentile", "(D)J"⟩ : MethodName)) (b := b29) (argsL := [(.double (4607182418800017408 : UInt64))]) (S := []) (wd37 hw) (wd38 hw) (wd40 hw) (wd39 hw) (wd2 hw) (wd41 hw) (by decide) X31_b29 (c_per1_1 l Z a0 hw [] b29 cb (bump nil0 (bkt (nv pb))) (bkt (nv pb)) h31 n0 (Nat.le_trans Z0 P31.1) O31 S_ad Q31_c Q31_t Q31_h (by omega) (stopA _).1 (stopA _).2 (smallA _)) (lenOf pd10 rfl) at_85 rfl (Nat.le_of_ble_eq_true rfl) (Nat.le_of_ble_eq_true rfl) (Nat.le_of_ble_eq_true rfl) (Nat.le_of_ble_eq_true rfl) rfl (pc' := 88) rfl ?_
      rintro v32 h32 ⟨r32, rfl, rfl, e32⟩
      show Go _ _ _ _ _ _ _ _ _ _ _ h31 4 14596 (mkF m 88 #[.val (.long pa), .second, .val (.long pb), .second, .val (.int fl), .val (.int (0 : Int32)), .val (.int (1 : Int32)), .val (.ref b27), .val (.ref b29), .val (.long (0 : Int64)), .second, .val (.long (0 : Int64)), .second, .unset, .unset, .unset, .unset, .unset, .unset, .unset] [(.long r32)]) _
      refine Jvm.OwnWp.lstore K at_88 (Ls' := #[.val (.long pa), .second, .val (.long pb), .second, .val (.int fl), .val (.int (0 : Int32)), .val (.int (1 : Int32)), .val (.ref b27), .val (.ref b29), .val (.long (0 : Int64)), .second, .val (.long r32), .second, .unset, .unset, .unset, .unset, .unset, .unset, .unset]) rfl (pc' := 90) rfl ?_
      refine Jvm.OwnWp.aload K at_90 rfl rfl (pc' := 92) rfl ?_
      refine Jvm.OwnWp.aload K at_92 rfl rfl (pc' := 94) rfl ?_
      refine callVirt K (y := (⟨"com/example/spokewire/spokewire/cli/LatencyHistogram", "add", "(Lcom/example/spokewire/spokewire/cli/LatencyHistogram;)V"⟩ : MethodName)) (b := b27) (argsL := [(.ref b29)]) (S := []) (wd12 hw) (wd13 hw) (wd15 hw) (wd14 hw) (wd2 hw) (wd16 hw) (by decide) X31_b27 (c_add l Z a0 hw [] b27 b29 ca cb 0 1 1 nil0 (bump nil0 (bkt (nv pb))) h31 n0 (Nat.le_trans Z0 P31.1) X31_b27 ge_b27 ge_ca (Ne.symm ne_b27_ca) ne_ca_b29 (Ne.symm ne_ca_cb) F31_counts_b27 F31_total_b27 Q31_c Q31_t V31_ca Q31_h (by decide)) (lenOf pd7 rfl) at_94 rfl (Nat.le_of_ble_eq_true rfl) (Nat.le_of_ble_eq_true rfl) (Nat.le_of_ble_eq_true rfl) (Nat.le_of_ble_eq_true rfl) rfl (pc' := 97) rfl ?_
      rintro v33 h33 ⟨rfl, K33, Q33_c, Q33_t, Q33_h⟩
      have F33_counts_b29 := (Fld.keep Q31_c K33 (ninS (Ne.symm ne_b27_b29) (ninS (Ne.symm ne_ca_b29) (nin0))))
      have F33_total_b29 := (Fld.keep Q31_t K33 (ninS (Ne.symm ne_b27_b29) (ninS (Ne.symm ne_ca_b29) (nin0))))
      have X33_b27 := (Exa.keep X31_b27 K33)
      have X33_b29 := (Exa.keep X31_b29 K33)
      have V33_cb := (Q31_h.keep K33 (ninS (Ne.symm ne_b27_cb) (ninS (Ne.symm ne_ca_cb) (nin0))))
      have O33 := (O31.keep K33 (allS ge_b27 (allS ge_ca (all0))))
      have P33 := (P31.trans K33 (allS (Or.inr lt_b27) (allS (Or.inr lt_ca) (all0))))
      show Go _ _ _ _ _ _ _ _ _ _ _ h33 4 14596 (mkF m 97 #[.val (.long pa), .second, .val (.long pb), .second, .val (.int fl), .val (.int (0 : Int32)), .val (.int (1 : Int32)), .val (.ref b27), .val (.ref b29), .val (.long (0 : Int64)), .second, .val (.long r32), .second, .unset, .unset, .unset, .unset, .unset, .unset, .unset] []) _
      refine Jvm.OwnWp.lconst K (0 : Int64) at_97 (by decide) (pc' := 98) rfl ?_
      refine Jvm.OwnWp.lstore K at_98 (Ls' := #[.val (.long pa), .second, .val (.long pb), .second, .val (.int fl), .val (.int (0 : Int32)), .val (.int (1 : Int32)), .val (.ref b27), .val (.ref b29), .val (.long (0 : Int64)), .second, .val (.long r32), .second, .val (.long (0 : Int64)), .second, .unset, .unset, .unset, .unset, .unset]) rfl (pc' := 100) rfl ?_
      refine Jvm.OwnWp.iload K at_100 rfl (pc' := 102) rfl ?_
      refine ifY K at_102 (by decide) (pc' := 111) (by decide) (by decide) ?_
      refine Jvm.OwnWp.iload K at_111 rfl (pc' := 113) rfl ?_
      refine ifN K at_113 (by decide) (pc' := 116) rfl ?_
      refine Jvm.OwnWp.lload K at_116 rfl (pc' := 118) rfl ?_
      refine Jvm.OwnWp.lconst K (1 : Int64) at_118 (by decide) (pc' := 119) rfl ?_
      refine Jvm.OwnWp.ladd K at_119 (pc' := 120) rfl ?_
      refine Jvm.OwnWp.lstore K at_120 (Ls' := #[.val (.long pa), .second, .val (.long pb), .second, .val (.int fl), .val (.int (0 : Int32)), .val (.int (1 : Int32)), .val (.ref b27), .val (.ref b29), .val (.long (0 : Int64)), .second, .val (.long r32), .second, .val (.long ((0 : Int64) + (1 : Int64))), .second, .unset, .unset, .unset, .unset, .unset]) rfl (pc' := 122) rfl ?_
      refine Jvm.OwnWp.aload K at_122 rfl rfl (pc' := 124) rfl ?_
      refine callVirt K (y := (⟨"com/example/spokewire/spokewire/cli/LatencyHistogram", "count", "()J"⟩ : MethodName)) (b := b27) (argsL := []) (S := []) (wd19 hw) (wd20 hw) (wd22 hw) (wd21 hw) (wd2 hw) (wd23 hw) (by decide) X33_b27 (c_cnt l Z a0 hw [] b27 1 h33 n0 (Nat.le_trans Z0 P33.1) Q33_t) (lenOf pd8 rfl) at_124 rfl (Nat.le_of_ble_eq_true rfl) (Nat.le_of_ble_eq_true rfl) (Nat.le_of_ble_eq_true rfl) (Nat.le_of_ble_eq_true rfl) rfl (pc' := 127) rfl ?_
      rintro v34 h34 ⟨rfl, rfl⟩
      show Go _ _ _ _ _ _ _ _ _ _ _ h33 4 14596 (mkF m 127 #[.val (.long pa), .second, .val (.long pb), .second, .val (.int fl), .val (.int (0 : Int32)), .val (.int (1 : Int32)), .val (.ref b27), .val (.ref b29), .val (.long (0 : Int64)), .second, .val (.long r32), .second, .val (.long ((0 : Int64) + (1 : Int64))), .second, .unset, .unset, .unset, .unset, .unset] [(.long (1 : Int64))]) _
      refine Jvm.OwnWp.lload K at_127 rfl (pc' := 129) rfl ?_
      refine Jvm.OwnWp.lcmp K at_129 (pc' := 130) rfl ?_
      refine ifN K at_130 (by decide) (pc' := 133) rfl ?_
      refine Jvm.OwnWp.iconst K (1 : Int32) at_133 (by decide) (pc' := 134) rfl ?_
      refine goto' K at_134 (pc' := 138) (by decide) (by decide) ?_
      refine Jvm.OwnWp.istore K at_138 (Ls' := #[.val (.long pa), .second, .val (.long pb), .second, .val (.int fl), .val (.int (0 : Int32)), .val (.int (1 : Int32)), .val (.ref b27), .val (.ref b29), .val (.long (0 : Int64)), .second, .val (.long r32), .second, .val (.long ((0 : Int64) + (1 : Int64))), .second, .val (.int (1 : Int32)), .unset, .unset, .unset, .unset]) rfl (pc' := 140) rfl ?_
      refine Jvm.OwnWp.iload K at_140 rfl (pc' := 142) rfl ?_
      refine ifN K at_142 (by decide) (pc' := 145) rfl ?_
      refine Jvm.OwnWp.aload K at_145 rfl rfl (pc' := 147) rfl ?_
      refine callVirt K (y := (⟨"com/example/spokewire/spokewire/cli/LatencyHistogram", "count", "()J"⟩ : MethodName)) (b := b29) (argsL := []) (S := []) (wd19 hw) (wd20 hw) (wd22 hw) (wd21 hw) (wd2 hw) (wd23 hw) (by decide) X33_b29 (c_cnt l Z a0 hw [] b29 1 h33 n0 (Nat.le_trans Z0 P33.1) F33_total_b29) (lenOf pd8 rfl) at_147 rfl (Nat.le_of_ble_eq_true rfl) (Nat.le_of_ble_eq_true rfl) (Nat.le_of_ble_eq_true rfl) (Nat.le_of_ble_eq_true rfl) rfl (pc' := 150) rfl ?_
      rintro v35 h35 ⟨rfl, rfl⟩
      show Go _ _ _ _ _ _ _ _ _ _ _ h33 4 14596 (mkF m 150 #[.val (.long pa), .second, .val (.long pb), .second, .val (.int fl), .val (.int (0 : Int32)), .val (.int (1 : Int32)), .val (.ref b27), .val (.ref b29), .val (.long (0 : Int64)), .second, .val (.long r32), .second, .val (.long ((0 : Int64) + (1 : Int64))), .second, .val (.int (1 : Int32)), .unset, .unset, .unset, .unset] [(.long (1 : Int64))]) _
      refine Jvm.OwnWp.iload K at_150 rfl (pc' := 152) rfl ?_
      refine ifN K at_152 (by decide) (pc' := 155) rfl ?_
      refine Jvm.OwnWp.lconst K (1 : Int64) at_155 (by decide) (pc' := 156) rfl ?_
      refine goto' K at_156 (pc' := 160) (by decide) (by decide) ?_
      refine Jvm.OwnWp.lcmp K at_160 (pc' := 161) rfl ?_
      refine ifN K at_161 (by decide) (pc' := 164) rfl ?_
      refine Jvm.OwnWp.iconst K (1 : Int32) at_164 (by decide) (pc' := 165) rfl ?_
      refine goto' K at_165 (pc' := 169) (by decide) (by decide) ?_
      refine Jvm.OwnWp.istore K at_169 (Ls' := #[.val (.long pa), .second, .val (.long pb), .second, .val (.int fl), .val (.int (0 : Int32)), .val (.int (1 : Int32)), .val (.ref b27), .val (.ref b29), .val (.long (0 : Int64)), .second, .val (.long r32), .second, .val (.long ((0 : Int64) + (1 : Int64))), .second, .val (.int (1 : Int32)), .unset, .unset, .unset, .unset]) rfl (pc' := 171) rfl ?_
      refine Jvm.OwnWp.iload K at_171 rfl (pc' := 173) rfl ?_
      refine ifN K at_173 (by decide) (pc' := 176) rfl ?_
      refine Jvm.OwnWp.iload K at_176 rfl (pc' := 178) rfl ?_
      refine ifY K at_178 (by decide) (pc' := 184) (by decide) (by decide) ?_
      refine Jvm.OwnWp.iload K at_184 rfl (pc' := 186) rfl ?_
      refine ifY K at_186 (by decide) (pc' := 215) (by decide) (by decide) ?_
      refine Jvm.OwnWp.iload K at_215 rfl (pc' := 217) rfl ?_
      refine ifY K at_217 (by decide) (pc' := 231) (by decide) (by decide) ?_
      refine Jvm.OwnWp.lload K at_231 rfl (pc' := 233) rfl ?_
      refine Jvm.OwnWp.lstore K at_233 (Ls' := #[.val (.long pa), .second, .val (.long pb), .second, .val (.int fl), .val (.int (0 : Int32)), .val (.int (1 : Int32)), .val (.ref b27), .val (.ref b29), .val (.long (0 : Int64)), .second, .val (.long r32), .second, .val (.long ((0 : Int64) + (1 : Int64))), .second, .val (.int (1 : Int32)), .val (.long r32), .second, .unset, .unset]) rfl (pc' := 235) rfl ?_
      refine Jvm.OwnWp.lload K at_235 rfl (pc' := 237) rfl ?_
      refine Jvm.OwnWp.lstore K at_237 (Ls' := #[.val (.long pa), .second, .val (.long pb), .second, .val (.int fl), .val (.int (0 : Int32)), .val (.int (1 : Int32)), .val (.ref b27), .val (.ref b29), .val (.long (0 : Int64)), .second, .val (.long r32), .second, .val (.long ((0 : Int64) + (1 : Int64))), .second, .val (.int (1 : Int32)), .val (.long r32), .second, .val (.long r32), .second]) rfl (pc' := 239) rfl ?_
      refine Jvm.OwnWp.iload K at_239 rfl (pc' := 241) rfl ?_
      refine ifN K at_241 (by decide) (pc' := 244) rfl ?_
      refine Jvm.OwnWp.aload K at_244 rfl rfl (pc' := 246) rfl ?_
      refine Jvm.OwnWp.ldc2D K (wd72 hw) at_246 (pc' := 249) rfl ?_
      show Go _ _ _ _ _ _ _ _ _ _ _ h33 4 14596 (mkF m 249 #[.val (.long pa), .second, .val (.long pb), .second, .val (.int fl), .val (.int (0 : Int32)), .val (.int (1 : Int32)), .val (.ref b27), .val (.ref b29), .val (.long (0 : Int64)), .second, .val (.long r32), .second, .val (.long ((0 : Int64) + (1 : Int64))), .second, .val (.int (1 : Int32)), .val (.long r32), .second, .val (.long r32), .second] [(.double (4602678819172646912 : UInt64)), (.ref b27)]) _
      refine callVirt K (y := (⟨"com/example/spokewire/spokewire/cli/LatencyHistogram", "percentile", "(D)J"⟩ : MethodName)) (b := b27) (argsL := [(.double (4602678819172646912 : UInt64))]) (S := []) (wd37 hw) (wd38 hw) (wd40 hw) (wd39 hw) (wd2 hw) (wd41 hw) (by decide) X33_b27 (c_perh_1 l Z a0 hw [] b27 ca (add2 nil0 (bump nil0 (bkt (nv pb)))) (bkt (nv pb)) h33 n0 (Nat.le_trans Z0 P33.1) O33 S_ad Q33_c Q33_t Q33_h (by omega) (stopR _).1 (stopR _).2 (smallR _)) (lenOf pd10 rfl) at_249 rfl (Nat.le_of_ble_eq_true rfl) (Nat.le_of_ble_eq_true rfl) (Nat.le_of_ble_eq_true rfl) (Nat.le_of_ble_eq_true rfl) rfl (pc' := 252) rfl ?_
      rintro v36 h36 ⟨r36, rfl, rfl, e36⟩
      show Go _ _ _ _ _ _ _ _ _ _ _ h33 4 14596 (mkF m 252 #[.val (.long pa), .second, .val (.long pb), .second, .val (.int fl), .val (.int (0 : Int32)), .val (.int (1 : Int32)), .val (.ref b27), .val (.ref b29), .val (.long (0 : Int64)), .second, .val (.long r32), .second, .val (.long ((0 : Int64) + (1 : Int64))), .second, .val (.int (1 : Int32)), .val (.long r32), .second, .val (.long r32), .second] [(.long r36)]) _
      refine Jvm.OwnWp.lload K at_252 rfl (pc' := 254) rfl ?_
      refine Jvm.OwnWp.lcmp K at_254 (pc' := 255) rfl ?_
      refine ifN K at_255 (XT.ll_ne_f (own_eq1 e32 e36)) (pc' := 258) rfl ?_
      refine Jvm.OwnWp.aload K at_258 rfl rfl (pc' := 260) rfl ?_
      refine Jvm.OwnWp.dconst1 K at_260 (v := (4607182418800017408 : UInt64)) rfl (pc' := 261) rfl ?_
      show Go _ _ _ _ _ _ _ _ _ _ _ h33 4 14596 (mkF m 261 #[.val (.long pa), .second, .val (.long pb), .second, .val (.int fl), .val (.int (0 : Int32)), .val (.int (1 : Int32)), .val (.ref b27), .val (.ref b29), .val (.long (0 : Int64)), .second, .val (.long r32), .second, .val (.long ((0 : Int64) + (1 : Int64))), .second, .val (.int (1 : Int32)), .val (.long r32), .second, .val (.long r32), .second] [(.double (4607182418800017408 : UInt64)), (.ref b27)]) _
      refine callVirt K (y := (⟨"com/example/spokewire/spokewire/cli/LatencyHistogram", "percentile", "(D)J"⟩ : MethodName)) (b := b27) (argsL := [(.double (4607182418800017408 : UInt64))]) (S := []) (wd37 hw) (wd38 hw) (wd40 hw) (wd39 hw) (wd2 hw) (wd41 hw) (by decide) X33_b27 (c_per1_1 l Z a0 hw [] b27 ca (add2 nil0 (bump nil0 (bkt (nv pb)))) (bkt (nv pb)) h33 n0 (Nat.le_trans Z0 P33.1) O33 S_ad Q33_c Q33_t Q33_h (by omega) (stopR _).1 (stopR _).2 (smallR _)) (lenOf pd10 rfl) at_261 rfl (Nat.le_of_ble_eq_true rfl) (Nat.le_of_ble_eq_true rfl) (Nat.le_of_ble_eq_true rfl) (Nat.le_of_ble_eq_true rfl) rfl (pc' := 264) rfl ?_
      rintro v37 h37 ⟨r37, rfl, rfl, e37⟩
      show Go _ _ _ _ _ _ _ _ _ _ _ h33 4 14596 (mkF m 264 #[.val (.long pa), .second, .val (.long pb), .second, .val (.int fl), .val (.int (0 : Int32)), .val (.int (1 : Int32)), .val (.ref b27), .val (.ref b29), .val (.long (0 : Int64)), .second, .val (.long r32), .second, .val (.long ((0 : Int64) + (1 : Int64))), .second, .val (.int (1 : Int32)), .val (.long r32), .second, .val (.long r32), .second] [(.long r37)]) _
      refine Jvm.OwnWp.lload K at_264 rfl (pc' := 266) rfl ?_
      refine Jvm.OwnWp.lcmp K at_266 (pc' := 267) rfl ?_
      refine ifN K at_267 (XT.ll_ne_f (own_eq1 e32 e37)) (pc' := 270) rfl ?_
      refine Jvm.OwnWp.iconst K (1 : Int32) at_270 (by decide) (pc' := 271) rfl ?_
      refine goto' K at_271 (pc' := 275) (by decide) (by decide) ?_
      refine retB K (t := .boolean) rfl (by simp) at_275 (Nat.le_of_ble_eq_true rfl) (Nat.le_of_ble_eq_true rfl) ?_
      rfl
  · refine ifN K at_4 (XT.i0_eq_f c1) (pc' := 7) rfl ?_
    refine Jvm.OwnWp.iconst K (1 : Int32) at_7 (by decide) (pc' := 8) rfl ?_
    refine goto' K at_8 (pc' := 12) (by decide) (by decide) ?_
    refine Jvm.OwnWp.istore K at_12 (Ls' := #[.val (.long pa), .second, .val (.long pb), .second, .val (.int fl), .val (.int (1 : Int32)), .unset, .unset, .unset, .unset, .unset, .unset, .unset, .unset, .unset, .unset, .unset, .unset, .unset, .unset]) rfl (pc' := 14) rfl ?_
    refine Jvm.OwnWp.iload K at_14 rfl (pc' := 16) rfl ?_
    refine Jvm.OwnWp.iconst K (2 : Int32) at_16 (by decide) (pc' := 17) rfl ?_
    refine Jvm.OwnWp.iand K at_17 (pc' := 18) rfl ?_
    by_cases c2 : (fl &&& (2 : Int32)) = 0
    · refine ifY K at_18 (XT.i0_eq_t c2) (pc' := 25) (by decide) (by decide) ?_
      refine Jvm.OwnWp.iconst K (0 : Int32) at_25 (by decide) (pc' := 26) rfl ?_
      refine Jvm.OwnWp.istore K at_26 (Ls' := #[.val (.long pa), .second, .val (.long pb), .second, .val (.int fl), .val (.int (1 : Int32)), .val (.int (0 : Int32)), .unset, .unset, .unset, .unset, .unset, .unset, .unset, .unset, .unset, .unset, .unset, .unset, .unset]) rfl (pc' := 28) rfl ?_
      refine newObj K (wd0 hw) (wd1 hw) (wd2 hw) at_28 (by decide) (by decide) (pc' := 31) rfl ?_
      intro h38 b38 g38 E38 A38 D38
      have lt_b38 : h0.size ≤ b38 := Nat.le_trans P0.1 (Nat.le_of_eq g38.symm)
      have ge_b38 : n0 ≤ b38 := Nat.le_trans Z0 lt_b38
      have O38 := (O0.ext E38)
      have P38 := (P0.ext E38)
      have F38_counts_b38 : Fld Z h38 b38 "com/example/spokewire/spokewire/cli/LatencyHistogram" "counts" "[J" .null := D38 (Or.inr (wd11 hw)) (ty := (.array .long)) (by decide)
      have F38_total_b38 : Fld Z h38 b38 "com/example/spokewire/spokewire/cli/LatencyHistogram" "total" "J" (.long (0 : Int64)) := D38 (Or.inl (wd18 hw)) (ty := .long) (by decide)
      refine Jvm.OwnWp.dup K at_31 rfl (pc' := 32) rfl ?_
      refine callInit K (y := (⟨"com/example/spokewire/spokewire/cli/LatencyHistogram", "<init>", "()V"⟩ : MethodName)) (b := b38) (argsL := []) (S := [(.ref b38)]) rfl (wd3 hw) (wd4 hw) (wd2 hw) (wd5 hw) rfl (by decide) (c_lhi l Z a0 hw [] b38 h38 n0 (Nat.le_trans Z0 P38.1) A38 ge_b38 F38_counts_b38 F38_total_b38) (lenOf pd6 rfl) at_32 rfl (Nat.le_of_ble_eq_true rfl) (Nat.le_of_ble_eq_true rfl) (Nat.le_of_ble_eq_true rfl) (Nat.le_of_ble_eq_true rfl) rfl (pc' := 35) rfl ?_
      rintro v39 h39 ⟨rfl, K39, ca, L39, Q39_c, Q39_t, Q39_h⟩
      have ne_b38_ca : b38 ≠ ca := Nat.ne_of_lt (Nat.lt_of_lt_of_le (Exa.lt A38) L39)
      have lt_ca : h0.size ≤ ca := Nat.le_trans P38.1 L39
      have ge_ca : n0 ≤ ca := Nat.le_trans Z0 lt_ca
      have X39_b38 := (Exa.keep A38 K39)
      have O39 := (O38.keep K39 (allS ge_b38 (all0)))
      have P39 := (P38.trans K39 (allS (Or.inr lt_b38) (all0)))
      show Go _ _ _ _ _ _ _ _ _ _ _ h39 2 7298 (mkF m 35 #[.val (.long pa), .second, .val (.long pb), .second, .val (.int fl), .val (.int (1 : Int32)), .val (.int (0 : Int32)), .unset, .unset, .unset, .unset, .unset, .unset, .unset, .unset, .unset, .unset, .unset, .unset, .unset] [(.ref b38)]) _
      refine Jvm.OwnWp.astore K at_35 rfl (Ls' := #[.val (.long pa), .second, .val (.long pb), .second, .val (.int fl), .val (.int (1 : Int32)), .val (.int (0 : Int32)), .val (.ref b38), .unset, .unset, .unset, .unset, .unset, .unset, .unset, .unset, .unset, .unset, .unset, .unset]) rfl (pc' := 37) rfl ?_
      refine newObj K (wd0 hw) (wd1 hw) (wd2 hw) at_37 (by decide) (by decide) (pc' := 40) rfl ?_
      intro h40 b40 g40 E40 A40 D40
      have ne_b38_b40 : b38 ≠ b40 := Nat.ne_of_lt (Nat.lt_of_lt_of_eq (Exa.lt X39_b38) g40.symm)
      have ne_ca_b40 : ca ≠ b40 := Nat.ne_of_lt (Nat.lt_of_lt_of_eq (Q39_h.lt) g40.symm)
      have lt_b40 : h0.size ≤ b40 := Nat.le_trans P39.1 (Nat.le_of_eq g40.symm)
      have ge_b40 : n0 ≤ b40 := Nat.le_trans Z0 lt_b40
      have F40_counts_b38 := (Fld.ext E40 Q39_c)
      have F40_total_b38 := (Fld.ext E40 Q39_t)
      have X40_b38 := (Exa.ext E40 X39_b38)
      have V40_ca := (Q39_h.ext E40)
      have O40 := (O39.ext E40)
      have P40 := (P39.ext E40)
      have F40_counts_b40 : Fld Z h40 b40 "com/example/spokewire/spokewire/cli/LatencyHistogram" "counts" "[J" .null := D40 (Or.inr (wd11 hw)) (ty := (.array .long)) (by decide)
      have F40_total_b40 : Fld Z h40 b40 "com/example/spokewire/spokewire/cli/LatencyHistogram" "total" "J" (.long (0 : Int64)) := D40 (Or.inl (wd18 hw)) (ty := .long) (by decide)
      refine Jvm.OwnWp.dup K at_40 rfl (pc' := 41) rfl ?_
      refine callInit K (y := (⟨"com/example/spokewire/spokewire/cli/LatencyHistogram", "<init>", "()V"⟩ : MethodName)) (b := b40) (argsL := []) (S := [(.ref b40)]) rfl (wd3 hw) (wd4 hw) (wd2 hw) (wd5 hw) rfl (by decide) (c_lhi l Z a0 hw [] b40 h40 n0 (Nat.le_trans Z0 P40.1) A40 ge_b40 F40_counts_b40 F40_total_b40) (lenOf pd6 rfl) at_41 rfl (Nat.le_of_ble_eq_true rfl) (Nat.le_of_ble_eq_true rfl) (Nat.le_of_ble_eq_true rfl) (Nat.le_of_ble_eq_true rfl) rfl (pc' := 44) rfl ?_
      rintro v41 h41 ⟨rfl, K41, cb, L41, Q41_c, Q41_t, Q41_h⟩
      have ne_b38_cb : b38 ≠ cb := Nat.ne_of_lt (Nat.lt_of_lt_of_le (Exa.lt X40_b38) L41)
      have ne_b40_cb : b40 ≠ cb := Nat.ne_of_lt (Nat.lt_of_lt_of_le (Exa.lt A40) L41)
      have ne_ca_cb : ca ≠ cb := Nat.ne_of_lt (Nat.lt_of_lt_of_le (V40_ca.lt) L41)
      have lt_cb : h0.size ≤ cb := Nat.le_trans P40.1 L41
      have ge_cb : n0 ≤ cb := Nat.le_trans Z0 lt_cb
      have F41_counts_b38 := (Fld.keep F40_counts_b38 K41 (ninS ne_b38_b40 (nin0)))
      have F41_total_b38 := (Fld.keep F40_total_b38 K41 (ninS ne_b38_b40 (nin0)))
      have X41_b38 := (Exa.keep X40_b38 K41)
      have X41_b40 := (Exa.keep A40 K41)
      have V41_ca := (V40_ca.keep K41 (ninS ne_ca_b40 (nin0)))
      have O41 := (O40.keep K41 (allS ge_b40 (all0)))
      have P41 := (P40.trans K41 (allS (Or.inr lt_b40) (all0)))
      show Go _ _ _ _ _ _ _ _ _ _ _ h41 4 14596 (mkF m 44 #[.val (.long pa), .second, .val (.long pb), .second, .val (.int fl), .val (.int (1 : Int32)), .val (.int (0 : Int32)), .val (.ref b38), .unset, .unset, .unset, .unset, .unset, .unset, .unset, .unset, .unset, .unset, .unset, .unset] [(.ref b40)]) _
      refine Jvm.OwnWp.astore K at_44 rfl (Ls' := #[.val (.long pa), .second, .val (.long pb), .second, .val (.int fl), .val (.int (1 : Int32)), .val (.int (0 : Int32)), .val (.ref b38), .val (.ref b40), .unset, .unset, .unset, .unset, .unset, .unset, .unset, .unset, .unset, .unset, .unset]) rfl (pc' := 46) rfl ?_
      refine Jvm.OwnWp.lconst K (0 : Int64) at_46 (by decide) (pc' := 47) rfl ?_
      refine Jvm.OwnWp.lstore K at_47 (Ls' := #[.val (.long pa), .second, .val (.long pb), .second, .val (.int fl), .val (.int (1 : Int32)), .val (.int (0 : Int32)), .val (.ref b38), .val (.ref b40), .val (.long (0 : Int64)), .second, .unset, .unset, .unset, .unset, .unset, .unset, .unset, .unset, .unset]) rfl (pc' := 49) rfl ?_
      refine Jvm.OwnWp.lconst K (0 : Int64) at_49 (by decide) (pc' := 50) rfl ?_
      refine Jvm.OwnWp.lstore K at_50 (Ls' := #[.val (.long pa), .second, .val (.long pb), .second, .val (.int fl), .val (.int (1 : Int32)), .val (.int (0 : Int32)), .val (.ref b38), .val (.ref b40), .val (.long (0 : Int64)), .second, .val (.long (0 : Int64)), .second, .unset, .unset, .unset, .unset, .unset, .unset, .unset]) rfl (pc' := 52) rfl ?_
      refine Jvm.OwnWp.iload K at_52 rfl (pc' := 54) rfl ?_
      refine ifN K at_54 (by decide) (pc' := 57) rfl ?_
      refine Jvm.OwnWp.aload K at_57 rfl rfl (pc' := 59) rfl ?_
      refine Jvm.OwnWp.lloadN K at_59 rfl (pc' := 60) rfl ?_
      refine callVirt K (y := (⟨"com/example/spokewire/spokewire/cli/LatencyHistogram", "record", "(J)V"⟩ : MethodName)) (b := b38) (argsL := [(.long pa)]) (S := []) (wd24 hw) (wd25 hw) (wd27 hw) (wd26 hw) (wd2 hw) (wd28 hw) (by decide) X41_b38 (c_rcd l Z a0 hw [] b38 ca pa 0 1 nil0 h41 n0 (Nat.le_trans Z0 P41.1) X41_b38 ge_b38 ge_ca (Ne.symm ne_b38_ca) F41_counts_b38 F41_total_b38 V41_ca (by decide)) (lenOf pd9 rfl) at_60 rfl (Nat.le_of_ble_eq_true rfl) (Nat.le_of_ble_eq_true rfl) (Nat.le_of_ble_eq_true rfl) (Nat.le_of_ble_eq_true rfl) rfl (pc' := 63) rfl ?_
      rintro v42 h42 ⟨rfl, K42, Q42_c, Q42_t, Q42_h⟩
      have F42_counts_b40 := (Fld.keep Q41_c K42 (ninS (Ne.symm ne_b38_b40) (ninS (Ne.symm ne_ca_b40) (nin0))))
      have F42_total_b40 := (Fld.keep Q41_t K42 (ninS (Ne.symm ne_b38_b40) (ninS (Ne.symm ne_ca_b40) (nin0))))
      have X42_b38 := (Exa.keep X41_b38 K42)
      have X42_b40 := (Exa.keep X41_b40 K42)
      have V42_cb := (Q41_h.keep K42 (ninS (Ne.symm ne_b38_cb) (ninS (Ne.symm ne_ca_cb) (nin0))))
      have O42 := (O41.keep K42 (allS ge_b38 (allS ge_ca (all0))))
      have P42 := (P41.trans K42 (allS (Or.inr lt_b38) (allS (Or.inr lt_ca) (all0))))
      show Go _ _ _ _ _ _ _ _ _ _ _ h42 4 14596 (mkF m 63 #[.val (.long pa), .second, .val (.long pb), .second, .val (.int fl), .val (.int (1 : Int32)), .val (.int (0 : Int32)), .val (.ref b38), .val (.ref b40), .val (.long (0 : Int64)), .second, .val (.long (0 : Int64)), .second, .unset, .unset, .unset, .unset, .unset, .unset, .unset] []) _
      refine Jvm.OwnWp.aload K at_63 rfl rfl (pc' := 65) rfl ?_
      refine Jvm.OwnWp.dconst1 K at_65 (v := (4607182418800017408 : UInt64)) rfl (pc' := 66) rfl ?_
      show Go _ _ _ _ _ _ _ _ _ _ _ h42 4 14596 (mkF m 66 #[.val (.long pa), .second, .val (.long pb), .second, .val (.int fl), .val (.int (1 : Int32)), .val (.int (0 : Int32)), .val (.ref b38), .val (.ref b40), .val (.long (0 : Int64)), .second, .val (.long (0 : Int64)), .second, .unset, .unset, .unset, .unset, .unset, .unset, .unset] [(.double (4607182418800017408 : UInt64)), (.ref b38)]) _
      refine callVirt K (y := (⟨"com/example/spokewire/spokewire/cli/LatencyHistogram", "percentile", "(D)J"⟩ : MethodName)) (b := b38) (argsL := [(.double (4607182418800017408 : UInt64))]) (S := []) (wd37 hw) (wd38 hw) (wd40 hw) (wd39 hw) (wd2 hw) (wd41 hw) (by decide) X42_b38 (c_per1_1 l Z a0 hw [] b38 ca (bump nil0 (bkt (nv pa))) (bkt (nv pa)) h42 n0 (Nat.le_trans Z0 P42.1) O42 S_ad Q42_c Q42_t Q42_h (by omega) (stopA _).1 (stopA _).2 (smallA _)) (lenOf pd10 rfl) at_66 rfl (Nat.le_of_ble_eq_true rfl) (Nat.le_of_ble_eq_true rfl) (Nat.le_of_ble_eq_true rfl) (Nat.le_of_ble_eq_true rfl) rfl (pc' := 69) rfl ?_
      rintro v43 h43 ⟨r43, rfl, rfl, e43⟩
      show Go _ _ _ _ _ _ _ _ _ _ _ h42 4 14596 (mkF m 69 #[.val (.long pa), .second, .val (.long pb), .second, .val (.int fl), .val (.int (1 : Int32)), .val (.int (0 : Int32)), .val (.ref b38), .val (.ref b40), .val (.long (0 : Int64)), .second, .val (.long (0 : Int64)), .second, .unset, .unset, .unset, .unset, .unset, .unset, .unset] [(.long r43)]) _
      refine Jvm.OwnWp.lstore K at_69 (Ls' := #[.val (.long pa), .second, .val (.long pb), .second, .val (.int fl), .val (.int (1 : Int32)), .val (.int (0 : Int32)), .val (.ref b38), .val (.ref b40), .val (.long r43), .second, .val (.long (0 : Int64)), .second, .unset, .unset, .unset, .unset, .unset, .unset, .unset]) rfl (pc' := 71) rfl ?_
      refine Jvm.OwnWp.iload K at_71 rfl (pc' := 73) rfl ?_
      refine ifY K at_73 (by decide) (pc' := 90) (by decide) (by decide) ?_
      refine Jvm.OwnWp.aload K at_90 rfl rfl (pc' := 92) rfl ?_
      refine Jvm.OwnWp.aload K at_92 rfl rfl (pc' := 94) rfl ?_
      refine callVirt K (y := (⟨"com/example/spokewire/spokewire/cli/LatencyHistogram", "add", "(Lcom/example/spokewire/spokewire/cli/LatencyHistogram;)V"⟩ : MethodName)) (b := b38) (argsL := [(.ref b40)]) (S := []) (wd12 hw) (wd13 hw) (wd15 hw) (wd14 hw) (wd2 hw) (wd16 hw) (by decide) X42_b38 (c_add l Z a0 hw [] b38 b40 ca cb 1 0 1 (bump nil0 (bkt (nv pa))) nil0 h42 n0 (Nat.le_trans Z0 P42.1) X42_b38 ge_b38 ge_ca (Ne.symm ne_b38_ca) ne_ca_b40 (Ne.symm ne_ca_cb) Q42_c Q42_t F42_counts_b40 F42_total_b40 Q42_h V42_cb (by decide)) (lenOf pd7 rfl) at_94 rfl (Nat.le_of_ble_eq_true rfl) (Nat.le_of_ble_eq_true rfl) (Nat.le_of_ble_eq_true rfl) (Nat.le_of_ble_eq_true rfl) rfl (pc' := 97) rfl ?_
      rintro v44 h44 ⟨rfl, K44, Q44_c, Q44_t, Q44_h⟩
      have F44_counts_b40 := (Fld.keep F42_counts_b40 K44 (ninS (Ne.symm ne_b38_b40) (ninS (Ne.symm ne_ca_b40) (nin0))))
      have F44_total_b40 := (Fld.keep F42_total_b40 K44 (ninS (Ne.symm ne_b38_b40) (ninS (Ne.symm ne_ca_b40) (nin0))))
      have X44_b38 := (Exa.keep X42_b38 K44)
      have X44_b40 := (Exa.keep X42_b40 K44)
      have V44_cb := (V42_cb.keep K44 (ninS (Ne.symm ne_b38_cb) (ninS (Ne.symm ne_ca_cb) (nin0))))
      have O44 := (O42.keep K44 (allS ge_b38 (allS ge_ca (all0))))
      have P44 := (P42.trans K44 (allS (Or.inr lt_b38) (allS (Or.inr lt_ca) (all0))))
      show Go _ _ _ _ _ _ _ _ _ _ _ h44 4 14596 (mkF m 97 #[.val (.long pa), .second, .val (.long pb), .second, .val (.int fl), .val (.int (1 : Int32)), .val (.int (0 : Int32)), .val (.ref b38), .val (.ref b40), .val (.long r43), .second, .val (.long (0 : Int64)), .second, .unset, .unset, .unset, .unset, .unset, .unset, .unset] []) _
      refine Jvm.OwnWp.lconst K (0 : Int64) at_97 (by decide) (pc' := 98) rfl ?_
      refine Jvm.OwnWp.lstore K at_98 (Ls' := #[.val (.long pa), .second, .val (.long pb), .second, .val (.int fl), .val (.int (1 : Int32)), .val (.int (0 : Int32)), .val (.ref b38), .val (.ref b40), .val (.long r43), .second, .val (.long (0 : Int64)), .second, .val (.long (0 : Int64)), .second, .unset, .unset, .unset, .unset, .unset]) rfl (pc' := 100) rfl ?_
      refine Jvm.OwnWp.iload K at_100 rfl (pc' := 102) rfl ?_
      refine ifN K at_102 (by decide) (pc' := 105) rfl ?_
      refine Jvm.OwnWp.lload K at_105 rfl (pc' := 107) rfl ?_
      refine Jvm.OwnWp.lconst K (1 : Int64) at_107 (by decide) (pc' := 108) rfl ?_
      refine Jvm.OwnWp.ladd K at_108 (pc' := 109) rfl ?_
      refine Jvm.OwnWp.lstore K at_109 (Ls' := #[.val (.long pa), .second, .val (.long pb), .second, .val (.int fl), .val (.int (1 : Int32)), .val (.int (0 : Int32)), .val (.ref b38), .val (.ref b40), .val (.long r43), .second, .val (.long (0 : Int64)), .second, .val (.long ((0 : Int64) + (1 : Int64))), .second, .unset, .unset, .unset, .unset, .unset]) rfl (pc' := 111) rfl ?_
      refine Jvm.OwnWp.iload K at_111 rfl (pc' := 113) rfl ?_
      refine ifY K at_113 (by decide) (pc' := 122) (by decide) (by decide) ?_
      refine Jvm.OwnWp.aload K at_122 rfl rfl (pc' := 124) rfl ?_
      refine callVirt K (y := (⟨"com/example/spokewire/spokewire/cli/LatencyHistogram", "count", "()J"⟩ : MethodName)) (b := b38) (argsL := []) (S := []) (wd19 hw) (wd20 hw) (wd22 hw) (wd21 hw) (wd2 hw) (wd23 hw) (by decide) X44_b38 (c_cnt l Z a0 hw [] b38 1 h44 n0 (Nat.le_trans Z0 P44.1) Q44_t) (lenOf pd8 rfl) at_124 rfl (Nat.le_of_ble_eq_true rfl) (Nat.le_of_ble_eq_true rfl) (Nat.le_of_ble_eq_true rfl) (Nat.le_of_ble_eq_true rfl) rfl (pc' := 127) rfl ?_
      rintro v45 h45 ⟨rfl, rfl⟩
      show Go _ _ _ _ _ _ _ _ _ _ _ h44 4 14596 (mkF m 127 #[.val (.long pa), .second, .val (.long pb), .second, .val (.int fl), .val (.int (1 : Int32)), .val (.int (0 : Int32)), .val (.ref b38), .val (.ref b40), .val (.long r43), .second, .val (.long (0 : Int64)), .second, .val (.long ((0 : Int64) + (1 : Int64))), .second, .unset, .unset, .unset, .unset, .unset] [(.long (1 : Int64))]) _
      refine Jvm.OwnWp.lload K at_127 rfl (pc' := 129) rfl ?_
      refine Jvm.OwnWp.lcmp K at_129 (pc' := 130) rfl ?_
      refine ifN K at_130 (by decide) (pc' := 133) rfl ?_
      refine Jvm.OwnWp.iconst K (1 : Int32) at_133 (by decide) (pc' := 134) rfl ?_
      refine goto' K at_134 (pc' := 138) (by decide) (by decide) ?_
      refine Jvm.OwnWp.istore K at_138 (Ls' := #[.val (.long pa), .second, .val (.long pb), .second, .val (.int fl), .val (.int (1 : Int32)), .val (.int (0 : Int32)), .val (.ref b38), .val (.ref b40), .val (.long r43), .second, .val (.long (0 : Int64)), .second, .val (.long ((0 : Int64) + (1 : Int64))), .second, .val (.int (1 : Int32)), .unset, .unset, .unset, .unset]) rfl (pc' := 140) rfl ?_
      refine Jvm.OwnWp.iload K at_140 rfl (pc' := 142) rfl ?_
      refine ifN K at_142 (by decide) (pc' := 145) rfl ?_
      refine Jvm.OwnWp.aload K at_145 rfl rfl (pc' := 147) rfl ?_
      refine callVirt K (y := (⟨"com/example/spokewire/spokewire/cli/LatencyHistogram", "count", "()J"⟩ : MethodName)) (b := b40) (argsL := []) (S := []) (wd19 hw) (wd20 hw) (wd22 hw) (wd21 hw) (wd2 hw) (wd23 hw) (by decide) X44_b40 (c_cnt l Z a0 hw [] b40 0 h44 n0 (Nat.le_trans Z0 P44.1) F44_total_b40) (lenOf pd8 rfl) at_147 rfl (Nat.le_of_ble_eq_true rfl) (Nat.le_of_ble_eq_true rfl) (Nat.le_of_ble_eq_true rfl) (Nat.le_of_ble_eq_true rfl) rfl (pc' := 150) rfl ?_
      rintro v46 h46 ⟨rfl, rfl⟩
      show Go _ _ _ _ _ _ _ _ _ _ _ h44 4 14596 (mkF m 150 #[.val (.long pa), .second, .val (.long pb), .second, .val (.int fl), .val (.int (1 : Int32)), .val (.int (0 : Int32)), .val (.ref b38), .val (.ref b40), .val (.long r43), .second, .val (.long (0 : Int64)), .second, .val (.long ((0 : Int64) + (1 : Int64))), .second, .val (.int (1 : Int32)), .unset, .unset, .unset, .unset] [(.long (0 : Int64))]) _
      refine Jvm.OwnWp.iload K at_150 rfl (pc' := 152) rfl ?_
      refine ifY K at_152 (by decide) (pc' := 159) (by decide) (by decide) ?_
      refine Jvm.OwnWp.lconst K (0 : Int64) at_159 (by decide) (pc' := 160) rfl ?_
      refine Jvm.OwnWp.lcmp K at_160 (pc' := 161) rfl ?_
      refine ifN K at_161 (by decide) (pc' := 164) rfl ?_
      refine Jvm.OwnWp.iconst K (1 : Int32) at_164 (by decide) (pc' := 165) rfl ?_
      refine goto' K at_165 (pc' := 169) (by decide) (by decide) ?_
      refine Jvm.OwnWp.istore K at_169 (Ls' := #[.val (.long pa), .second, .val (.long pb), .second, .val (.int fl), .val (.int (1 : Int32)), .val (.int (0 : Int32)), .val (.ref b38), .val (.ref b40), .val (.long r43), .second, .val (.long (0 : Int64)), .second, .val (.long ((0 : Int64) + (1 : Int64))), .second, .val (.int (1 : Int32)), .unset, .unset, .unset, .unset]) rfl (pc' := 171) rfl ?_
      refine Jvm.OwnWp.iload K at_171 rfl (pc' := 173) rfl ?_
      refine ifY K at_173 (by decide) (pc' := 184) (by decide) (by decide) ?_
      refine Jvm.OwnWp.iload K at_184 rfl (pc' := 186) rfl ?_
      refine ifN K at_186 (by decide) (pc' := 189) rfl ?_
      refine Jvm.OwnWp.iload K at_189 rfl (pc' := 191) rfl ?_
      refine ifY K at_191 (by decide) (pc' := 215) (by decide) (by decide) ?_
      refine Jvm.OwnWp.iload K at_215 rfl (pc' := 217) rfl ?_
      refine ifN K at_217 (by decide) (pc' := 220) rfl ?_
      refine Jvm.OwnWp.lload K at_220 rfl (pc' := 222) rfl ?_
      refine Jvm.OwnWp.lstore K at_222 (Ls' := #[.val (.long pa), .second, .val (.long pb), .second, .val (.int fl), .val (.int (1 : Int32)), .val (.int (0 : Int32)), .val (.ref b38), .val (.ref b40), .val (.long r43), .second, .val (.long (0 : Int64)), .second, .val (.long ((0 : Int64) + (1 : Int64))), .second, .val (.int (1 : Int32)), .val (.long r43), .second, .unset, .unset]) rfl (pc' := 224) rfl ?_
      refine Jvm.OwnWp.lload K at_224 rfl (pc' := 226) rfl ?_
      refine Jvm.OwnWp.lstore K at_226 (Ls' := #[.val (.long pa), .second, .val (.long pb), .second, .val (.int fl), .val (.int (1 : Int32)), .val (.int (0 : Int32)), .val (.ref b38), .val (.ref b40), .val (.long r43), .second, .val (.long (0 : Int64)), .second, .val (.long ((0 : Int64) + (1 : Int64))), .second, .val (.int (1 : Int32)), .val (.long r43), .second, .val (.long r43), .second]) rfl (pc' := 228) rfl ?_
      refine goto' K at_228 (pc' := 239) (by decide) (by decide) ?_
      refine Jvm.OwnWp.iload K at_239 rfl (pc' := 241) rfl ?_
      refine ifN K at_241 (by decide) (pc' := 244) rfl ?_
      refine Jvm.OwnWp.aload K at_244 rfl rfl (pc' := 246) rfl ?_
      refine Jvm.OwnWp.ldc2D K (wd72 hw) at_246 (pc' := 249) rfl ?_
      show Go _ _ _ _ _ _ _ _ _ _ _ h44 4 14596 (mkF m 249 #[.val (.long pa), .second, .val (.long pb), .second, .val (.int fl), .val (.int (1 : Int32)), .val (.int (0 : Int32)), .val (.ref b38), .val (.ref b40), .val (.long r43), .second, .val (.long (0 : Int64)), .second, .val (.long ((0 : Int64) + (1 : Int64))), .second, .val (.int (1 : Int32)), .val (.long r43), .second, .val (.long r43), .second] [(.double (4602678819172646912 : UInt64)), (.ref b38)]) _
      refine callVirt K (y := (⟨"com/example/spokewire/spokewire/cli/LatencyHistogram", "percentile", "(D)J"⟩ : MethodName)) (b := b38) (argsL := [(.double (4602678819172646912 : UInt64))]) (S := []) (wd37 hw) (wd38 hw) (wd40 hw) (wd39 hw) (wd2 hw) (wd41 hw) (by decide) X44_b38 (c_perh_1 l Z a0 hw [] b38 ca (add2 (bump nil0 (bkt (nv pa))) nil0) (bkt (nv pa)) h44 n0 (Nat.le_trans Z0 P44.1) O44 S_ad Q44_c Q44_t Q44_h (by omega) (stopL _).1 (stopL _).2 (smallL _)) (lenOf pd10 rfl) at_249 rfl (Nat.le_of_ble_eq_true rfl) (Nat.le_of_ble_eq_true rfl) (Nat.le_of_ble_eq_true rfl) (Nat.le_of_ble_eq_true rfl) rfl (pc' := 252) rfl ?_
      rintro v47 h47 ⟨r47, rfl, rfl, e47⟩
      show Go _ _ _ _ _ _ _ _ _ _ _ h44 4 14596 (mkF m 252 #[.val (.long pa), .second, .val (.long pb), .second, .val (.int fl), .val (.int (1 : Int32)), .val (.int (0 : Int32)), .val (.ref b38), .val (.ref b40), .val (.long r43), .second, .val (.long (0 : Int64)), .second, .val (.long ((0 : Int64) + (1 : Int64))), .second, .val (.int (1 : Int32)), .val (.long r43), .second, .val (.long r43), .second] [(.long r47)]) _
      refine Jvm.OwnWp.lload K at_252 rfl (pc' := 254) rfl ?_
      refine Jvm.OwnWp.lcmp K at_254 (pc' := 255) rfl ?_
      refine ifN K at_255 (XT.ll_ne_f (own_eq1 e43 e47)) (pc' := 258) rfl ?_
      refine Jvm.OwnWp.aload K at_258 rfl rfl (pc' := 260) rfl ?_
      refine Jvm.OwnWp.dconst1 K at_260 (v := (4607182418800017408 : UInt64)) rfl (pc' := 261) rfl ?_
      show Go _ _ _ _ _ _ _ _ _ _ _ h44 4 14596 (mkF m 261 #[.val (.long pa), .second, .val (.long pb), .second, .val (.int fl), .val (.int (1 : Int32)), .val (.int (0 : Int32)), .val (.ref b38), .val (.ref b40), .val (.long r43), .second, .val (.long (0 : Int64)), .second, .val (.long ((0 : Int64) + (1 : Int64))), .second, .val (.int (1 : Int32)), .val (.long r43), .second, .val (.long r43), .second] [(.double (4607182418800017408 : UInt64)), (.ref b38)]) _
      refine callVirt K (y := (⟨"com/example/spokewire/spokewire/cli/LatencyHistogram", "percentile", "(D)J"⟩ : MethodName)) (b := b38) (argsL := [(.double (4607182418800017408 : UInt64))]) (S := []) (wd37 hw) (wd38 hw) (wd40 hw) (wd39 hw) (wd2 hw) (wd41 hw) (by decide) X44_b38 (c_per1_1 l Z a0 hw [] b38 ca (add2 (bump nil0 (bkt (nv pa))) nil0) (bkt (nv pa)) h44 n0 (Nat.le_trans Z0 P44.1) O44 S_ad Q44_c Q44_t Q44_h (by omega) (stopL _).1 (stopL _).2 (smallL _)) (lenOf pd10 rfl) at_261 rfl (Nat.le_of_ble_eq_true rfl) (Nat.le_of_ble_eq_true rfl) (Nat.le_of_ble_eq_true rfl) (Nat.le_of_ble_eq_true rfl) rfl (pc' := 264) rfl ?_
      rintro v48 h48 ⟨r48, rfl, rfl, e48⟩
      show Go _ _ _ _ _ _ _ _ _ _ _ h44 4 14596 (mkF m 264 #[.val (.long pa), .second, .val (.long pb), .second, .val (.int fl), .val (.int (1 : Int32)), .val (.int (0 : Int32)), .val (.ref b38), .val (.ref b40), .val (.long r43), .second, .val (.long (0 : Int64)), .second, .val (.long ((0 : Int64) + (1 : Int64))), .second, .val (.int (1 : Int32)), .val (.long r43), .second, .val (.long r43), .second] [(.long r48)]) _
      refine Jvm.OwnWp.lload K at_264 rfl (pc' := 266) rfl ?_
      refine Jvm.OwnWp.lcmp K at_266 (pc' := 267) rfl ?_
      refine ifN K at_267 (XT.ll_ne_f (own_eq1 e43 e48)) (pc' := 270) rfl ?_
      refine Jvm.OwnWp.iconst K (1 : Int32) at_270 (by decide) (pc' := 271) rfl ?_
      refine goto' K at_271 (pc' := 275) (by decide) (by decide) ?_
      refine retB K (t := .boolean) rfl (by simp) at_275 (Nat.le_of_ble_eq_true rfl) (Nat.le_of_ble_eq_true rfl) ?_
      rfl
    · refine ifN K at_18 (XT.i0_eq_f c2) (pc' := 21) rfl ?_
      refine Jvm.OwnWp.iconst K (1 : Int32) at_21 (by decide) (pc' := 22) rfl ?_
      refine goto' K at_22 (pc' := 26) (by decide) (by decide) ?_
      refine Jvm.OwnWp.istore K at_26 (Ls' := #[.val (.long pa), .second, .val (.long pb), .second, .val (.int fl), .val (.int (1 : Int32)), .val (.int (1 : Int32)), .unset, .unset, .unset, .unset, .unset, .unset, .unset, .unset, .unset, .unset, .unset, .unset, .unset]) rfl (pc' := 28) rfl ?_
      refine newObj K (wd0 hw) (wd1 hw) (wd2 hw) at_28 (by decide) (by decide) (pc' := 31) rfl ?_
      intro h49 b49 g49 E49 A49 D49
      have lt_b49 : h0.size ≤ b49 := Nat.le_trans P0.1 (Nat.le_of_eq g49.symm)
      have ge_b49 : n0 ≤ b49 := Nat.le_trans Z0 lt_b49
      have O49 := (O0.ext E49)
      have P49 := (P0.ext E49)
      have F49_counts_b49 : Fld Z h49 b49 "com/example/spokewire/spokewire/cli/LatencyHistogram" "counts" "[J" .null := D49 (Or.inr (wd11 hw)) (ty := (.array .long)) (by decide)
      have F49_total_b49 : Fld Z h49 b49 "com/example/spokewire/spokewire/cli/LatencyHistogram" "total" "J" (.long (0 : Int64)) := D49 (Or.inl (wd18 hw)) (ty := .long) (by decide)
      refine Jvm.OwnWp.dup K at_31 rfl (pc' := 32) rfl ?_
      refine callInit K (y := (⟨"com/example/spokewire/spokewire/cli/LatencyHistogram", "<init>", "()V"⟩ : MethodName)) (b := b49) (argsL := []) (S := [(.ref b49)]) rfl (wd3 hw) (wd4 hw) (wd2 hw) (wd5 hw) rfl (by decide) (c_lhi l Z a0 hw [] b49 h49 n0 (Nat.le_trans Z0 P49.1) A49 ge_b49 F49_counts_b49 F49_total_b49) (lenOf pd6 rfl) at_32 rfl (Nat.le_of_ble_eq_true rfl) (Nat.le_of_ble_eq_true rfl) (Nat.le_of_ble_eq_true rfl) (Nat.le_of_ble_eq_true rfl) rfl (pc' := 35) rfl ?_
      rintro v50 h50 ⟨rfl, K50, ca, L50, Q50_c, Q50_t, Q50_h⟩
      have ne_b49_ca : b49 ≠ ca := Nat.ne_of_lt (Nat.lt_of_lt_of_le (Exa.lt A49) L50)
      have lt_ca : h0.size ≤ ca := Nat.le_trans P49.1 L50
      have ge_ca : n0 ≤ ca := Nat.le_trans Z0 lt_ca
      have X50_b49 := (Exa.keep A49 K50)
      have O50 := (O49.keep K50 (allS ge_b49 (all0)))
      have P50 := (P49.trans K50 (allS (Or.inr lt_b49) (all0)))
      show Go _ _ _ _ _ _ _ _ _ _ _ h50 2 7298 (mkF m 35 #[.val (.long pa), .second, .val (.long pb), .second, .val (.int fl), .val (.int (1 : Int32)), .val (.int (1 : Int32)), .unset, .unset, .unset, .unset, .unset, .unset, .unset, .unset, .unset, .unset, .unset, .unset, .unset] [(.ref b49)]) _
      refine Jvm.OwnWp.astore K at_35 rfl (Ls' := #[.val (.long pa), .second, .val (.long pb), .second, .val (.int fl), .val (.int (1 : Int32)), .val (.int (1 : Int32)), .val (.ref b49), .unset, .unset, .unset, .unset, .unset, .unset, .unset, .unset, .unset, .unset, .unset, .unset]) rfl (pc' := 37) rfl ?_
      refine newObj K (wd0 hw) (wd1 hw) (wd2 hw) at_37 (by decide) (by decide) (pc' := 40) rfl ?_
      intro h51 b51 g51 E51 A51 D51
      have ne_b49_b51 : b49 ≠ b51 := Nat.ne_of_lt (Nat.lt_of_lt_of_eq (Exa.lt X50_b49) g51.symm)
      have ne_ca_b51 : ca ≠ b51 := Nat.ne_of_lt (Nat.lt_of_lt_of_eq (Q50_h.lt) g51.symm)
      have lt_b51 : h0.size ≤ b51 := Nat.le_trans P50.1 (Nat.le_of_eq g51.symm)
      have ge_b51 : n0 ≤ b51 := Nat.le_trans Z0 lt_b51
      have F51_counts_b49 := (Fld.ext E51 Q50_c)
      have F51_total_b49 := (Fld.ext E51 Q50_t)
      have X51_b49 := (Exa.ext E51 X50_b49)
      have V51_ca := (Q50_h.ext E51)
      have O51 := (O50.ext E51)
      have P51 := (P50.ext E51)
      have F51_counts_b51 : Fld Z h51 b51 "com/example/spokewire/spokewire/cli/LatencyHistogram" "counts" "[J" .null := D51 (Or.inr (wd11 hw)) (ty := (.array .long)) (by decide)
      have F51_total_b51 : Fld Z h51 b51 "com/example/spokewire/spokewire/cli/LatencyHistogram" "total" "J" (.long (0 : Int64)) := D51 (Or.inl (wd18 hw)) (ty := .long) (by decide)
      refine Jvm.OwnWp.dup K at_40 rfl (pc' := 41) rfl ?_
      refine callInit K (y := (⟨"com/example/spokewire/spokewire/cli/LatencyHistogram", "<init>", "()V"⟩ : MethodName)) (b := b51) (argsL := []) (S := [(.ref b51)]) rfl (wd3 hw) (wd4 hw) (wd2 hw) (wd5 hw) rfl (by decide) (c_lhi l Z a0 hw [] b51 h51 n0 (Nat.le_trans Z0 P51.1) A51 ge_b51 F51_counts_b51 F51_total_b51) (lenOf pd6 rfl) at_41 rfl (Nat.le_of_ble_eq_true rfl) (Nat.le_of_ble_eq_true rfl) (Nat.le_of_ble_eq_true rfl) (Nat.le_of_ble_eq_true rfl) rfl (pc' := 44) rfl ?_
      rintro v52 h52 ⟨rfl, K52, cb, L52, Q52_c, Q52_t, Q52_h⟩
      have ne_b49_cb : b49 ≠ cb := Nat.ne_of_lt (Nat.lt_of_lt_of_le (Exa.lt X51_b49) L52)
      have ne_b51_cb : b51 ≠ cb := Nat.ne_of_lt (Nat.lt_of_lt_of_le (Exa.lt A51) L52)
      have ne_ca_cb : ca ≠ cb := Nat.ne_of_lt (Nat.lt_of_lt_of_le (V51_ca.lt) L52)
      have lt_cb : h0.size ≤ cb := Nat.le_trans P51.1 L52
      have ge_cb : n0 ≤ cb := Nat.le_trans Z0 lt_cb
      have F52_counts_b49 := (Fld.keep F51_counts_b49 K52 (ninS ne_b49_b51 (nin0)))
      have F52_total_b49 := (Fld.keep F51_total_b49 K52 (ninS ne_b49_b51 (nin0)))
      have X52_b49 := (Exa.keep X51_b49 K52)
      have X52_b51 := (Exa.keep A51 K52)
      have V52_ca := (V51_ca.keep K52 (ninS ne_ca_b51 (nin0)))
      have O52 := (O51.keep K52 (allS ge_b51 (all0)))
      have P52 := (P51.trans K52 (allS (Or.inr lt_b51) (all0)))
      show Go _ _ _ _ _ _ _ _ _ _ _ h52 4 14596 (mkF m 44 #[.val (.long pa), .second, .val (.long pb), .second, .val (.int fl), .val (.int (1 : Int32)), .val (.int (1 : Int32)), .val (.ref b49), .unset, .unset, .unset, .unset, .unset, .unset, .unset, .unset, .unset, .unset, .unset, .unset] [(.ref b51)]) _
      refine Jvm.OwnWp.astore K at_44 rfl (Ls' := #[.val (.long pa), .second, .val (.long pb), .second, .val (.int fl), .val (.int (1 : Int32)), .val (.int (1 : Int32)), .val (.ref b49), .val (.ref b51), .unset, .unset, .unset, .unset, .unset, .unset, .unset, .unset, .unset, .unset, .unset]) rfl (pc' := 46) rfl ?_
      refine Jvm.OwnWp.lconst K (0 : Int64) at_46 (by decide) (pc' := 47) rfl ?_
      refine Jvm.OwnWp.lstore K at_47 (Ls' := #[.val (.long pa), .second, .val (.long pb), .second, .val (.int fl), .val (.int (1 : Int32)), .val (.int (1 : Int32)), .val (.ref b49), .val (.ref b51), .val (.long (0 : Int64)), .second, .unset, .unset, .unset, .unset, .unset, .unset, .unset, .unset, .unset]) rfl (pc' := 49) rfl ?_
      refine Jvm.OwnWp.lconst K (0 : Int64) at_49 (by decide) (pc' := 50) rfl ?_
      refine Jvm.OwnWp.lstore K at_50 (Ls' := #[.val (.long pa), .second, .val (.long pb), .second, .val (.int fl), .val (.int (1 : Int32)), .val (.int (1 : Int32)), .val (.ref b49), .val (.ref b51), .val (.long (0 : Int64)), .second, .val (.long (0 : Int64)), .second, .unset, .unset, .unset, .unset, .unset, .unset, .unset]) rfl (pc' := 52) rfl ?_
      refine Jvm.OwnWp.iload K at_52 rfl (pc' := 54) rfl ?_
      refine ifN K at_54 (by decide) (pc' := 57) rfl ?_
      refine Jvm.OwnWp.aload K at_57 rfl rfl (pc' := 59) rfl ?_
      refine Jvm.OwnWp.lloadN K at_59 rfl (pc' := 60) rfl ?_
      refine callVirt K (y := (⟨"com/example/spokewire/spokewire/cli/LatencyHistogram", "record", "(J)V"⟩ : MethodName)) (b := b49) (argsL := [(.long pa)]) (S := []) (wd24 hw) (wd25 hw) (wd27 hw) (wd26 hw) (wd2 hw) (wd28 hw) (by decide) X52_b49 (c_rcd l Z a0 hw [] b49 ca pa 0 1 nil0 h52 n0 (Nat.le_trans Z0 P52.1) X52_b49 ge_b49 ge_ca (Ne.symm ne_b49_ca) F52_counts_b49 F52_total_b49 V52_ca (by decide)) (lenOf pd9 rfl) at_60 rfl (Nat.le_of_ble_eq_true rfl) (Nat.le_of_ble_eq_true rfl) (Nat.le_of_ble_eq_true rfl) (Nat.le_of_ble_eq_true rfl) rfl (pc' := 63) rfl ?_
      rintro v53 h53 ⟨rfl, K53, Q53_c, Q53_t, Q53_h⟩
      have F53_counts_b51 := (Fld.keep Q52_c K53 (ninS (Ne.symm ne_b49_b51) (ninS (Ne.symm ne_ca_b51) (nin0))))
      have F53_total_b51 := (Fld.keep Q52_t K53 (ninS (Ne.symm ne_b49_b51) (ninS (Ne.symm ne_ca_b51) (nin0))))
      have X53_b49 := (Exa.keep X52_b49 K53)
      have X53_b51 := (Exa.keep X52_b51 K53)
      have V53_cb := (Q52_h.keep K53 (ninS (Ne.symm ne_b49_cb) (ninS (Ne.symm ne_ca_cb) (nin0))))
      have O53 := (O52.keep K53 (allS ge_b49 (allS ge_ca (all0))))
      have P53 := (P52.trans K53 (allS (Or.inr lt_b49) (allS (Or.inr lt_ca) (all0))))
      show Go _ _ _ _ _ _ _ _ _ _ _ h53 4 14596 (mkF m 63 #[.val (.long pa), .second, .val (.long pb), .second, .val (.int fl), .val (.int (1 : Int32)), .val (.int (1 : Int32)), .val (.ref b49), .val (.ref b51), .val (.long (0 : Int64)), .second, .val (.long (0 : Int64)), .second, .unset, .unset, .unset, .unset, .unset, .unset, .unset] []) _
      refine Jvm.OwnWp.aload K at_63 rfl rfl (pc' := 65) rfl ?_
      refine Jvm.OwnWp.dconst1 K at_65 (v := (4607182418800017408 : UInt64)) rfl (pc' := 66) rfl ?_
      show Go _ _ _ _ _ _ _ _ _ _ _ h53 4 14596 (mkF m 66 #[.val (.long pa), .second, .val (.long pb), .second, .val (.int fl), .val (.int (1 : Int32)), .val (.int (1 : Int32)), .val (.ref b49), .val (.ref b51), .val (.long (0 : Int64)), .second, .val (.long (0 : Int64)), .second, .unset, .unset, .unset, .unset, .unset, .unset, .unset] [(.double (4607182418800017408 : UInt64)), (.ref b49)]) _
      refine callVirt K (y := (⟨"com/example/spokewire/spokewire/cli/LatencyHistogram", "percentile", "(D)J"⟩ : MethodName)) (b := b49) (argsL := [(.double (4607182418800017408 : UInt64))]) (S := []) (wd37 hw) (wd38 hw) (wd40 hw) (wd39 hw) (wd2 hw) (wd41 hw) (by decide) X53_b49 (c_per1_1 l Z a0 hw [] b49 ca (bump nil0 (bkt (nv pa))) (bkt (nv pa)) h53 n0 (Nat.le_trans Z0 P53.1) O53 S_ad Q53_c Q53_t Q53_h (by omega) (stopA _).1 (stopA _).2 (smallA _)) (lenOf pd10 rfl) at_66 rfl (Nat.le_of_ble_eq_true rfl) (Nat.le_of_ble_eq_true rfl) (Nat.le_of_ble_eq_true rfl) (Nat.le_of_ble_eq_true rfl) rfl (pc' := 69) rfl ?_
      rintro v54 h54 ⟨r54, rfl, rfl, e54⟩
      show Go _ _ _ _ _ _ _ _ _ _ _ h53 4 14596 (mkF m 69 #[.val (.long pa), .second, .val (.long pb), .second, .val (.int fl), .val (.int (1 : Int32)), .val (.int (1 : Int32)), .val (.ref b49), .val (.ref b51), .val (.long (0 : Int64)), .second, .val (.long (0 : Int64)), .second, .unset, .unset, .unset, .unset, .unset, .unset, .unset] [(.long r54)]) _
      refine Jvm.OwnWp.lstore K at_69 (Ls' := #[.val (.long pa), .second, .val (.long pb), .second, .val (.int fl), .val (.int (1 : Int32)), .val (.int (1 : Int32)), .val (.ref b49), .val (.ref b51), .val (.long r54), .second, .val (.long (0 : Int64)), .second, .unset, .unset, .unset, .unset, .unset, .unset, .unset]) rfl (pc' := 71) rfl ?_
      refine Jvm.OwnWp.iload K at_71 rfl (pc' := 73) rfl ?_
      refine ifN K at_73 (by decide) (pc' := 76) rfl ?_
      refine Jvm.OwnWp.aload K at_76 rfl rfl (pc' := 78) rfl ?_
      refine Jvm.OwnWp.lloadN K at_78 rfl (pc' := 79) rfl ?_
      refine callVirt K (y := (⟨"com/example/spokewire/spokewire/cli/LatencyHistogram", "record", "(J)V"⟩ : MethodName)) (b := b51) (argsL := [(.long pb)]) (S := []) (wd24 hw) (wd25 hw) (wd27 hw) (wd26 hw) (wd2 hw) (wd28 hw) (by decide) X53_b51 (c_rcd l Z a0 hw [] b51 cb pb 0 1 nil0 h53 n0 (Nat.le_trans Z0 P53.1) X53_b51 ge_b51 ge_cb (Ne.symm ne_b51_cb) F53_counts_b51 F53_total_b51 V53_cb (by decide)) (lenOf pd9 rfl) at_79 rfl (Nat.le_of_ble_eq_true rfl) (Nat.le_of_ble_eq_true rfl) (Nat.le_of_ble_eq_true rfl) (Nat.le_of_ble_eq_true rfl) rfl (pc' := 82) rfl ?_
      rintro v55 h55 ⟨rfl, K55, Q55_c, Q55_t, Q55_h⟩
      have F55_counts_b49 := (Fld.keep Q53_c K55 (ninS ne_b49_b51 (ninS ne_b49_cb (nin0))))
      have F55_total_b49 := (Fld.keep Q53_t K55 (ninS ne_b49_b51 (ninS ne_b49_cb (nin0))))
      have X55_b49 := (Exa.keep X53_b49 K55)
      have X55_b51 := (Exa.keep X53_b51 K55)
      have V55_ca := (Q53_h.keep K55 (ninS ne_ca_b51 (ninS ne_ca_cb (nin0))))
      have O55 := (O53.keep K55 (allS ge_b51 (allS ge_cb (all0))))
      have P55 := (P53.trans K55 (allS (Or.inr lt_b51) (allS (Or.inr lt_cb) (all0))))
      show Go _ _ _ _ _ _ _ _ _ _ _ h55 4 14596 (mkF m 82 #[.val (.long pa), .second, .val (.long pb), .second, .val (.int fl), .val (.int (1 : Int32)), .val (.int (1 : Int32)), .val (.ref b49), .val (.ref b51), .val (.long r54), .second, .val (.long (0 : Int64)), .second, .unset, .unset, .unset, .unset, .unset, .unset, .unset] []) _
      refine Jvm.OwnWp.aload K at_82 rfl rfl (pc' := 84) rfl ?_
      refine Jvm.OwnWp.dconst1 K at_84 (v := (4607182418800017408 : UInt64)) rfl (pc' := 85) rfl ?_
      show Go _ _ _ _ _ _ _ _ _ _ _ h55 4 14596 (mkF m 85 #[.val (.long pa), .second, .val (.long pb), .second, .val (.int fl), .val (.int (1 : Int32)), .val (.int (1 : Int32)), .val (.ref b49), .val (.ref b51), .val (.long r54), .second, .val (.long (0 : Int64)), .second, .unset, .unset, .unset, .unset, .unset, .unset, .unset] [(.double (4607182418800017408 : UInt64)), (.ref b51)]) _
      refine callVirt K (y := (⟨"com/example/spokewire/spokewire/cli/LatencyHistogram", "percentile", "(D)J"⟩ : MethodName)) (b := b51) (argsL := [(.double (4607182418800017408 : UInt64))]) (S := []) (wd37 hw) (wd38 hw) (wd40 hw) (wd39 hw) (wd2 hw) (wd41 hw) (by decide) X55_b51 (c_per1_1 l Z a0 hw [] b51 cb (bump nil0 (bkt (nv pb))) (bkt (nv pb)) h55 n0 (Nat.le_trans Z0 P55.1) O55 S_ad Q55_c Q55_t Q55_h (by omega) (stopA _).1 (stopA _).2 (smallA _)) (lenOf pd10 rfl) at_85 rfl (Nat.le_of_ble_eq_true rfl) (Nat.le_of_ble_eq_true rfl) (Nat.le_of_ble_eq_true rfl) (Nat.le_of_ble_eq_true rfl) rfl (pc' := 88) rfl ?_
      rintro v56 h56 ⟨r56, rfl, rfl, e56⟩
      show Go _ _ _ _ _ _ _ _ _ _ _ h55 4 14596 (mkF m 88 #[.val (.long pa), .second, .val (.long pb), .second, .val (.int fl), .val (.int (1 : Int32)), .val (.int (1 : Int32)), .val (.ref b49), .val (.ref b51), .val (.long r54), .second, .val (.long (0 : Int64)), .second, .unset, .unset, .unset, .unset, .unset, .unset, .unset] [(.long r56)]) _
      refine Jvm.OwnWp.lstore K at_88 (Ls' := #[.val (.long pa), .second, .val (.long pb), .second, .val (.int fl), .val (.int (1 : Int32)), .val (.int (1 : Int32)), .val (.ref b49), .val (.ref b51), .val (.long r54), .second, .val (.long r56), .second, .unset, .unset, .unset, .unset, .unset, .unset, .unset]) rfl (pc' := 90) rfl ?_
      refine Jvm.OwnWp.aload K at_90 rfl rfl (pc' := 92) rfl ?_
      refine Jvm.OwnWp.aload K at_92 rfl rfl (pc' := 94) rfl ?_
      refine callVirt K (y := (⟨"com/example/spokewire/spokewire/cli/LatencyHistogram", "add", "(Lcom/example/spokewire/spokewire/cli/LatencyHistogram;)V"⟩ : MethodName)) (b := b49) (argsL := [(.ref b51)]) (S := []) (wd12 hw) (wd13 hw) (wd15 hw) (wd14 hw) (wd2 hw) (wd16 hw) (by decide) X55_b49 (c_add l Z a0 hw [] b49 b51 ca cb 1 1 2 (bump nil0 (bkt (nv pa))) (bump nil0 (bkt (nv pb))) h55 n0 (Nat.le_trans Z0 P55.1) X55_b49 ge_b49 ge_ca (Ne.symm ne_b49_ca) ne_ca_b51 (Ne.symm ne_ca_cb) F55_counts_b49 F55_total_b49 Q55_c Q55_t V55_ca Q55_h (by decide)) (lenOf pd7 rfl) at_94 rfl (Nat.le_of_ble_eq_true rfl) (Nat.le_of_ble_eq_true rfl) (Nat.le_of_ble_eq_true rfl) (Nat.le_of_ble_eq_true rfl) rfl (pc' := 97) rfl ?_
      rintro v57 h57 ⟨rfl, K57, Q57_c, Q57_t, Q57_h⟩
      have F57_counts_b51 := (Fld.keep Q55_c K57 (ninS (Ne.symm ne_b49_b51) (ninS (Ne.symm ne_ca_b51) (nin0))))
      have F57_total_b51 := (Fld.keep Q55_t K57 (ninS (Ne.symm ne_b49_b51) (ninS (Ne.symm ne_ca_b51) (nin0))))
      have X57_b49 := (Exa.keep X55_b49 K57)
      have X57_b51 := (Exa.keep X55_b51 K57)
      have V57_cb := (Q55_h.keep K57 (ninS (Ne.symm ne_b49_cb) (ninS (Ne.symm ne_ca_cb) (nin0))))
      have O57 := (O55.keep K57 (allS ge_b49 (allS ge_ca (all0))))
      have P57 := (P55.trans K57 (allS (Or.inr lt_b49) (allS (Or.inr lt_ca) (all0))))
      show Go _ _ _ _ _ _ _ _ _ _ _ h57 4 14596 (mkF m 97 #[.val (.long pa), .second, .val (.long pb), .second, .val (.int fl), .val (.int (1 : Int32)), .val (.int (1 : Int32)), .val (.ref b49), .val (.ref b51), .val (.long r54), .second, .val (.long r56), .second, .unset, .unset, .unset, .unset, .unset, .unset, .unset] []) _
      refine Jvm.OwnWp.lconst K (0 : Int64) at_97 (by decide) (pc' := 98) rfl ?_
      refine Jvm.OwnWp.lstore K at_98 (Ls' := #[.val (.long pa), .second, .val (.long pb), .second, .val (.int fl), .val (.int (1 : Int32)), .val (.int (1 : Int32)), .val (.ref b49), .val (.ref b51), .val (.long r54), .second, .val (.long r56), .second, .val (.long (0 : Int64)), .second, .unset, .unset, .unset, .unset, .unset]) rfl (pc' := 100) rfl ?_
      refine Jvm.OwnWp.iload K at_100 rfl (pc' := 102) rfl ?_
      refine ifN K at_102 (by decide) (pc' := 105) rfl ?_
      refine Jvm.OwnWp.lload K at_105 rfl (pc' := 107) rfl ?_
      refine Jvm.OwnWp.lconst K (1 : Int64) at_107 (by decide) (pc' := 108) rfl ?_
      refine Jvm.OwnWp.ladd K at_108 (pc' := 109) rfl ?_
      refine Jvm.OwnWp.lstore K at_109 (Ls' := #[.val (.long pa), .second, .val (.long pb), .second, .val (.int fl), .val (.int (1 : Int32)), .val (.int (1 : Int32)), .val (.ref b49), .val (.ref b51), .val (.long r54), .second, .val (.long r56), .second, .val (.long ((0 : Int64) + (1 : Int64))), .second, .unset, .unset, .unset, .unset, .unset]) rfl (pc' := 111) rfl ?_
      refine Jvm.OwnWp.iload K at_111 rfl (pc' := 113) rfl ?_
      refine ifN K at_113 (by decide) (pc' := 116) rfl ?_
      refine Jvm.OwnWp.lload K at_116 rfl (pc' := 118) rfl ?_
      refine Jvm.OwnWp.lconst K (1 : Int64) at_118 (by decide) (pc' := 119) rfl ?_
      refine Jvm.OwnWp.ladd K at_119 (pc' := 120) rfl ?_
      refine Jvm.OwnWp.lstore K at_120 (Ls' := #[.val (.long pa), .second, .val (.long pb), .second, .val (.int fl), .val (.int (1 : Int32)), .val (.int (1 : Int32)), .val (.ref b49), .val (.ref b51), .val (.long r54), .second, .val (.long r56), .second, .val (.long (((0 : Int64) + (1 : Int64)) + (1 : Int64))), .second, .unset, .unset, .unset, .unset, .unset]) rfl (pc' := 122) rfl ?_
      refine Jvm.OwnWp.aload K at_122 rfl rfl (pc' := 124) rfl ?_
      refine callVirt K (y := (⟨"com/example/spokewire/spokewire/cli/LatencyHistogram", "count", "()J"⟩ : MethodName)) (b := b49) (argsL := []) (S := []) (wd19 hw) (wd20 hw) (wd22 hw) (wd21 hw) (wd2 hw) (wd23 hw) (by decide) X57_b49 (c_cnt l Z a0 hw [] b49 2 h57 n0 (Nat.le_trans Z0 P57.1) Q57_t) (lenOf pd8 rfl) at_124 rfl (Nat.le_of_ble_eq_true rfl) (Nat.le_of_ble_eq_true rfl) (Nat.le_of_ble_eq_true rfl) (Nat.le_of_ble_eq_true rfl) rfl (pc' := 127) rfl ?_
      rintro v58 h58 ⟨rfl, rfl⟩
      show Go _ _ _ _ _ _ _ _ _ _ _ h57 4 14596 (mkF m 127 #[.val (.long pa), .second, .val (.long pb), .second, .val (.int fl), .val (.int (1 : Int32)), .val (.int (1 : Int32)), .val (.ref b49), .val (.ref b51), .val (.long r54), .second, .val (.long r56), .second, .val (.long (((0 : Int64) + (1 : Int64)) + (1 : Int64))), .second, .unset, .unset, .unset, .unset, .unset] [(.long (2 : Int64))]) _
      refine Jvm.OwnWp.lload K at_127 rfl (pc' := 129) rfl ?_
      refine Jvm.OwnWp.lcmp K at_129 (pc' := 130) rfl ?_
      refine ifN K at_130 (by decide) (pc' := 133) rfl ?_
      refine Jvm.OwnWp.iconst K (1 : Int32) at_133 (by decide) (pc' := 134) rfl ?_
      refine goto' K at_134 (pc' := 138) (by decide) (by decide) ?_
      refine Jvm.OwnWp.istore K at_138 (Ls' := #[.val (.long pa), .second, .val (.long pb), .second, .val (.int fl), .val (.int (1 : Int32)), .val (.int (1 : Int32)), .val (.ref b49), .val (.ref b51), .val (.long r54), .second, .val (.long r56), .second, .val (.long (((0 : Int64) + (1 : Int64)) + (1 : Int64))), .second, .val (.int (1 : Int32)), .unset, .unset, .unset, .unset]) rfl (pc' := 140) rfl ?_
      refine Jvm.OwnWp.iload K at_140 rfl (pc' := 142) rfl ?_
      refine ifN K at_142 (by decide) (pc' := 145) rfl ?_
      refine Jvm.OwnWp.aload K at_145 rfl rfl (pc' := 147) rfl ?_
      refine callVirt K (y := (⟨"com/example/spokewire/spokewire/cli/LatencyHistogram", "count", "()J"⟩ : MethodName)) (b := b51) (argsL := []) (S := []) (wd19 hw) (wd20 hw) (wd22 hw) (wd21 hw) (wd2 hw) (wd23 hw) (by decide) X57_b51 (c_cnt l Z a0 hw [] b51 1 h57 n0 (Nat.le_trans Z0 P57.1) F57_total_b51) (lenOf pd8 rfl) at_147 rfl (Nat.le_of_ble_eq_true rfl) (Nat.le_of_ble_eq_true rfl) (Nat.le_of_ble_eq_true rfl) (Nat.le_of_ble_eq_true rfl) rfl (pc' := 150) rfl ?_
      rintro v59 h59 ⟨rfl, rfl⟩
      show Go _ _ _ _ _ _ _ _ _ _ _ h57 4 14596 (mkF m 150 #[.val (.long pa), .second, .val (.long pb), .second, .val (.int fl), .val (.int (1 : Int32)), .val (.int (1 : Int32)), .val (.ref b49), .val (.ref b51), .val (.long r54), .second, .val (.long r56), .second, .val (.long (((0 : Int64) + (1 : Int64)) + (1 : Int64))), .second, .val (.int (1 : Int32)), .unset, .unset, .unset, .unset] [(.long (1 : Int64))]) _
      refine Jvm.OwnWp.iload K at_150 rfl (pc' := 152) rfl ?_
      refine ifN K at_152 (by decide) (pc' := 155) rfl ?_
      refine Jvm.OwnWp.lconst K (1 : Int64) at_155 (by decide) (pc' := 156) rfl ?_
      refine goto' K at_156 (pc' := 160) (by decide) (by decide) ?_
      refine Jvm.OwnWp.lcmp K at_160 (pc' := 161) rfl ?_
      refine ifN K at_161 (by decide) (pc' := 164) rfl ?_
      refine Jvm.OwnWp.iconst K (1 : Int32) at_164 (by decide) (pc' := 165) rfl ?_
      refine goto' K at_165 (pc' := 169) (by decide) (by decide) ?_
      refine Jvm.OwnWp.istore K at_169 (Ls' := #[.val (.long pa), .second, .val (.long pb), .second, .val (.int fl), .val (.int (1 : Int32)), .val (.int (1 : Int32)), .val (.ref b49), .val (.ref b51), .val (.long r54), .second, .val (.long r56), .second, .val (.long (((0 : Int64) + (1 : Int64)) + (1 : Int64))), .second, .val (.int (1 : Int32)), .unset, .unset, .unset, .unset]) rfl (pc' := 171) rfl ?_
      refine Jvm.OwnWp.iload K at_171 rfl (pc' := 173) rfl ?_
      refine ifY K at_173 (by decide) (pc' := 184) (by decide) (by decide) ?_
      refine Jvm.OwnWp.iload K at_184 rfl (pc' := 186) rfl ?_
      refine ifN K at_186 (by decide) (pc' := 189) rfl ?_
      refine Jvm.OwnWp.iload K at_189 rfl (pc' := 191) rfl ?_
      refine ifN K at_191 (by decide) (pc' := 194) rfl ?_
      refine Jvm.OwnWp.lload K at_194 rfl (pc' := 196) rfl ?_
      refine Jvm.OwnWp.lload K at_196 rfl (pc' := 198) rfl ?_
      refine callStatic K (y := (⟨"java/lang/Math", "min", "(JJ)J"⟩ : MethodName)) (argsL := [(.long r54), (.long r56)]) (S := []) (wd68 hw) (wd69 hw) (wd31 hw) (wd70 hw) (by decide) (c_min l Z a0 hw [] r54 r56 h57 n0 (Nat.le_trans Z0 P57.1)) (lenOf pd4 rfl) at_198 rfl (Nat.le_of_ble_eq_true rfl) (Nat.le_of_ble_eq_true rfl) (Nat.le_of_ble_eq_true rfl) (Nat.le_of_ble_eq_true rfl) rfl (pc' := 201) rfl ?_
      rintro v60 h60 ⟨r60, rfl, rfl, e60⟩
      show Go _ _ _ _ _ _ _ _ _ _ _ h57 4 14596 (mkF m 201 #[.val (.long pa), .second, .val (.long pb), .second, .val (.int fl), .val (.int (1 : Int32)), .val (.int (1 : Int32)), .val (.ref b49), .val (.ref b51), .val (.long r54), .second, .val (.long r56), .second, .val (.long (((0 : Int64) + (1 : Int64)) + (1 : Int64))), .second, .val (.int (1 : Int32)), .unset, .unset, .unset, .unset] [(.long r60)]) _
      refine Jvm.OwnWp.lstore K at_201 (Ls' := #[.val (.long pa), .second, .val (.long pb), .second, .val (.int fl), .val (.int (1 : Int32)), .val (.int (1 : Int32)), .val (.ref b49), .val (.ref b51), .val (.long r54), .second, .val (.long r56), .second, .val (.long (((0 : Int64) + (1 : Int64)) + (1 : Int64))), .second, .val (.int (1 : Int32)), .val (.long r60), .second, .unset, .unset]) rfl (pc' := 203) rfl ?_
      refine Jvm.OwnWp.lload K at_203 rfl (pc' := 205) rfl ?_
      refine Jvm.OwnWp.lload K at_205 rfl (pc' := 207) rfl ?_
      refine callStatic K (y := (⟨"java/lang/Math", "max", "(JJ)J"⟩ : MethodName)) (argsL := [(.long r54), (.long r56)]) (S := []) (wd71 hw) (wd30 hw) (wd31 hw) (wd32 hw) (by decide) (c_max l Z a0 hw [] r54 r56 h57 n0 (Nat.le_trans Z0 P57.1)) (lenOf pd4 rfl) at_207 rfl (Nat.le_of_ble_eq_true rfl) (Nat.le_of_ble_eq_true rfl) (Nat.le_of_ble_eq_true rfl) (Nat.le_of_ble_eq_true rfl) rfl (pc' := 210) rfl ?_
      rintro v61 h61 ⟨r61, rfl, rfl, e61⟩
      show Go _ _ _ _ _ _ _ _ _ _ _ h57 4 14596 (mkF m 210 #[.val (.long pa), .second, .val (.long pb), .second, .val (.int fl), .val (.int (1 : Int32)), .val (.int (1 : Int32)), .val (.ref b49), .val (.ref b51), .val (.long r54), .second, .val (.long r56), .second, .val (.long (((0 : Int64) + (1 : Int64)) + (1 : Int64))), .second, .val (.int (1 : Int32)), .val (.long r60), .second, .unset, .unset] [(.long r61)]) _
      refine Jvm.OwnWp.lstore K at_210 (Ls' := #[.val (.long pa), .second, .val (.long pb), .second, .val (.int fl), .val (.int (1 : Int32)), .val (.int (1 : Int32)), .val (.ref b49), .val (.ref b51), .val (.long r54), .second, .val (.long r56), .second, .val (.long (((0 : Int64) + (1 : Int64)) + (1 : Int64))), .second, .val (.int (1 : Int32)), .val (.long r60), .second, .val (.long r61), .second]) rfl (pc' := 212) rfl ?_
      refine goto' K at_212 (pc' := 239) (by decide) (by decide) ?_
      refine Jvm.OwnWp.iload K at_239 rfl (pc' := 241) rfl ?_
      refine ifN K at_241 (by decide) (pc' := 244) rfl ?_
      refine Jvm.OwnWp.aload K at_244 rfl rfl (pc' := 246) rfl ?_
      refine Jvm.OwnWp.ldc2D K (wd72 hw) at_246 (pc' := 249) rfl ?_
      show Go _ _ _ _ _ _ _ _ _ _ _ h57 4 14596 (mkF m 249 #[.val (.long pa), .second, .val (.long pb), .second, .val (.int fl), .val (.int (1 : Int32)), .val (.int (1 : Int32)), .val (.ref b49), .val (.ref b51), .val (.long r54), .second, .val (.long r56), .second, .val (.long (((0 : Int64) + (1 : Int64)) + (1 : Int64))), .second, .val (.int (1 : Int32)), .val (.long r60), .second, .val (.long r61), .second] [(.double (4602678819172646912 : UInt64)), (.ref b49)]) _
      refine callVirt K (y := (⟨"com/example/spokewire/spokewire/cli/LatencyHistogram", "percentile", "(D)J"⟩ : MethodName)) (b := b49) (argsL := [(.double (4602678819172646912 : UInt64))]) (S := []) (wd37 hw) (wd38 hw) (wd40 hw) (wd39 hw) (wd2 hw) (wd41 hw) (by decide) X57_b49 (c_perh_2 l Z a0 hw [] b49 ca (add2 (bump nil0 (bkt (nv pa))) (bump nil0 (bkt (nv pb)))) (min (bkt (nv pa)) (bkt (nv pb))) h57 n0 (Nat.le_trans Z0 P57.1) O57 S_ad Q57_c Q57_t Q57_h (by omega) (stopM _ _).1 (stopM _ _).2 (smallM _ _)) (lenOf pd10 rfl) at_249 rfl (Nat.le_of_ble_eq_true rfl) (Nat.le_of_ble_eq_true rfl) (Nat.le_of_ble_eq_true rfl) (Nat.le_of_ble_eq_true rfl) rfl (pc' := 252) rfl ?_
      rintro v62 h62 ⟨r62, rfl, rfl, e62⟩
      show Go _ _ _ _ _ _ _ _ _ _ _ h57 4 14596 (mkF m 252 #[.val (.long pa), .second, .val (.long pb), .second, .val (.int fl), .val (.int (1 : Int32)), .val (.int (1 : Int32)), .val (.ref b49), .val (.ref b51), .val (.long r54), .second, .val (.long r56), .second, .val (.long (((0 : Int64) + (1 : Int64)) + (1 : Int64))), .second, .val (.int (1 : Int32)), .val (.long r60), .second, .val (.long r61), .second] [(.long r62)]) _
      refine Jvm.OwnWp.lload K at_252 rfl (pc' := 254) rfl ?_
      refine Jvm.OwnWp.lcmp K at_254 (pc' := 255) rfl ?_
      refine ifN K at_255 (XT.ll_ne_f (own_lo2 e54 e56 e60 e62)) (pc' := 258) rfl ?_
      refine Jvm.OwnWp.aload K at_258 rfl rfl (pc' := 260) rfl ?_
      refine Jvm.OwnWp.dconst1 K at_260 (v := (4607182418800017408 : UInt64)) rfl (pc' := 261) rfl ?_
      show Go _ _ _ _ _ _ _ _ _ _ _ h57 4 14596 (mkF m 261 #[.val (.long pa), .second, .val (.long pb), .second, .val (.int fl), .val (.int (1 : Int32)), .val (.int (1 : Int32)), .val (.ref b49), .val (.ref b51), .val (.long r54), .second, .val (.long r56), .second, .val (.long (((0 : Int64) + (1 : Int64)) + (1 : Int64))), .second, .val (.int (1 : Int32)), .val (.long r60), .second, .val (.long r61), .second] [(.double (4607182418800017408 : UInt64)), (.ref b49)]) _
      refine callVirt K (y := (⟨"com/example/spokewire/spokewire/cli/LatencyHistogram", "percentile", "(D)J"⟩ : MethodName)) (b := b49) (argsL := [(.double (4607182418800017408 : UInt64))]) (S := []) (wd37 hw) (wd38 hw) (wd40 hw) (wd39 hw) (wd2 hw) (wd41 hw) (by decide) X57_b49 (c_per1_2 l Z a0 hw [] b49 ca (add2 (bump nil0 (bkt (nv pa))) (bump nil0 (bkt (nv pb)))) (max (bkt (nv pa)) (bkt (nv pb))) h57 n0 (Nat.le_trans Z0 P57.1) O57 S_ad Q57_c Q57_t Q57_h (by omega) (stopN _ _).1 (stopN _ _).2 (smallM _ _)) (lenOf pd10 rfl) at_261 rfl (Nat.le_of_ble_eq_true rfl) (Nat.le_of_ble_eq_true rfl) (Nat.le_of_ble_eq_true rfl) (Nat.le_of_ble_eq_true rfl) rfl (pc' := 264) rfl ?_
      rintro v63 h63 ⟨r63, rfl, rfl, e63⟩
      show Go _ _ _ _ _ _ _ _ _ _ _ h57 4 14596 (mkF m 264 #[.val (.long pa), .second, .val (.long pb), .second, .val (.int fl), .val (.int (1 : Int32)), .val (.int (1 : Int32)), .val (.ref b49), .val (.ref b51), .val (.long r54), .second, .val (.long r56), .second, .val (.long (((0 : Int64) + (1 : Int64)) + (1 : Int64))), .second, .val (.int (1 : Int32)), .val (.long r60), .second, .val (.long r61), .second] [(.long r63)]) _
      refine Jvm.OwnWp.lload K at_264 rfl (pc' := 266) rfl ?_
      refine Jvm.OwnWp.lcmp K at_266 (pc' := 267) rfl ?_
      refine ifN K at_267 (XT.ll_ne_f (own_hi2 e54 e56 e61 e63)) (pc' := 270) rfl ?_
      refine Jvm.OwnWp.iconst K (1 : Int32) at_270 (by decide) (pc' := 271) rfl ?_
      refine goto' K at_271 (pc' := 275) (by decide) (by decide) ?_
      refine retB K (t := .boolean) rfl (by simp) at_275 (Nat.le_of_ble_eq_true rfl) (Nat.le_of_ble_eq_true rfl) ?_
      rfl
set_option maxRecDepth 65536 in
set_option maxHeartbeats 40000000 in
theorem comes_1 {Post : Tables → Env → Array Value → State → Outcome → State → Prop} (hpost : ∀ tb e args s v u, (limb_1_1.after args s (.returned v) u = true ∧ limb_1_2.after args s (.returned v) u = true ∧ True) → FrameEnd s (.returned v) u (Jvm.fieldLocs frame_1_writes args s ++ Jvm.arrayLocs frame_1_arrays args s ++ Jvm.staticLocs frame_1_statics s) 16 29312 → Post tb e args s (.returned v) u) :
    ArmFor flags0 classFile x code maxLocals ret World_1 tables_1 room_1 Calls_1 rest_1 Pre_1 Post := by
  intro l hfl _ _ p e ha hc hk s m args below hf hA hF happ hP
  obtain ⟨hcalls, hrest, hpre⟩ := hP
  obtain ⟨-, -, -, hnamed, -, -, -, hat⟩ := (Spec.applies_iff hf).mp happ
  obtain ⟨hg, hn⟩ := and_e (Cond.before_iff.mp (show (Jvm.Cond.and given_1 narrow_1).before args s = true from hpre))
  obtain ⟨q0, r0⟩ := and_e hg
  obtain ⟨q1, r1⟩ := and_e r0
  obtain ⟨q2, r2⟩ := and_e r1
  have q3 := r2
  obtain ⟨w0, w1, w2, rfl⟩ : ∃ w0 w1 w2 : Value, args = #[w0, w1, w2] := by
    have hs : args.size = 3 := by simpa [Cond.value, given_1] using q0
    obtain ⟨L⟩ := args
    match L, hs with
    | [w0, w1, w2], _ => exact ⟨w0, w1, w2, rfl⟩
  have hw := fun d (hd : d ∈ tables_1) => atoms_spec (ws := Jvm.Cond.code x code maxLocals ret :: tables_1) hat d (List.mem_cons_of_mem _ hd)
  have hfit : Fit s := fun {y c} hc i hi => by
    obtain ⟨ha, rfl⟩ := Array.getElem?_eq_some_iff.mp hc
    have q := List.all_eq_true.mp ((Array.all_eq_true_iff_forall_mem.mp hF) _ (Array.getElem_mem ha)) i (List.mem_range.mpr hi)
    simpa [Array.getElem?_eq_getElem hi] using q
  obtain ⟨i0, e0⟩ := isL_v q1
  obtain rfl : w0 = (.long i0) := Option.some.inj e0
  obtain ⟨i1, e1⟩ := isL_v q2
  obtain rfl : w1 = (.long i1) := Option.some.inj e1
  obtain ⟨i2, e2⟩ := is_v q3
  obtain rfl : w2 = (.int i2) := Option.some.inj e2
  have hsets := (atoms_of (own := restOwn_1) jdkStatics_1 (by rw [← rest_1_c_eq]; exact hrest)).1
  have S_ad := Sta.start (eqI (Cond.before_iff.mp (hsets _ (List.mem_of_getElem? (i := 2) rfl))) rfl) (Or.inl (hsets _ (List.mem_of_getElem? (i := 1) rfl)))
  obtain ⟨n, o, h1, h2, h3, _, L, rfl, ⟨rfl, N⟩, hq⟩ := c_law l s _ hw tables_1 i0 i1 i2 s.heap s.heap.size (Nat.le_refl _) (Old.start s) S_ad p e ha hc hk s m _ below hf ((Spec.applies_iff_loose hf).mp happ).1 ⟨rfl, State.Warmed39.refl s, rfl⟩ trivial
  refine ⟨n, _, h1, h2, h3, hpost _ _ _ _ _ _ ⟨Cond.after_iff.mpr rfl, Cond.after_iff.mpr (eq_i res_at (Term.int_eval (1)) rfl), trivial⟩ ⟨hq.1, hq.2.1, (hq.2.2.sift fun y hy => Or.inr (N y hy)).mono (by decide) (by decide)⟩⟩
theorem main_1_1 : Claimed_1_1 := comes_1 fun _ _ _ _ _ _ h hF => ⟨h.1, hF⟩
theorem main_1_2 : Claimed_1_2 := comes_1 fun _ _ _ _ _ _ h hF => ⟨h.2.1, hF⟩
end Jvm.Pilot.@@N@@
namespace Jvm.Pilot.@@N@@
open Jvm Jvm.ClassFile Sem Op Lib Jvm.Free Jvm.Stand Jvm.Pilot.@@N@@.Jvm.D
/-! MADE BY PROGRAM (witnessworld.py) out of the Statement's table words and the real class files: 18 classes; the members and pool entries that the words name. The judged class is class 1, her method 1. -/
namespace start1
open Jvm.ClassFile
def u (s : String) : CpInfo := .utf8 (stringToUtf16 s)
/-- a pool by its gaps: so many unusable entries, then the entry; so many at the end -/
def gap : Nat → List CpInfo → List CpInfo
  | 0, r => r
  | n + 1, r => .unusable :: gap n r
def poolList (es : List (Nat × CpInfo)) (last : Nat) : List CpInfo := es.foldr (fun e r => gap e.1 (e.2 :: r)) (gap last [])
def pool (es : List (Nat × CpInfo)) (last : Nat) : Array CpInfo := ⟨poolList es last⟩
def fileOf (pool : Array CpInfo) (this : Nat) (attrs : Array Attribute := #[]) (ms : Array MethodInfo := #[]) (fl : Nat := 33) (sup : Nat := 0) (ifs : Array Nat := #[]) (fds : Array FieldInfo := #[]) : ClassFile where
  minorVersion := 0
  majorVersion := 65
  constantPool := pool
  accessFlags := fl
  thisClass := this
  superClass := sup
  interfaces := ifs
  fields := fds
  methods := ms
  attributes := attrs
def plain (name : String) (sup : Option ClassId) : Class where
  name := name
  kind := .ordinary
  loader := none
  accessFlags := 33
  super := sup
  interfaces := #[]
  cf := none
  fields := #[]
  methods := #[]
  instanceTypes := #[]
  staticTypes := #[]
  resolved := #[]
  callSites := []
  init := .initialized
  statics := none
  mirror := none

def pool0 : Array CpInfo := pool [(5, u "<init>"), (0, u "()V"), (1, .class_ 10), (1, u "java/lang/Object")] 113

def k0c0 : Code := { maxStack := 0, maxLocals := 1, code := object_method_1_code, exceptionTable := #[], attributes := #[] }
def k0m0 : Method := { name := "<init>", desc := "()V", sig := { parameters := [], returnType := none }, accessFlags := 1, code := some k0c0 }
/-- java/lang/Object -/
def k0 : Class := { plain "java/lang/Object" none with
  accessFlags := 33
  interfaces := #[]
  cf := some (fileOf pool0 8 #[] #[{ accessFlags := 1, nameIndex := 5, descriptorIndex := 6, attributes := #[] }] 33 0 #[] #[])
  fields := #[]
  methods := #[k0m0]
  instanceTypes := #[]
  staticTypes := #[]
  resolved := Array.replicate 124 none
  statics := none }

def pool1 : Array CpInfo := pool [(2, .class_ 4), (0, .nameAndType 5 6), (0, u "java/lang/Object"), (0, u "<init>"), (0, u "()V"), (0, .class_ 8), (0, u "com/example/spokewire/spokewire/cli/LatencyHistogram"), (0, .methodref 7 3), (0, .methodref 7 11), (0, .nameAndType 12 13), (0, u "record"), (0, u "(J)V"), (0, .methodref 7 15), (0, .nameAndType 16 17), (0, u "percentile"), (0, u "(D)J"), (0, .methodref 7 19), (0, .nameAndType 20 21), (0, u "add"), (0, u "(Lcom/example/spokewire/spokewire/cli/LatencyHistogram;)V"), (0, .methodref 7 23), (0, .nameAndType 24 25), (0, u "count"), (0, u "()J"), (0, .methodref 27 28), (0, .class_ 29), (0, .nameAndType 30 31), (0, u "java/lang/Math"), (0, u "min"), (0, u "(JJ)J"), (0, .methodref 27 33), (0, .nameAndType 34 31), (0, u "max"), (0, .double 4602678819172646912), (1, .class_ 38), (0, u "com/example/spokewire/spokewire/cli/LatencyHistogramAddPinLaw"), (2, u "law"), (0, u "(JJI)Z")] 3

def k1m0 : Method := { name := "<init>", desc := "()V", sig := { parameters := [], returnType := none }, accessFlags := 1, code := none }
def k1c1 : Code := { maxStack := 4, maxLocals := 20, code := code, exceptionTable := #[], attributes := #[] }
def k1m1 : Method := { name := "law", desc := "(JJI)Z", sig := { parameters := [.long, .long, .int], returnType := some .boolean }, accessFlags := 9, code := some k1c1 }
/-- com/example/spokewire/spokewire/cli/LatencyHistogramAddPinLaw -/
def k1 : Class := { plain "com/example/spokewire/spokewire/cli/LatencyHistogramAddPinLaw" (some 0) with
  accessFlags := 49
  interfaces := #[]
  cf := some (fileOf pool1 37 #[] #[{ accessFlags := 1, nameIndex := 5, descriptorIndex := 6, attributes := #[] }, { accessFlags := 9, nameIndex := 41, descriptorIndex := 42, attributes := #[] }] 49 2 #[] #[])
  fields := #[]
  methods := #[k1m0, k1m1]
  instanceTypes := #[]
  staticTypes := #[]
  resolved := Array.replicate 46 none
  statics := none }

def pool2 : Array CpInfo := pool [(1, .class_ 2), (0, u "com/example/spokewire/spokewire/cli/LatencyHistogram"), (0, .class_ 4), (0, u "java/lang/Long"), (0, .methodref 6 7), (0, .class_ 8), (0, .nameAndType 9 10), (0, u "java/lang/Object"), (0, u "<init>"), (0, u "()V"), (0, .fieldref 1 12), (0, .nameAndType 13 14), (0, u "counts"), (0, u "[J"), (0, .methodref 16 17), (0, .class_ 18), (0, .nameAndType 19 20), (0, u "java/lang/Math"), (0, u "max"), (0, u "(JJ)J"), (0, .methodref 1 22), (0, .nameAndType 23 24), (0, u "bucketOf"), (0, u "(J)I"), (0, .fieldref 1 26), (0, .nameAndType 27 28), (0, u "total"), (0, u "J"), (7, .methodref 16 37), (0, .nameAndType 38 39), (0, u "ceil"), (0, u "(D)D"), (0, .methodref 1 41), (0, .nameAndType 42 43), (0, u "highestOf"), (0, u "(I)J"), (0, .long 256), (1, .methodref 3 47), (0, .nameAndType 48 24), (0, u "numberOfLeadingZeros"), (0, u "EXACT_BITS"), (0, u "I"), (2, u "EXACT"), (1, u "HALF"), (1, u "BUCKETS"), (3, u "record"), (0, u "(J)V"), (0, u "add"), (0, u "(Lcom/example/spokewire/spokewire/cli/LatencyHistogram;)V"), (1, u "count"), (0, u "()J"), (0, u "percentile"), (0, u "(D)J")] 2

def k2c0 : Code := { maxStack := 2, maxLocals := 1, code := prog_7_method_1_code, exceptionTable := #[], attributes := #[] }
def k2m0 : Method := { name := "<init>", desc := "()V", sig := { parameters := [], returnType := none }, accessFlags := 0, code := some k2c0 }
def k2c1 : Code := { maxStack := 6, maxLocals := 3, code := prog_7_method_2_code, exceptionTable := #[], attributes := #[] }
def k2m1 : Method := { name := "record", desc := "(J)V", sig := { parameters := [.long], returnType := none }, accessFlags := 0, code := some k2c1 }
def k2c2 : Code := { maxStack := 6, maxLocals := 3, code := prog_7_method_3_code, exceptionTable := #[], attributes := #[] }
def k2m2 : Method := { name := "add", desc := "(Lcom/example/spokewire/spokewire/cli/LatencyHistogram;)V", sig := { parameters := [(.object "com/example/spokewire/spokewire/cli/LatencyHistogram")], returnType := none }, accessFlags := 0, code := some k2c2 }
def k2c3 : Code := { maxStack := 2, maxLocals := 1, code := prog_7_method_4_code, exceptionTable := #[], attributes := #[] }
def k2m3 : Method := { name := "count", desc := "()J", sig := { parameters := [], returnType := some .long }, accessFlags := 0, code := some k2c3 }
def k2c4 : Code := { maxStack := 6, maxLocals := 8, code := prog_7_method_5_code, exceptionTable := #[], attributes := #[] }
def k2m4 : Method := { name := "percentile", desc := "(D)J", sig := { parameters := [.double], returnType := some .long }, accessFlags := 0, code := some k2c4 }
def k2c5 : Code := { maxStack := 4, maxLocals := 3, code := prog_7_method_6_code, exceptionTable := #[], attributes := #[] }
def k2m5 : Method := { name := "bucketOf", desc := "(J)I", sig := { parameters := [.long], returnType := some .int }, accessFlags := 10, code := some k2c5 }
def k2c6 : Code := { maxStack := 4, maxLocals := 4, code := prog_7_method_7_code, exceptionTable := #[], attributes := #[] }
def k2m6 : Method := { name := "highestOf", desc := "(I)J", sig := { parameters := [.int], returnType := some .long }, accessFlags := 10, code := some k2c6 }
/-- com/example/spokewire/spokewire/cli/LatencyHistogram -/
def k2 : Class := { plain "com/example/spokewire/spokewire/cli/LatencyHistogram" (some 0) with
  accessFlags := 48
  interfaces := #[]
  cf := some (fileOf pool2 1 #[] #[{ accessFlags := 0, nameIndex := 9, descriptorIndex := 10, attributes := #[] }, { accessFlags := 0, nameIndex := 61, descriptorIndex := 62, attributes := #[] }, { accessFlags := 0, nameIndex := 63, descriptorIndex := 64, attributes := #[] }, { accessFlags := 0, nameIndex := 66, descriptorIndex := 67, attributes := #[] }, { accessFlags := 0, nameIndex := 68, descriptorIndex := 69, attributes := #[] }, { accessFlags := 10, nameIndex := 23, descriptorIndex := 24, attributes := #[] }, { accessFlags := 10, nameIndex := 42, descriptorIndex := 43, attributes := #[] }] 48 6 #[] #[{ accessFlags := 26, nameIndex := 49, descriptorIndex := 50, attributes := #[] }, { accessFlags := 26, nameIndex := 53, descriptorIndex := 50, attributes := #[] }, { accessFlags := 26, nameIndex := 55, descriptorIndex := 50, attributes := #[] }, { accessFlags := 26, nameIndex := 57, descriptorIndex := 50, attributes := #[] }, { accessFlags := 18, nameIndex := 13, descriptorIndex := 14, attributes := #[] }, { accessFlags := 2, nameIndex := 27, descriptorIndex := 28, attributes := #[] }])
  fields := #[{ name := "EXACT_BITS", type := .int, accessFlags := 26, slot := 0, constantValue := 0 }, { name := "EXACT", type := .int, accessFlags := 26, slot := 1, constantValue := 0 }, { name := "HALF", type := .int, accessFlags := 26, slot := 2, constantValue := 0 }, { name := "BUCKETS", type := .int, accessFlags := 26, slot := 3, constantValue := 0 }, { name := "counts", type := (.array .long), accessFlags := 18, slot := 0, constantValue := 0 }, { name := "total", type := .long, accessFlags := 2, slot := 1, constantValue := 0 }]
  methods := #[k2m0, k2m1, k2m2, k2m3, k2m4, k2m5, k2m6]
  instanceTypes := #[(.array .long), .long]
  staticTypes := #[.int, .int, .int, .int]
  resolved := Array.replicate 72 none
  statics := none }

def pool3 : Array CpInfo := pool [(1, .class_ 2), (0, u "java/lang/Math"), (1, .class_ 6), (1, u "java/lang/Object"), (0, u "<init>"), (0, u "()V"), (1, .class_ 12), (1, u "java/lang/StrictMath"), (1, u "(D)D"), (38, .methodref 10 54), (0, .nameAndType 55 14), (0, u "ceil"), (23, .methodref 80 81), (0, .class_ 82), (0, .nameAndType 83 84), (0, u "java/lang/Double"), (0, u "doubleToRawLongBits"), (0, u "(D)J"), (2, .long 9218868437227405312), (10, .class_ 100), (1, u "java/lang/Math$RandomNumberGeneratorHolder"), (20, u "(JJ)J"), (50, u "negativeZeroFloatBits"), (0, u "J"), (2, u "negativeZeroDoubleBits"), (21, u "max"), (2, u "min"), (43, u "$assertionsDisabled"), (0, u "Z"), (33, u "getExponent"), (0, u "(D)I"), (40, .long 1023), (15, u "twoToTheDoubleScaleDown"), (0, u "D"), (4, u "twoToTheDoubleScaleUp"), (9, u "E"), (3, u "PI"), (2, u "TAU"), (2, u "DEGREES_TO_RADIANS"), (0, u "RADIANS_TO_DEGREES")] 94

def k3m0 : Method := { name := "<init>", desc := "()V", sig := { parameters := [], returnType := none }, accessFlags := 2, code := none }
def k3c1 : Code := { maxStack := 2, maxLocals := 2, code := jdk_29_method_16_code, exceptionTable := #[], attributes := #[] }
def k3m1 : Method := { name := "ceil", desc := "(D)D", sig := { parameters := [.double], returnType := some .double }, accessFlags := 9, code := some k3c1 }
def k3c2 : Code := { maxStack := 4, maxLocals := 4, code := jdk_29_method_66_code, exceptionTable := #[], attributes := #[] }
def k3m2 : Method := { name := "max", desc := "(JJ)J", sig := { parameters := [.long, .long], returnType := some .long }, accessFlags := 9, code := some k3c2 }
def k3c3 : Code := { maxStack := 4, maxLocals := 4, code := jdk_29_method_70_code, exceptionTable := #[], attributes := #[] }
def k3m3 : Method := { name := "min", desc := "(JJ)J", sig := { parameters := [.long, .long], returnType := some .long }, accessFlags := 9, code := some k3c3 }
def k3c4 : Code := { maxStack := 4, maxLocals := 2, code := jdk_29_method_92_code, exceptionTable := #[], attributes := #[] }
def k3m4 : Method := { name := "getExponent", desc := "(D)I", sig := { parameters := [.double], returnType := some .int }, accessFlags := 9, code := some k3c4 }
/-- java/lang/Math -/
def k3 : Class := { plain "java/lang/Math" (some 0) with
  accessFlags := 49
  interfaces := #[]
  cf := some (fileOf pool3 1 #[.nestMembers #[98]] #[{ accessFlags := 2, nameIndex := 7, descriptorIndex := 8, attributes := #[] }, { accessFlags := 9, nameIndex := 55, descriptorIndex := 14, attributes := #[] }, { accessFlags := 9, nameIndex := 198, descriptorIndex := 121, attributes := #[] }, { accessFlags := 9, nameIndex := 201, descriptorIndex := 121, attributes := #[] }, { accessFlags := 9, nameIndex := 280, descriptorIndex := 281, attributes := #[] }] 49 4 #[] #[{ accessFlags := 25, nameIndex := 354, descriptorIndex := 339, attributes := #[] }, { accessFlags := 25, nameIndex := 358, descriptorIndex := 339, attributes := #[] }, { accessFlags := 25, nameIndex := 361, descriptorIndex := 339, attributes := #[] }, { accessFlags := 26, nameIndex := 364, descriptorIndex := 339, attributes := #[] }, { accessFlags := 26, nameIndex := 365, descriptorIndex := 339, attributes := #[] }, { accessFlags := 26, nameIndex := 172, descriptorIndex := 173, attributes := #[] }, { accessFlags := 26, nameIndex := 176, descriptorIndex := 173, attributes := #[] }, { accessFlags := 8, nameIndex := 344, descriptorIndex := 339, attributes := #[] }, { accessFlags := 8, nameIndex := 338, descriptorIndex := 339, attributes := #[] }, { accessFlags := 4120, nameIndex := 245, descriptorIndex := 246, attributes := #[] }])
  fields := #[{ name := "E", type := .double, accessFlags := 25, slot := 0, constantValue := 0 }, { name := "PI", type := .double, accessFlags := 25, slot := 1, constantValue := 0 }, { name := "TAU", type := .double, accessFlags := 25, slot := 2, constantValue := 0 }, { name := "DEGREES_TO_RADIANS", type := .double, accessFlags := 26, slot := 3, constantValue := 0 }, { name := "RADIANS_TO_DEGREES", type := .double, accessFlags := 26, slot := 4, constantValue := 0 }, { name := "negativeZeroFloatBits", type := .long, accessFlags := 26, slot := 5, constantValue := 0 }, { name := "negativeZeroDoubleBits", type := .long, accessFlags := 26, slot := 6, constantValue := 0 }, { name := "twoToTheDoubleScaleUp", type := .double, accessFlags := 8, slot := 7, constantValue := 0 }, { name := "twoToTheDoubleScaleDown", type := .double, accessFlags := 8, slot := 8, constantValue := 0 }, { name := "$assertionsDisabled", type := .boolean, accessFlags := 4120, slot := 9, constantValue := 0 }]
  methods := #[k3m0, k3m1, k3m2, k3m3, k3m4]
  instanceTypes := #[]
  staticTypes := #[.double, .double, .double, .double, .double, .long, .long, .double, .double, .boolean]
  resolved := Array.replicate 460 none
  statics := none }

def pool4 : Array CpInfo := pool [(1, .class_ 2), (0, u "java/lang/StrictMath"), (1, .class_ 6), (1, u "java/lang/Object"), (0, u "<init>"), (0, u "()V"), (5, u "(D)D"), (16, .class_ 33), (1, u "java/lang/Math"), (24, .double 9223372036854775808), (1, .methodref 1 61), (0, .nameAndType 62 63), (0, u "floorOrCeil"), (0, u "(DDDD)D"), (2, .methodref 31 67), (0, .nameAndType 68 69), (0, u "getExponent"), (0, u "(D)I"), (0, .fieldref 1 71), (0, .nameAndType 72 73), (0, u "$assertionsDisabled"), (0, u "Z"), (3, .methodref 78 79), (0, .class_ 80), (0, .nameAndType 81 82), (0, u "java/lang/Double"), (0, u "doubleToRawLongBits"), (0, u "(D)J"), (2, .long 4503599627370495), (28, .class_ 116), (1, u "java/lang/StrictMath$RandomNumberGeneratorHolder"), (222, u "E"), (0, u "D"), (3, u "PI"), (2, u "TAU"), (26, u "ceil")] 61

def k4m0 : Method := { name := "<init>", desc := "()V", sig := { parameters := [], returnType := none }, accessFlags := 2, code := none }
def k4c1 : Code := { maxStack := 8, maxLocals := 2, code := jdk_128_method_16_code, exceptionTable := #[], attributes := #[] }
def k4m1 : Method := { name := "ceil", desc := "(D)D", sig := { parameters := [.double], returnType := some .double }, accessFlags := 9, code := some k4c1 }
def k4c2 : Code := { maxStack := 6, maxLocals := 15, code := jdk_128_method_18_code, exceptionTable := #[], attributes := #[] }
def k4m2 : Method := { name := "floorOrCeil", desc := "(DDDD)D", sig := { parameters := [.double, .double, .double, .double], returnType := some .double }, accessFlags := 10, code := some k4c2 }
/-- java/lang/StrictMath -/
def k4 : Class := { plain "java/lang/StrictMath" (some 0) with
  accessFlags := 49
  interfaces := #[]
  cf := some (fileOf pool4 1 #[.nestMembers #[114]] #[{ accessFlags := 2, nameIndex := 7, descriptorIndex := 8, attributes := #[] }, { accessFlags := 9, nameIndex := 374, descriptorIndex := 14, attributes := #[] }, { accessFlags := 10, nameIndex := 62, descriptorIndex := 63, attributes := #[] }] 49 4 #[] #[{ accessFlags := 25, nameIndex := 339, descriptorIndex := 340, attributes := #[] }, { accessFlags := 25, nameIndex := 344, descriptorIndex := 340, attributes := #[] }, { accessFlags := 25, nameIndex := 347, descriptorIndex := 340, attributes := #[] }, { accessFlags := 4120, nameIndex := 72, descriptorIndex := 73, attributes := #[] }])
  fields := #[{ name := "E", type := .double, accessFlags := 25, slot := 0, constantValue := 0 }, { name := "PI", type := .double, accessFlags := 25, slot := 1, constantValue := 0 }, { name := "TAU", type := .double, accessFlags := 25, slot := 2, constantValue := 0 }, { name := "$assertionsDisabled", type := .boolean, accessFlags := 4120, slot := 3, constantValue := 0 }]
  methods := #[k4m0, k4m1, k4m2]
  instanceTypes := #[]
  staticTypes := #[.double, .double, .double, .boolean]
  resolved := Array.replicate 436 none
  statics := some 0 }

def pool5 : Array CpInfo := pool [(1, .class_ 2), (0, u "java/io/Serializable"), (0, .class_ 4), (0, u "java/lang/Object")] 2

/-- java/io/Serializable -/
def k5 : Class := { plain "java/io/Serializable" (some 0) with
  accessFlags := 1537
  interfaces := #[]
  cf := some (fileOf pool5 1 #[] #[] 1537 3 #[] #[])
  fields := #[]
  methods := #[]
  instanceTypes := #[]
  staticTypes := #[]
  resolved := Array.replicate 7 none
  statics := none }

def pool6 : Array CpInfo := pool [(2, .class_ 4), (1, u "java/lang/Object"), (0, u "<init>"), (0, u "()V"), (1, .class_ 10), (1, u "java/lang/Number"), (2, .class_ 14), (0, u "java/io/Serializable"), (0, u "serialVersionUID"), (0, u "J")] 20

def k6m0 : Method := { name := "<init>", desc := "()V", sig := { parameters := [], returnType := none }, accessFlags := 1, code := none }
/-- java/lang/Number -/
def k6 : Class := { plain "java/lang/Number" (some 0) with
  accessFlags := 1057
  interfaces := #[5]
  cf := some (fileOf pool6 8 #[] #[{ accessFlags := 1, nameIndex := 5, descriptorIndex := 6, attributes := #[] }] 1057 2 #[13] #[{ accessFlags := 26, nameIndex := 15, descriptorIndex := 16, attributes := #[] }])
  fields := #[{ name := "serialVersionUID", type := .long, accessFlags := 26, slot := 0, constantValue := 0 }]
  methods := #[k6m0]
  instanceTypes := #[]
  staticTypes := #[.long]
  resolved := Array.replicate 37 none
  statics := none }

def pool7 : Array CpInfo := pool [(1, .class_ 2), (0, u "java/lang/Comparable"), (0, .class_ 4), (0, u "java/lang/Object")] 7

/-- java/lang/Comparable -/
def k7 : Class := { plain "java/lang/Comparable" (some 0) with
  accessFlags := 1537
  interfaces := #[]
  cf := some (fileOf pool7 1 #[] #[] 1537 3 #[] #[])
  fields := #[]
  methods := #[]
  instanceTypes := #[]
  staticTypes := #[]
  resolved := Array.replicate 12 none
  statics := none }

def pool8 : Array CpInfo := pool [(1, .class_ 2), (0, u "java/lang/constant/Constable"), (0, .class_ 4), (0, u "java/lang/Object")] 6

/-- java/lang/constant/Constable -/
def k8 : Class := { plain "java/lang/constant/Constable" (some 0) with
  accessFlags := 1537
  interfaces := #[]
  cf := some (fileOf pool8 1 #[] #[] 1537 3 #[] #[])
  fields := #[]
  methods := #[]
  instanceTypes := #[]
  staticTypes := #[]
  resolved := Array.replicate 11 none
  statics := none }

def pool9 : Array CpInfo := pool [(1, .class_ 2), (0, u "java/lang/constant/ConstantDesc"), (0, .class_ 4), (0, u "java/lang/Object")] 32

/-- java/lang/constant/ConstantDesc -/
def k9 : Class := { plain "java/lang/constant/ConstantDesc" (some 0) with
  accessFlags := 1537
  interfaces := #[]
  cf := some (fileOf pool9 1 #[] #[] 1537 3 #[] #[])
  fields := #[]
  methods := #[]
  instanceTypes := #[]
  staticTypes := #[]
  resolved := Array.replicate 37 none
  statics := none }

def pool10 : Array CpInfo := pool [(1, .class_ 2), (0, u "java/lang/Double"), (46, u "(D)J"), (64, .class_ 116), (1, u "java/lang/Number"), (3, u "value"), (0, u "D"), (14, u "doubleToRawLongBits"), (36, u "TYPE"), (0, u "Ljava/lang/Class;"), (0, .class_ 176), (0, u "java/lang/Comparable"), (0, .class_ 178), (0, u "java/lang/constant/Constable"), (0, .class_ 180), (0, u "java/lang/constant/ConstantDesc"), (0, u "POSITIVE_INFINITY"), (3, u "NEGATIVE_INFINITY"), (2, u "NaN"), (2, u "MAX_VALUE"), (0, u "MIN_NORMAL"), (0, u "MIN_VALUE"), (2, u "SIZE"), (0, u "I"), (1, u "PRECISION"), (1, u "MAX_EXPONENT"), (1, u "MIN_EXPONENT"), (1, u "BYTES"), (3, u "serialVersionUID"), (0, u "J")] 79

def k10m0 : Method := { name := "doubleToRawLongBits", desc := "(D)J", sig := { parameters := [.double], returnType := some .long }, accessFlags := 265, code := none }
/-- java/lang/Double -/
def k10 : Class := { plain "java/lang/Double" (some 6) with
  accessFlags := 49
  interfaces := #[7, 8, 9]
  cf := some (fileOf pool10 1 #[] #[{ accessFlags := 265, nameIndex := 136, descriptorIndex := 49, attributes := #[] }] 49 114 #[175, 177, 179] #[{ accessFlags := 25, nameIndex := 181, descriptorIndex := 121, attributes := #[] }, { accessFlags := 25, nameIndex := 185, descriptorIndex := 121, attributes := #[] }, { accessFlags := 25, nameIndex := 188, descriptorIndex := 121, attributes := #[] }, { accessFlags := 25, nameIndex := 191, descriptorIndex := 121, attributes := #[] }, { accessFlags := 25, nameIndex := 192, descriptorIndex := 121, attributes := #[] }, { accessFlags := 25, nameIndex := 193, descriptorIndex := 121, attributes := #[] }, { accessFlags := 25, nameIndex := 196, descriptorIndex := 197, attributes := #[] }, { accessFlags := 25, nameIndex := 199, descriptorIndex := 197, attributes := #[] }, { accessFlags := 25, nameIndex := 201, descriptorIndex := 197, attributes := #[] }, { accessFlags := 25, nameIndex := 203, descriptorIndex := 197, attributes := #[] }, { accessFlags := 25, nameIndex := 205, descriptorIndex := 197, attributes := #[] }, { accessFlags := 25, nameIndex := 173, descriptorIndex := 174, attributes := #[] }, { accessFlags := 18, nameIndex := 120, descriptorIndex := 121, attributes := #[] }, { accessFlags := 26, nameIndex := 209, descriptorIndex := 210, attributes := #[] }])
  fields := #[{ name := "POSITIVE_INFINITY", type := .double, accessFlags := 25, slot := 0, constantValue := 0 }, { name := "NEGATIVE_INFINITY", type := .double, accessFlags := 25, slot := 1, constantValue := 0 }, { name := "NaN", type := .double, accessFlags := 25, slot := 2, constantValue := 0 }, { name := "MAX_VALUE", type := .double, accessFlags := 25, slot := 3, constantValue := 0 }, { name := "MIN_NORMAL", type := .double, accessFlags := 25, slot := 4, constantValue := 0 }, { name := "MIN_VALUE", type := .double, accessFlags := 25, slot := 5, constantValue := 0 }, { name := "SIZE", type := .int, accessFlags := 25, slot := 6, constantValue := 0 }, { name := "PRECISION", type := .int, accessFlags := 25, slot := 7, constantValue := 0 }, { name := "MAX_EXPONENT", type := .int, accessFlags := 25, slot := 8, constantValue := 0 }, { name := "MIN_EXPONENT", type := .int, accessFlags := 25, slot := 9, constantValue := 0 }, { name := "BYTES", type := .int, accessFlags := 25, slot := 10, constantValue := 0 }, { name := "TYPE", type := (.object "java/lang/Class"), accessFlags := 25, slot := 11, constantValue := 0 }, { name := "value", type := .double, accessFlags := 18, slot := 0, constantValue := 0 }, { name := "serialVersionUID", type := .long, accessFlags := 26, slot := 12, constantValue := 0 }]
  methods := #[k10m0]
  instanceTypes := #[.double]
  staticTypes := #[.double, .double, .double, .double, .double, .double, .int, .int, .int, .int, .int, (.object "java/lang/Class"), .long]
  resolved := Array.replicate 290 none
  statics := none }

def pool11 : Array CpInfo := pool [(1, .class_ 2), (0, u "java/lang/Long"), (15, .class_ 20), (1, u "java/lang/Integer"), (79, u "numberOfLeadingZeros"), (0, u "(J)I"), (133, .class_ 237), (1, u "java/lang/Long$LongCache"), (33, .class_ 272), (0, u "java/lang/Number"), (2, u "value"), (0, u "J"), (31, .methodref 18 309), (0, .nameAndType 100 310), (0, u "(I)I"), (50, u "TYPE"), (0, u "Ljava/lang/Class;"), (0, .class_ 364), (0, u "java/lang/Comparable"), (0, .class_ 366), (0, u "java/lang/constant/Constable"), (0, .class_ 368), (0, u "java/lang/constant/ConstantDesc"), (0, u "MIN_VALUE"), (1, u "MAX_VALUE"), (4, u "SIZE"), (0, u "I"), (1, u "BYTES"), (1, u "serialVersionUID")] 142

def k11c0 : Code := { maxStack := 3, maxLocals := 3, code := jdk_35_method_48_code, exceptionTable := #[], attributes := #[] }
def k11m0 : Method := { name := "numberOfLeadingZeros", desc := "(J)I", sig := { parameters := [.long], returnType := some .int }, accessFlags := 9, code := some k11c0 }
/-- java/lang/Long -/
def k11 : Class := { plain "java/lang/Long" (some 6) with
  accessFlags := 49
  interfaces := #[7, 8, 9]
  cf := some (fileOf pool11 1 #[.nestMembers #[235]] #[{ accessFlags := 9, nameIndex := 100, descriptorIndex := 101, attributes := #[] }] 49 271 #[363, 365, 367] #[{ accessFlags := 25, nameIndex := 369, descriptorIndex := 276, attributes := #[] }, { accessFlags := 25, nameIndex := 371, descriptorIndex := 276, attributes := #[] }, { accessFlags := 25, nameIndex := 361, descriptorIndex := 362, attributes := #[] }, { accessFlags := 18, nameIndex := 275, descriptorIndex := 276, attributes := #[] }, { accessFlags := 25, nameIndex := 376, descriptorIndex := 377, attributes := #[] }, { accessFlags := 25, nameIndex := 379, descriptorIndex := 377, attributes := #[] }, { accessFlags := 26, nameIndex := 381, descriptorIndex := 276, attributes := #[] }])
  fields := #[{ name := "MIN_VALUE", type := .long, accessFlags := 25, slot := 0, constantValue := 0 }, { name := "MAX_VALUE", type := .long, accessFlags := 25, slot := 1, constantValue := 0 }, { name := "TYPE", type := (.object "java/lang/Class"), accessFlags := 25, slot := 2, constantValue := 0 }, { name := "value", type := .long, accessFlags := 18, slot := 0, constantValue := 0 }, { name := "SIZE", type := .int, accessFlags := 25, slot := 3, constantValue := 0 }, { name := "BYTES", type := .int, accessFlags := 25, slot := 4, constantValue := 0 }, { name := "serialVersionUID", type := .long, accessFlags := 26, slot := 5, constantValue := 0 }]
  methods := #[k11m0]
  instanceTypes := #[.long]
  staticTypes := #[.long, .long, (.object "java/lang/Class"), .int, .int, .long]
  resolved := Array.replicate 524 none
  statics := none }

def pool12 : Array CpInfo := pool [(1, .class_ 2), (0, u "java/lang/Integer"), (16, u "digits"), (0, u "[C"), (32, u "numberOfLeadingZeros"), (0, u "(I)I"), (30, u "DigitOnes"), (0, u "[B"), (2, u "DigitTens"), (99, .class_ 190), (0, u "java/lang/Integer$IntegerCache"), (3, u "I"), (8, .class_ 204), (0, u "java/lang/Number"), (2, u "value"), (56, .integer 65536), (37, u "TYPE"), (0, u "Ljava/lang/Class;"), (0, .class_ 305), (0, u "java/lang/Comparable"), (0, .class_ 307), (0, u "java/lang/constant/Constable"), (0, .class_ 309), (0, u "java/lang/constant/ConstantDesc"), (0, u "MIN_VALUE"), (1, u "MAX_VALUE"), (3, u "SIZE"), (1, u "BYTES"), (1, u "serialVersionUID"), (0, u "J")] 131

def k12c0 : Code := { maxStack := 3, maxLocals := 2, code := jdk_33_method_47_code, exceptionTable := #[], attributes := #[] }
def k12m0 : Method := { name := "numberOfLeadingZeros", desc := "(I)I", sig := { parameters := [.int], returnType := some .int }, accessFlags := 9, code := some k12c0 }
/-- java/lang/Integer -/
def k12 : Class := { plain "java/lang/Integer" (some 6) with
  accessFlags := 49
  interfaces := #[7, 8, 9]
  cf := some (fileOf pool12 1 #[.nestMembers #[189]] #[{ accessFlags := 9, nameIndex := 53, descriptorIndex := 54, attributes := #[] }] 49 203 #[304, 306, 308] #[{ accessFlags := 25, nameIndex := 310, descriptorIndex := 194, attributes := #[] }, { accessFlags := 25, nameIndex := 312, descriptorIndex := 194, attributes := #[] }, { accessFlags := 25, nameIndex := 302, descriptorIndex := 303, attributes := #[] }, { accessFlags := 24, nameIndex := 19, descriptorIndex := 20, attributes := #[] }, { accessFlags := 24, nameIndex := 89, descriptorIndex := 86, attributes := #[] }, { accessFlags := 24, nameIndex := 85, descriptorIndex := 86, attributes := #[] }, { accessFlags := 18, nameIndex := 207, descriptorIndex := 194, attributes := #[] }, { accessFlags := 25, nameIndex := 316, descriptorIndex := 194, attributes := #[] }, { accessFlags := 25, nameIndex := 318, descriptorIndex := 194, attributes := #[] }, { accessFlags := 26, nameIndex := 320, descriptorIndex := 321, attributes := #[] }])
  fields := #[{ name := "MIN_VALUE", type := .int, accessFlags := 25, slot := 0, constantValue := 0 }, { name := "MAX_VALUE", type := .int, accessFlags := 25, slot := 1, constantValue := 0 }, { name := "TYPE", type := (.object "java/lang/Class"), accessFlags := 25, slot := 2, constantValue := 0 }, { name := "digits", type := (.array .char), accessFlags := 24, slot := 3, constantValue := 0 }, { name := "DigitTens", type := (.array .byte), accessFlags := 24, slot := 4, constantValue := 0 }, { name := "DigitOnes", type := (.array .byte), accessFlags := 24, slot := 5, constantValue := 0 }, { name := "value", type := .int, accessFlags := 18, slot := 0, constantValue := 0 }, { name := "SIZE", type := .int, accessFlags := 25, slot := 6, constantValue := 0 }, { name := "BYTES", type := .int, accessFlags := 25, slot := 7, constantValue := 0 }, { name := "serialVersionUID", type := .long, accessFlags := 26, slot := 8, constantValue := 0 }]
  methods := #[k12m0]
  instanceTypes := #[.int]
  staticTypes := #[.int, .int, (.object "java/lang/Class"), (.array .char), (.array .byte), (.array .byte), .int, .int, .long]
  resolved := Array.replicate 453 none
  statics := none }

def pool13 : Array CpInfo := pool [(1, u "java/lang/Cloneable"), (0, .class_ 1), (0, u "java/lang/Object"), (0, .class_ 3)] 3

/-- java/lang/Cloneable -/
def k13 : Class := { plain "java/lang/Cloneable" (some 0) with
  accessFlags := 1537
  interfaces := #[]
  cf := some (fileOf pool13 2 #[] #[] 1537 4 #[] #[])
  fields := #[]
  methods := #[]
  instanceTypes := #[]
  staticTypes := #[]
  resolved := Array.replicate 8 none
  statics := none }

/-- the primitive byte -/
def k14 : Class := { plain "byte" none with kind := .primitive 'B', accessFlags := 0x411 }
/-- [B -/
def k15 : Class := { plain "[B" (some 0) with kind := .array 14 .byte, interfaces := #[13, 5], accessFlags := 1041 }

/-- the primitive long -/
def k16 : Class := { plain "long" none with kind := .primitive 'J', accessFlags := 0x411 }
/-- [J -/
def k17 : Class := { plain "[J" (some 0) with kind := .array 16 .long, interfaces := #[13, 5], accessFlags := 1041 }

def heap : Heap := #[{ cls := 4, slots := #[.double 0, .double 0, .double 0, .int 1], vm := .statics 4 }]
def classes : Array Class := #[k0, k1, k2, k3, k4, k5, k6, k7, k8, k9, k10, k11, k12, k13, k14, k15, k16, k17]
def interned : List (Array UInt16 × Addr) := []
def slotsUsed : Nat := 4
def theMethod : MethodId := ⟨1, 1⟩
def args0 : Array Value := #[.long 5, .long 5, .int 3]
def aboutOver (below : List Frame) : State where
  vm := { classes := classes, interned := interned.toArray }
  heap := heap
  slotsUsed := slotsUsed
  threads := #[{ frames := .invoking theMethod args0 :: below }]
def below0 : List Frame := [.native { method := ⟨0, 0⟩, args := #[] }]
def about1 : State := aboutOver below0
def p0 : Program := .bare "" "" ""
def e0 : Env := launch0.env 0 0 0
theorem w_frames : about1.frames = Frame.invoking theMethod args0 :: below0 := rfl
set_option maxRecDepth 65536 in
theorem w_args : argsFit about1.vm theMethod args0 = true := by decide +kernel
set_option maxRecDepth 65536 in
theorem w_heap : heapFits about1 = true := by decide +kernel
set_option maxRecDepth 65536 in
theorem w_runnable : about1.curStatus? = some .runnable := by decide +kernel
set_option maxRecDepth 65536 in
theorem w_alone : about1.alone = true := by decide +kernel
set_option maxRecDepth 65536 in
theorem w_named : about1.methodNamed? x = some theMethod := by decide +kernel
set_option maxRecDepth 65536 in
theorem w_hears : about1.hears theMethod below0 = true := by decide +kernel
set_option maxRecDepth 65536 in
theorem w_ripe : about1.ripe theMethod args0 below0 = true := by decide +kernel
theorem w_running : about1.status = .running := rfl
set_option maxRecDepth 65536 in
theorem w_room : about1.hasRoom e0.platform room_1 = true :=
  launch0.hasRoom_least _ room_1 (by decide +kernel) (by decide +kernel) (by decide +kernel) (by decide +kernel) (by decide +kernel) (by decide +kernel)
theorem allAtoms_all (ts : List Jvm.Cond) (a : Array Jvm.Value) (st : Jvm.State) : (allAtoms ts).before a st = ts.all (fun c => c.before a st) := by
  induction ts with
  | nil => rfl
  | cons c t ih =>
    show (Jvm.Cond.and c (allAtoms t)).before a st = _
    rw [Jvm.Cond.before_and, ih, List.all_cons]
def words1 : List Jvm.Cond := Jvm.Cond.code x code maxLocals ret :: tables_1
/-- a 'code' word, met by the world's own term for the bytes: nothing is compared byte by byte -/
theorem code_word {y : MethodName} {bytes : ByteArray} {mx : Nat} {rt : Option FieldType} {a : Array Value} {s : State} {m : MethodId} {meth : Method} {c : Code} (h1 : s.methodNamed? y = some m) (h2 : s.vm.method? m = some meth) (h3 : meth.code = some c) (h4 : c.code = bytes)
    (h5 : (c.maxLocals == mx && c.exceptionTable.isEmpty && decide (c.maxStack ≤ mostOperands) && decide (meth.sig.returnType = rt) && !meth.locks && decide (parseMethodDescriptor y.desc = some meth.sig)) = true) : (Jvm.Cond.code y bytes mx rt).before a s = true := by
  simp only [Bool.and_eq_true, beq_iff_eq, Bool.not_eq_true', decide_eq_true_eq] at h5
  obtain ⟨⟨⟨⟨⟨g1, g2⟩, g3⟩, g4⟩, g5⟩, g6⟩ := h5
  simp [Cond.before, Cond.holds, Cond.value, h1, h2, h3, h4, g1, g2, g3, g4, g5, g6]
def isCode : Jvm.Cond → Bool
  | .code _ _ _ _ => true
  | _ => false
theorem all_split {L : List Jvm.Cond} {P : Jvm.Cond → Bool} (h1 : L.all (fun c => isCode c || P c) = true) (h2 : ∀ c ∈ L.filter isCode, P c = true) : L.all P = true := by
  refine List.all_eq_true.mpr fun c hc => ?_
  have h := List.all_eq_true.mp h1 c hc
  rcases Bool.eq_false_or_eq_true (isCode c) with hi | hi
  · exact h2 c (List.mem_filter.mpr ⟨hc, hi⟩)
  · simpa [hi] using h
set_option maxRecDepth 65536 in
theorem w_c0 : (Jvm.Cond.code x code maxLocals ret).before args0 about1 = true := code_word (m := ⟨1, 1⟩) (meth := k1m1) (c := k1c1) (by decide +kernel) rfl rfl rfl (by decide +kernel)
set_option maxRecDepth 65536 in
theorem w_c1 : (Jvm.Cond.code ({ cls := "com/example/spokewire/spokewire/cli/LatencyHistogram", name := "<init>", desc := "()V" } : Jvm.MethodName) prog_7_method_1_code (1 : Nat) (Option.none : Option Jvm.ClassFile.FieldType)).before args0 about1 = true := code_word (m := ⟨2, 0⟩) (meth := k2m0) (c := k2c0) (by decide +kernel) rfl rfl rfl (by decide +kernel)
set_option maxRecDepth 65536 in
theorem w_c2 : (Jvm.Cond.code ({ cls := "java/lang/Object", name := "<init>", desc := "()V" } : Jvm.MethodName) object_method_1_code (1 : Nat) (Option.none : Option Jvm.ClassFile.FieldType)).before args0 about1 = true := code_word (m := ⟨0, 0⟩) (meth := k0m0) (c := k0c0) (by decide +kernel) rfl rfl rfl (by decide +kernel)
set_option maxRecDepth 65536 in
theorem w_c3 : (Jvm.Cond.code ({ cls := "com/example/spokewire/spokewire/cli/LatencyHistogram", name := "add", desc := "(Lcom/example/spokewire/spokewire/cli/LatencyHistogram;)V" } : Jvm.MethodName) prog_7_method_3_code (3 : Nat) (Option.none : Option Jvm.ClassFile.FieldType)).before args0 about1 = true := code_word (m := ⟨2, 2⟩) (meth := k2m2) (c := k2c2) (by decide +kernel) rfl rfl rfl (by decide +kernel)
set_option maxRecDepth 65536 in
theorem w_c4 : (Jvm.Cond.code ({ cls := "com/example/spokewire/spokewire/cli/LatencyHistogram", name := "count", desc := "()J" } : Jvm.MethodName) prog_7_method_4_code (1 : Nat) (Option.some Jvm.ClassFile.FieldType.long)).before args0 about1 = true := code_word (m := ⟨2, 3⟩) (meth := k2m3) (c := k2c3) (by decide +kernel) rfl rfl rfl (by decide +kernel)
set_option maxRecDepth 65536 in
theorem w_c5 : (Jvm.Cond.code ({ cls := "com/example/spokewire/spokewire/cli/LatencyHistogram", name := "record", desc := "(J)V" } : Jvm.MethodName) prog_7_method_2_code (3 : Nat) (Option.none : Option Jvm.ClassFile.FieldType)).before args0 about1 = true := code_word (m := ⟨2, 1⟩) (meth := k2m1) (c := k2c1) (by decide +kernel) rfl rfl rfl (by decide +kernel)
set_option maxRecDepth 65536 in
theorem w_c6 : (Jvm.Cond.code ({ cls := "java/lang/Math", name := "max", desc := "(JJ)J" } : Jvm.MethodName) jdk_29_method_66_code (4 : Nat) (Option.some Jvm.ClassFile.FieldType.long)).before args0 about1 = true := code_word (m := ⟨3, 2⟩) (meth := k3m2) (c := k3c2) (by decide +kernel) rfl rfl rfl (by decide +kernel)
set_option maxRecDepth 65536 in
theorem w_c7 : (Jvm.Cond.code ({ cls := "com/example/spokewire/spokewire/cli/LatencyHistogram", name := "bucketOf", desc := "(J)I" } : Jvm.MethodName) prog_7_method_6_code (3 : Nat) (Option.some Jvm.ClassFile.FieldType.int)).before args0 about1 = true := code_word (m := ⟨2, 5⟩) (meth := k2m5) (c := k2c5) (by decide +kernel) rfl rfl rfl (by decide +kernel)
set_option maxRecDepth 65536 in
theorem w_c8 : (Jvm.Cond.code ({ cls := "com/example/spokewire/spokewire/cli/LatencyHistogram", name := "percentile", desc := "(D)J" } : Jvm.MethodName) prog_7_method_5_code (8 : Nat) (Option.some Jvm.ClassFile.FieldType.long)).before args0 about1 = true := code_word (m := ⟨2, 4⟩) (meth := k2m4) (c := k2c4) (by decide +kernel) rfl rfl rfl (by decide +kernel)
set_option maxRecDepth 65536 in
theorem w_c9 : (Jvm.Cond.code ({ cls := "java/lang/Math", name := "ceil", desc := "(D)D" } : Jvm.MethodName) jdk_29_method_16_code (2 : Nat) (Option.some Jvm.ClassFile.FieldType.double)).before args0 about1 = true := code_word (m := ⟨3, 1⟩) (meth := k3m1) (c := k3c1) (by decide +kernel) rfl rfl rfl (by decide +kernel)
set_option maxRecDepth 65536 in
theorem w_c10 : (Jvm.Cond.code ({ cls := "java/lang/StrictMath", name := "ceil", desc := "(D)D" } : Jvm.MethodName) jdk_128_method_16_code (2 : Nat) (Option.some Jvm.ClassFile.FieldType.double)).before args0 about1 = true := code_word (m := ⟨4, 1⟩) (meth := k4m1) (c := k4c1) (by decide +kernel) rfl rfl rfl (by decide +kernel)
set_option maxRecDepth 65536 in
theorem w_c11 : (Jvm.Cond.code ({ cls := "java/lang/StrictMath", name := "floorOrCeil", desc := "(DDDD)D" } : Jvm.MethodName) jdk_128_method_18_code (15 : Nat) (Option.some Jvm.ClassFile.FieldType.double)).before args0 about1 = true := code_word (m := ⟨4, 2⟩) (meth := k4m2) (c := k4c2) (by decide +kernel) rfl rfl rfl (by decide +kernel)
set_option maxRecDepth 65536 in
theorem w_c12 : (Jvm.Cond.code ({ cls := "java/lang/Math", name := "getExponent", desc := "(D)I" } : Jvm.MethodName) jdk_29_method_92_code (2 : Nat) (Option.some Jvm.ClassFile.FieldType.int)).before args0 about1 = true := code_word (m := ⟨3, 4⟩) (meth := k3m4) (c := k3c4) (by decide +kernel) rfl rfl rfl (by decide +kernel)
set_option maxRecDepth 65536 in
theorem w_c13 : (Jvm.Cond.code ({ cls := "com/example/spokewire/spokewire/cli/LatencyHistogram", name := "highestOf", desc := "(I)J" } : Jvm.MethodName) prog_7_method_7_code (4 : Nat) (Option.some Jvm.ClassFile.FieldType.long)).before args0 about1 = true := code_word (m := ⟨2, 6⟩) (meth := k2m6) (c := k2c6) (by decide +kernel) rfl rfl rfl (by decide +kernel)
set_option maxRecDepth 65536 in
theorem w_c14 : (Jvm.Cond.code ({ cls := "java/lang/Math", name := "min", desc := "(JJ)J" } : Jvm.MethodName) jdk_29_method_70_code (4 : Nat) (Option.some Jvm.ClassFile.FieldType.long)).before args0 about1 = true := code_word (m := ⟨3, 3⟩) (meth := k3m3) (c := k3c3) (by decide +kernel) rfl rfl rfl (by decide +kernel)
set_option maxRecDepth 65536 in
theorem w_c15 : (Jvm.Cond.code ({ cls := "java/lang/Long", name := "numberOfLeadingZeros", desc := "(J)I" } : Jvm.MethodName) jdk_35_method_48_code (3 : Nat) (Option.some Jvm.ClassFile.FieldType.int)).before args0 about1 = true := code_word (m := ⟨11, 0⟩) (meth := k11m0) (c := k11c0) (by decide +kernel) rfl rfl rfl (by decide +kernel)
set_option maxRecDepth 65536 in
theorem w_c16 : (Jvm.Cond.code ({ cls := "java/lang/Integer", name := "numberOfLeadingZeros", desc := "(I)I" } : Jvm.MethodName) jdk_33_method_47_code (2 : Nat) (Option.some Jvm.ClassFile.FieldType.int)).before args0 about1 = true := code_word (m := ⟨12, 0⟩) (meth := k12m0) (c := k12c0) (by decide +kernel) rfl rfl rfl (by decide +kernel)
def codes1 : List Jvm.Cond := [Jvm.Cond.code x code maxLocals ret, Jvm.Cond.code ({ cls := "com/example/spokewire/spokewire/cli/LatencyHistogram", name := "<init>", desc := "()V" } : Jvm.MethodName) prog_7_method_1_code (1 : Nat) (Option.none : Option Jvm.ClassFile.FieldType), Jvm.Cond.code ({ cls := "java/lang/Object", name := "<init>", desc := "()V" } : Jvm.MethodName) object_method_1_code (1 : Nat) (Option.none : Option Jvm.ClassFile.FieldType), Jvm.Cond.code ({ cls := "com/example/spokewire/spokewire/cli/LatencyHistogram", name := "add", desc := "(Lcom/example/spokewire/spokewire/cli/LatencyHistogram;)V" } : Jvm.MethodName) prog_7_method_3_code (3 : Nat) (Option.none : Option Jvm.ClassFile.FieldType), Jvm.Cond.code ({ cls := "com/example/spokewire/spokewire/cli/LatencyHistogram", name := "count", desc := "()J" } : Jvm.MethodName) prog_7_method_4_code (1 : Nat) (Option.some Jvm.ClassFile.FieldType.long), Jvm.Cond.code ({ cls := "com/example/spokewire/spokewire/cli/LatencyHistogram", name := "record", desc := "(J)V" } : Jvm.MethodName) prog_7_method_2_code (3 : Nat) (Option.none : Option Jvm.ClassFile.FieldType), Jvm.Cond.code ({ cls := "java/lang/Math", name := "max", desc := "(JJ)J" } : Jvm.MethodName) jdk_29_method_66_code (4 : Nat) (Option.some Jvm.ClassFile.FieldType.long), Jvm.Cond.code ({ cls := "com/example/spokewire/spokewire/cli/LatencyHistogram", name := "bucketOf", desc := "(J)I" } : Jvm.MethodName) prog_7_method_6_code (3 : Nat) (Option.some Jvm.ClassFile.FieldType.int), Jvm.Cond.code ({ cls := "com/example/spokewire/spokewire/cli/LatencyHistogram", name := "percentile", desc := "(D)J" } : Jvm.MethodName) prog_7_method_5_code (8 : Nat) (Option.some Jvm.ClassFile.FieldType.long), Jvm.Cond.code ({ cls := "java/lang/Math", name := "ceil", desc := "(D)D" } : Jvm.MethodName) jdk_29_method_16_code (2 : Nat) (Option.some Jvm.ClassFile.FieldType.double), Jvm.Cond.code ({ cls := "java/lang/StrictMath", name := "ceil", desc := "(D)D" } : Jvm.MethodName) jdk_128_method_16_code (2 : Nat) (Option.some Jvm.ClassFile.FieldType.double), Jvm.Cond.code ({ cls := "java/lang/StrictMath", name := "floorOrCeil", desc := "(DDDD)D" } : Jvm.MethodName) jdk_128_method_18_code (15 : Nat) (Option.some Jvm.ClassFile.FieldType.double), Jvm.Cond.code ({ cls := "java/lang/Math", name := "getExponent", desc := "(D)I" } : Jvm.MethodName) jdk_29_method_92_code (2 : Nat) (Option.some Jvm.ClassFile.FieldType.int), Jvm.Cond.code ({ cls := "com/example/spokewire/spokewire/cli/LatencyHistogram", name := "highestOf", desc := "(I)J" } : Jvm.MethodName) prog_7_method_7_code (4 : Nat) (Option.some Jvm.ClassFile.FieldType.long), Jvm.Cond.code ({ cls := "java/lang/Math", name := "min", desc := "(JJ)J" } : Jvm.MethodName) jdk_29_method_70_code (4 : Nat) (Option.some Jvm.ClassFile.FieldType.long), Jvm.Cond.code ({ cls := "java/lang/Long", name := "numberOfLeadingZeros", desc := "(J)I" } : Jvm.MethodName) jdk_35_method_48_code (3 : Nat) (Option.some Jvm.ClassFile.FieldType.int), Jvm.Cond.code ({ cls := "java/lang/Integer", name := "numberOfLeadingZeros", desc := "(I)I" } : Jvm.MethodName) jdk_33_method_47_code (2 : Nat) (Option.some Jvm.ClassFile.FieldType.int)]
set_option maxRecDepth 65536 in
theorem codes_eq : words1.filter isCode = codes1 := rfl
theorem w_codes : ∀ c ∈ words1.filter isCode, c.before args0 about1 = true := by
  rw [codes_eq]
  intro c hc
  simp only [codes1, List.mem_cons, List.not_mem_nil, or_false] at hc
  rcases hc with rfl | rfl | rfl | rfl | rfl | rfl | rfl | rfl | rfl | rfl | rfl | rfl | rfl | rfl | rfl | rfl | rfl
  · exact w_c0
  · exact w_c1
  · exact w_c2
  · exact w_c3
  · exact w_c4
  · exact w_c5
  · exact w_c6
  · exact w_c7
  · exact w_c8
  · exact w_c9
  · exact w_c10
  · exact w_c11
  · exact w_c12
  · exact w_c13
  · exact w_c14
  · exact w_c15
  · exact w_c16
set_option maxRecDepth 65536 in
theorem w_t1 : (words1.take 24).all (fun c => isCode c || c.before args0 about1) = true := by decide +kernel
set_option maxRecDepth 65536 in
theorem w_t2 : ((words1.drop 24).take 24).all (fun c => isCode c || c.before args0 about1) = true := by decide +kernel
set_option maxRecDepth 65536 in
theorem w_t3 : (((words1.drop 24).drop 24).take 24).all (fun c => isCode c || c.before args0 about1) = true := by decide +kernel
set_option maxRecDepth 65536 in
theorem w_t4 : (((words1.drop 24).drop 24).drop 24).all (fun c => isCode c || c.before args0 about1) = true := by decide +kernel
theorem w_tables : (allAtoms (Jvm.Cond.code x code maxLocals ret :: tables_1)).before args0 about1 = true := by
  rw [allAtoms_all]
  show words1.all (fun c => c.before args0 about1) = true
  refine all_split ?_ w_codes
  rw [← List.take_append_drop 24 words1, List.all_append, w_t1, ← List.take_append_drop 24 (words1.drop 24), List.all_append, w_t2, ← List.take_append_drop 24 ((words1.drop 24).drop 24), List.all_append, w_t3, w_t4]
  rfl
set_option maxRecDepth 65536 in
theorem w_rest : rest_1_c.before args0 about1 = true := by decide +kernel
set_option maxRecDepth 65536 in
theorem w_case : (Jvm.Cond.and given_1 narrow_1).before args0 about1 = true := by decide +kernel
theorem w_applies : (headSpec (Jvm.Cond.code x code maxLocals ret :: tables_1) room_1).applies x e0.platform about1 = true :=
  (Spec.applies_iff w_frames).mpr ⟨w_running, w_runnable, w_alone, w_named, w_hears, w_ripe, w_room, w_tables⟩
theorem atStart : AtStart classFile x code maxLocals ret World_1 tables_1 room_1 Calls_1 rest_1 Pre_1 launch0 p0 e0 about1 theMethod args0 below0 :=
  ⟨lists_1, trivial, launch0.admits_env _ _ _, launch0.least_env, fairChoices_fair.cas, fairChoices_fair.clock, w_frames, w_args, w_heap, w_applies, trivial, w_rest, w_case⟩
end start1
theorem witness_1 : WitnessClaimed_1 := ⟨start1.p0, start1.e0, start1.about1, start1.theMethod, start1.args0, start1.below0, start1.atStart⟩
end Jvm.Pilot.@@N@@

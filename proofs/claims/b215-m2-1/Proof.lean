import JvmDerived
import JvmDerived.Pilot.@@N@@Statement
import JvmDerived.Pilot.@@N@@Code
set_option linter.unusedVariables false
set_option linter.unusedSimpArgs false
namespace Jvm.OwnWp
open Sem ClassFile Op Lib Jvm.Stand Jvm.Free Jvm.LawKit Jvm.RoadKit
/-- what holds of the method that is walked: its bytes, its class, its tables -/
def Cx (Z : State) (own nm : String) (bytes : ByteArray) (ml : Nat) (ret : Option FieldType) (p : Program) (s : State) (m : MethodId) (meth : Method) (c : Code) : Prop :=
  p.tables.exec = Jvm.exec ∧ Z.Warmed39 s.vm ∧ s.vm.findClass own = some m.cls ∧ c.code = bytes ∧ c.maxLocals = ml ∧ meth.sig.returnType = ret ∧ meth.locks = false ∧ meth.name = nm
/-- from the frame g over the heap h the method returns v at a heap of which Q holds; it has written fresh places alone -/
def Go (p : Program) (l : Launch) (e : Env) (R : Room) (s : State) (m : MethodId) (args : Array Value) (below : List Frame) (meth : Method) (c : Code) (n0 : Nat) (h : Heap) (ce sl : Nat) (g : JFrame) (Q : Option Value → Heap → Prop) : Prop :=
  ∀ (T : State) (L : List Loc), Stand p l e R s m args below meth c T L ce sl → Fr n0 L → T.heap = h →
    ∃ (s₂ : State) (v : Option Value) (L' : List Loc), Steps p.tables e below (T.setTop g) s₂ ∧ s₂.status = .running ∧ Ended s₂ below (.returned v) ∧ Fr n0 L' ∧ Q v s₂.heap ∧ FrameEnd s (.returned v) s₂ L' R.cells R.slots
/-- the contract of a method: called with the values as' over the heap h it returns as Q says -/
def Ctr (l : Launch) (Z : State) (y : MethodName) (bytes : ByteArray) (ml : Nat) (ret : Option FieldType) (ws : List Cond) (rm : Room) (n0 : Nat) (as' : Array Value) (h : Heap) (Q : Option Value → Heap → Prop) : Prop :=
  MetFree l y (head1 (Cond.code y bytes ml ret :: ws) rm) (fun a U => a = as' ∧ Z.Warmed39 U.vm ∧ U.heap = h) (fun _ _ _ _ _ => True) (fun _ U o U' => ∃ v L, o = .returned v ∧ (Q v U'.heap ∧ Fr n0 L) ∧ FrameEnd U o U' L rm.cells rm.slots)
section Walk
variable {p : Program} {l : Launch} {e : Env} {R : Room} {s : State} {m : MethodId} {args : Array Value} {below : List Frame} {meth : Method} {c : Code} {Z : State} {a0 : Array Value} {own nm : String} {bytes : ByteArray} {ml : Nat} {ret : Option FieldType} {n0 ce sl pc pc' : Nat} {h : Heap} {Ls Ls' : Array Slot} {S : List Value} {Q : Option Value → Heap → Prop}
theorem one {g g' : JFrame} (st : ∀ (T : State) (L : List Loc), Stand p l e R s m args below meth c T L ce sl → T.heap = h → ∀ t, Steps p.tables e below (T.setTop g') t → Steps p.tables e below (T.setTop g) t) (q : Go p l e R s m args below meth c n0 h ce sl g' Q) : Go p l e R s m args below meth c n0 h ce sl g Q := fun T L X N eT => by
  obtain ⟨s₂, v, L', a1, r⟩ := q T L X N eT
  exact ⟨s₂, v, L', st T L X eT _ a1, r⟩
/-- a step that goes to another state over the same heap -/
theorem oneT {g g' : JFrame} (st : ∀ (T : State) (L : List Loc), Stand p l e R s m args below meth c T L ce sl → T.heap = h → ∃ T', Stand p l e R s m args below meth c T' L ce sl ∧ T'.heap = h ∧ ∀ t, Steps p.tables e below (T'.setTop g') t → Steps p.tables e below (T.setTop g) t) (q : Go p l e R s m args below meth c n0 h ce sl g' Q) : Go p l e R s m args below meth c n0 h ce sl g Q := fun T L X N eT => by
  obtain ⟨T', X', eT', k⟩ := st T L X eT
  obtain ⟨s₂, v, L', a1, r⟩ := q T' L X' N eT'
  exact ⟨s₂, v, L', k _ a1, r⟩
theorem Go.cast {g g' : JFrame} (q : g = g') (k : Go p l e R s m args below meth c n0 h ce sl g' Q) : Go p l e R s m args below meth c n0 h ce sl g Q := q ▸ k
theorem Go.mono {g : JFrame} {Q' : Option Value → Heap → Prop} (k : Go p l e R s m args below meth c n0 h ce sl g Q') (q : ∀ v h, Q' v h → Q v h) : Go p l e R s m args below meth c n0 h ce sl g Q := fun T L X N eT => by
  obtain ⟨s₂, v, L', a1, a2, a3, a4, a5, r⟩ := k T L X N eT
  exact ⟨s₂, v, L', a1, a2, a3, a4, q _ _ a5, r⟩

theorem iloadN (K : Cx Z own nm bytes ml ret p s m meth c) {k : Fin 4} {v : Int32} (hd : decode bytes pc = .ok (.iload_n k, 1)) (hl : Ls[k.val]? = some (.val (.int v))) (hp : pc + 1 = pc') (q : Go p l e R s m args below meth c n0 h ce sl (mkF m pc' Ls (.int v :: S)) Q) : Go p l e R s m args below meth c n0 h ce sl (mkF m pc Ls S) Q := by
  subst hp; exact one (fun T L X _ t => Jvm.Free.XS.iloadN X.here K.1 rfl (hb K.2.2.2.1 hd) hl) q
theorem iload (K : Cx Z own nm bytes ml ret p s m meth c) {k : Nat} {v : Int32} (hd : decode bytes pc = .ok (.iload k, 2)) (hl : Ls[k]? = some (.val (.int v))) (hp : pc + 2 = pc') (q : Go p l e R s m args below meth c n0 h ce sl (mkF m pc' Ls (.int v :: S)) Q) : Go p l e R s m args below meth c n0 h ce sl (mkF m pc Ls S) Q := by
  subst hp; exact one (fun T L X _ t => Jvm.Free.XS.iload X.here K.1 rfl (hb K.2.2.2.1 hd) hl) q
theorem istoreN (K : Cx Z own nm bytes ml ret p s m meth c) {k : Fin 4} {v : Int32} (hd : decode bytes pc = .ok (.istore_n k, 1)) (hl : storeLocals Ls k.val (.int v) = some Ls') (hp : pc + 1 = pc') (q : Go p l e R s m args below meth c n0 h ce sl (mkF m pc' Ls' S) Q) : Go p l e R s m args below meth c n0 h ce sl (mkF m pc Ls (.int v :: S)) Q := by
  subst hp; exact one (fun T L X _ t => Jvm.Free.XS.istoreN X.here K.1 rfl (hb K.2.2.2.1 hd) rfl hl) q
theorem istore (K : Cx Z own nm bytes ml ret p s m meth c) {k : Nat} {v : Int32} (hd : decode bytes pc = .ok (.istore k, 2)) (hl : storeLocals Ls k (.int v) = some Ls') (hp : pc + 2 = pc') (q : Go p l e R s m args below meth c n0 h ce sl (mkF m pc' Ls' S) Q) : Go p l e R s m args below meth c n0 h ce sl (mkF m pc Ls (.int v :: S)) Q := by
  subst hp; exact one (fun T L X _ t => Jvm.Free.XS.istore X.here K.1 rfl (hb K.2.2.2.1 hd) rfl hl) q
theorem lloadN (K : Cx Z own nm bytes ml ret p s m meth c) {k : Fin 4} {v : Int64} (hd : decode bytes pc = .ok (.lload_n k, 1)) (hl : Ls[k.val]? = some (.val (.long v))) (hp : pc + 1 = pc') (q : Go p l e R s m args below meth c n0 h ce sl (mkF m pc' Ls (.long v :: S)) Q) : Go p l e R s m args below meth c n0 h ce sl (mkF m pc Ls S) Q := by
  subst hp; exact one (fun T L X _ t => Jvm.Free.XT.lloadN X.here K.1 rfl (hb K.2.2.2.1 hd) hl) q
theorem lload (K : Cx Z own nm bytes ml ret p s m meth c) {k : Nat} {v : Int64} (hd : decode bytes pc = .ok (.lload k, 2)) (hl : Ls[k]? = some (.val (.long v))) (hp : pc + 2 = pc') (q : Go p l e R s m args below meth c n0 h ce sl (mkF m pc' Ls (.long v :: S)) Q) : Go p l e R s m args below meth c n0 h ce sl (mkF m pc Ls S) Q := by
  subst hp; exact one (fun T L X _ t => Jvm.Free.XT.lload X.here K.1 rfl (hb K.2.2.2.1 hd) hl) q
theorem lstoreN (K : Cx Z own nm bytes ml ret p s m meth c) {k : Fin 4} {v : Int64} (hd : decode bytes pc = .ok (.lstore_n k, 1)) (hl : storeLocals Ls k.val (.long v) = some Ls') (hp : pc + 1 = pc') (q : Go p l e R s m args below meth c n0 h ce sl (mkF m pc' Ls' S) Q) : Go p l e R s m args below meth c n0 h ce sl (mkF m pc Ls (.long v :: S)) Q := by
  subst hp; exact one (fun T L X _ t => Jvm.Free.XT.lstoreN X.here K.1 rfl (hb K.2.2.2.1 hd) rfl hl) q
theorem lstore (K : Cx Z own nm bytes ml ret p s m meth c) {k : Nat} {v : Int64} (hd : decode bytes pc = .ok (.lstore k, 2)) (hl : storeLocals Ls k (.long v) = some Ls') (hp : pc + 2 = pc') (q : Go p l e R s m args below meth c n0 h ce sl (mkF m pc' Ls' S) Q) : Go p l e R s m args below meth c n0 h ce sl (mkF m pc Ls (.long v :: S)) Q := by
  subst hp; exact one (fun T L X _ t => Jvm.Free.XT.lstore X.here K.1 rfl (hb K.2.2.2.1 hd) rfl hl) q
theorem dloadN (K : Cx Z own nm bytes ml ret p s m meth c) {k : Fin 4} {v : UInt64} (hd : decode bytes pc = .ok (.dload_n k, 1)) (hl : Ls[k.val]? = some (.val (.double v))) (hp : pc + 1 = pc') (q : Go p l e R s m args below meth c n0 h ce sl (mkF m pc' Ls (.double v :: S)) Q) : Go p l e R s m args below meth c n0 h ce sl (mkF m pc Ls S) Q := by
  subst hp; exact one (fun T L X _ t => Jvm.Free.XS.dloadN X.here K.1 rfl (hb K.2.2.2.1 hd) hl) q
theorem dload (K : Cx Z own nm bytes ml ret p s m meth c) {k : Nat} {v : UInt64} (hd : decode bytes pc = .ok (.dload k, 2)) (hl : Ls[k]? = some (.val (.double v))) (hp : pc + 2 = pc') (q : Go p l e R s m args below meth c n0 h ce sl (mkF m pc' Ls (.double v :: S)) Q) : Go p l e R s m args below meth c n0 h ce sl (mkF m pc Ls S) Q := by
  subst hp; exact one (fun T L X _ t => Jvm.Free.XS.dload X.here K.1 rfl (hb K.2.2.2.1 hd) hl) q
theorem dstoreN (K : Cx Z own nm bytes ml ret p s m meth c) {k : Fin 4} {v : UInt64} (hd : decode bytes pc = .ok (.dstore_n k, 1)) (hl : storeLocals Ls k.val (.double v) = some Ls') (hp : pc + 1 = pc') (q : Go p l e R s m args below meth c n0 h ce sl (mkF m pc' Ls' S) Q) : Go p l e R s m args below meth c n0 h ce sl (mkF m pc Ls (.double v :: S)) Q := by
  subst hp; exact one (fun T L X _ t => Jvm.Free.XS.dstoreN X.here K.1 rfl (hb K.2.2.2.1 hd) rfl hl) q
theorem dstore (K : Cx Z own nm bytes ml ret p s m meth c) {k : Nat} {v : UInt64} (hd : decode bytes pc = .ok (.dstore k, 2)) (hl : storeLocals Ls k (.double v) = some Ls') (hp : pc + 2 = pc') (q : Go p l e R s m args below meth c n0 h ce sl (mkF m pc' Ls' S) Q) : Go p l e R s m args below meth c n0 h ce sl (mkF m pc Ls (.double v :: S)) Q := by
  subst hp; exact one (fun T L X _ t => Jvm.Free.XS.dstore X.here K.1 rfl (hb K.2.2.2.1 hd) rfl hl) q
theorem aloadN (K : Cx Z own nm bytes ml ret p s m meth c) {k : Fin 4} {v : Value} (hd : decode bytes pc = .ok (.aload_n k, 1)) (hl : Ls[k.val]? = some (.val v)) (hv : v.isRef = true) (hp : pc + 1 = pc') (q : Go p l e R s m args below meth c n0 h ce sl (mkF m pc' Ls (v :: S)) Q) : Go p l e R s m args below meth c n0 h ce sl (mkF m pc Ls S) Q := by
  subst hp; exact one (fun T L X _ t => Jvm.Free.XS.aloadN X.here K.1 rfl (hb K.2.2.2.1 hd) hl hv) q
theorem aload (K : Cx Z own nm bytes ml ret p s m meth c) {k : Nat} {v : Value} (hd : decode bytes pc = .ok (.aload k, 2)) (hl : Ls[k]? = some (.val v)) (hv : v.isRef = true) (hp : pc + 2 = pc') (q : Go p l e R s m args below meth c n0 h ce sl (mkF m pc' Ls (v :: S)) Q) : Go p l e R s m args below meth c n0 h ce sl (mkF m pc Ls S) Q := by
  subst hp; exact one (fun T L X _ t => Jvm.Free.XS.aload X.here K.1 rfl (hb K.2.2.2.1 hd) hl hv) q
theorem astoreN (K : Cx Z own nm bytes ml ret p s m meth c) {k : Fin 4} {v : Value} (hd : decode bytes pc = .ok (.astore_n k, 1)) (hv : v.isRef = true) (hl : storeLocals Ls k.val v = some Ls') (hp : pc + 1 = pc') (q : Go p l e R s m args below meth c n0 h ce sl (mkF m pc' Ls' S) Q) : Go p l e R s m args below meth c n0 h ce sl (mkF m pc Ls (v :: S)) Q := by
  subst hp; exact one (fun T L X _ t => Jvm.Free.XS.astoreN X.here K.1 rfl (hb K.2.2.2.1 hd) rfl hv hl) q
theorem astore (K : Cx Z own nm bytes ml ret p s m meth c) {k : Nat} {v : Value} (hd : decode bytes pc = .ok (.astore k, 2)) (hv : v.isRef = true) (hl : storeLocals Ls k v = some Ls') (hp : pc + 2 = pc') (q : Go p l e R s m args below meth c n0 h ce sl (mkF m pc' Ls' S) Q) : Go p l e R s m args below meth c n0 h ce sl (mkF m pc Ls (v :: S)) Q := by
  subst hp; exact one (fun T L X _ t => Jvm.Free.XS.astore X.here K.1 rfl (hb K.2.2.2.1 hd) rfl hv hl) q
theorem iconst (K : Cx Z own nm bytes ml ret p s m meth c) {i : Int} (v : Int32) (hd : decode bytes pc = .ok (.iconst i, 1)) (hv : Int32.ofInt i = v) (hp : pc + 1 = pc') (q : Go p l e R s m args below meth c n0 h ce sl (mkF m pc' Ls (.int v :: S)) Q) : Go p l e R s m args below meth c n0 h ce sl (mkF m pc Ls S) Q := by
  subst hp; exact one (fun T L X _ t => Jvm.Free.XT.iconstV X.here K.1 rfl v (hb K.2.2.2.1 hd) hv) q
theorem bipush (K : Cx Z own nm bytes ml ret p s m meth c) {i : Int} (v : Int32) (hd : decode bytes pc = .ok (.bipush i, 2)) (hv : (Int8.ofInt i).toInt32 = v) (hp : pc + 2 = pc') (q : Go p l e R s m args below meth c n0 h ce sl (mkF m pc' Ls (.int v :: S)) Q) : Go p l e R s m args below meth c n0 h ce sl (mkF m pc Ls S) Q := by
  subst hp; exact one (fun T L X _ t => Jvm.Free.XT.bipushV X.here K.1 rfl v (hb K.2.2.2.1 hd) hv) q
theorem sipush (K : Cx Z own nm bytes ml ret p s m meth c) {i : Int} (v : Int32) (hd : decode bytes pc = .ok (.sipush i, 3)) (hv : (Int16.ofInt i).toInt32 = v) (hp : pc + 3 = pc') (q : Go p l e R s m args below meth c n0 h ce sl (mkF m pc' Ls (.int v :: S)) Q) : Go p l e R s m args below meth c n0 h ce sl (mkF m pc Ls S) Q := by
  subst hp; exact one (fun T L X _ t => Jvm.Free.XT.sipushV X.here K.1 rfl v (hb K.2.2.2.1 hd) hv) q
theorem lconst (K : Cx Z own nm bytes ml ret p s m meth c) {i : Fin 2} (v : Int64) (hd : decode bytes pc = .ok (.lconst i, 1)) (hv : Int64.ofNat i = v) (hp : pc + 1 = pc') (q : Go p l e R s m args below meth c n0 h ce sl (mkF m pc' Ls (.long v :: S)) Q) : Go p l e R s m args below meth c n0 h ce sl (mkF m pc Ls S) Q := by
  subst hp; exact one (fun T L X _ t => Jvm.Free.XT.lconstV X.here K.1 rfl v (hb K.2.2.2.1 hd) hv) q
theorem istoreS (K : Cx Z own nm bytes ml ret p s m meth c) {k : Nat} {x : Int32} {o : Slot} (hd : decode bytes pc = .ok (.istore k, 2)) (hold : Ls[k]? = some o) (ho : One o) (hl : Ls.setIfInBounds k (.val (.int x)) = Ls') (hp : pc + 2 = pc') (q : Go p l e R s m args below meth c n0 h ce sl (mkF m pc' Ls' S) Q) : Go p l e R s m args below meth c n0 h ce sl (mkF m pc Ls (.int x :: S)) Q := by
  subst hp hl; exact one (fun T L X _ t => Jvm.Free.XS.istoreS X.here K.1 rfl (hb K.2.2.2.1 hd) rfl hold ho) q
theorem istoreNS (K : Cx Z own nm bytes ml ret p s m meth c) {k : Fin 4} {x : Int32} {o : Slot} (hd : decode bytes pc = .ok (.istore_n k, 1)) (hold : Ls[k.val]? = some o) (ho : One o) (hl : Ls.setIfInBounds k.val (.val (.int x)) = Ls') (hp : pc + 1 = pc') (q : Go p l e R s m args below meth c n0 h ce sl (mkF m pc' Ls' S) Q) : Go p l e R s m args below meth c n0 h ce sl (mkF m pc Ls (.int x :: S)) Q := by
  subst hp hl; exact one (fun T L X _ t => Jvm.Free.XS.istoreNS X.here K.1 rfl (hb K.2.2.2.1 hd) rfl hold ho) q
theorem dconst0 (K : Cx Z own nm bytes ml ret p s m meth c) {v : UInt64} (hd : decode bytes pc = .ok (.dconst 0, 1)) (hv : FP.dconst0 = v) (hp : pc + 1 = pc') (q : Go p l e R s m args below meth c n0 h ce sl (mkF m pc' Ls (.double v :: S)) Q) : Go p l e R s m args below meth c n0 h ce sl (mkF m pc Ls S) Q := by
  subst hp; exact one (fun T L X _ t => Jvm.Free.XS.dconst0 X.here K.1 rfl (hb K.2.2.2.1 hd) hv) q
theorem dconst1 (K : Cx Z own nm bytes ml ret p s m meth c) {v : UInt64} (hd : decode bytes pc = .ok (.dconst 1, 1)) (hv : FP.dconst1 = v) (hp : pc + 1 = pc') (q : Go p l e R s m args below meth c n0 h ce sl (mkF m pc' Ls (.double v :: S)) Q) : Go p l e R s m args below meth c n0 h ce sl (mkF m pc Ls S) Q := by
  subst hp; exact one (fun T L X _ t => Jvm.Free.XS.dconst1 X.here K.1 rfl (hb K.2.2.2.1 hd) hv) q
theorem anull (K : Cx Z own nm bytes ml ret p s m meth c) (hd : decode bytes pc = .ok (.aconst_null, 1)) (hp : pc + 1 = pc') (q : Go p l e R s m args below meth c n0 h ce sl (mkF m pc' Ls (.null :: S)) Q) : Go p l e R s m args below meth c n0 h ce sl (mkF m pc Ls S) Q := by
  subst hp; exact one (fun T L X _ t => Jvm.Free.XS.aconstNull X.here K.1 rfl (hb K.2.2.2.1 hd) ) q
theorem iinc (K : Cx Z own nm bytes ml ret p s m meth c) {k : Nat} {i : Int} {x : Int32} (v : Int32) (hd : decode bytes pc = .ok (.iinc k i, 3)) (hv : Int32.ofInt i = v) (hl : Ls[k]? = some (.val (.int x))) (hl' : storeLocals Ls k (.int (x + v)) = some Ls') (hp : pc + 3 = pc') (q : Go p l e R s m args below meth c n0 h ce sl (mkF m pc' Ls' S) Q) : Go p l e R s m args below meth c n0 h ce sl (mkF m pc Ls S) Q := by
  subst hp; exact one (fun T L X _ t => Jvm.Free.XT.iincV X.here K.1 rfl v (hb K.2.2.2.1 hd) hv hl hl') q
theorem iadd (K : Cx Z own nm bytes ml ret p s m meth c) {x y : Int32} (hd : decode bytes pc = .ok (.iadd, 1)) (hp : pc + 1 = pc') (q : Go p l e R s m args below meth c n0 h ce sl (mkF m pc' Ls (.int (x + y) :: S)) Q) : Go p l e R s m args below meth c n0 h ce sl (mkF m pc Ls (.int y :: .int x :: S)) Q := by
  subst hp; exact one (fun T L X _ t => Jvm.Free.XS.iadd X.here K.1 rfl (hb K.2.2.2.1 hd) rfl) q
theorem isub (K : Cx Z own nm bytes ml ret p s m meth c) {x y : Int32} (hd : decode bytes pc = .ok (.isub, 1)) (hp : pc + 1 = pc') (q : Go p l e R s m args below meth c n0 h ce sl (mkF m pc' Ls (.int (x - y) :: S)) Q) : Go p l e R s m args below meth c n0 h ce sl (mkF m pc Ls (.int y :: .int x :: S)) Q := by
  subst hp; exact one (fun T L X _ t => Jvm.Free.XS.isub X.here K.1 rfl (hb K.2.2.2.1 hd) rfl) q
theorem imul (K : Cx Z own nm bytes ml ret p s m meth c) {x y : Int32} (hd : decode bytes pc = .ok (.imul, 1)) (hp : pc + 1 = pc') (q : Go p l e R s m args below meth c n0 h ce sl (mkF m pc' Ls (.int (x * y) :: S)) Q) : Go p l e R s m args below meth c n0 h ce sl (mkF m pc Ls (.int y :: .int x :: S)) Q := by
  subst hp; exact one (fun T L X _ t => Jvm.Free.XS.imul X.here K.1 rfl (hb K.2.2.2.1 hd) rfl) q
theorem iand (K : Cx Z own nm bytes ml ret p s m meth c) {x y : Int32} (hd : decode bytes pc = .ok (.iand, 1)) (hp : pc + 1 = pc') (q : Go p l e R s m args below meth c n0 h ce sl (mkF m pc' Ls (.int (x &&& y) :: S)) Q) : Go p l e R s m args below meth c n0 h ce sl (mkF m pc Ls (.int y :: .int x :: S)) Q := by
  subst hp; exact one (fun T L X _ t => Jvm.Free.XS.iand X.here K.1 rfl (hb K.2.2.2.1 hd) rfl) q
theorem ior (K : Cx Z own nm bytes ml ret p s m meth c) {x y : Int32} (hd : decode bytes pc = .ok (.ior, 1)) (hp : pc + 1 = pc') (q : Go p l e R s m args below meth c n0 h ce sl (mkF m pc' Ls (.int (x ||| y) :: S)) Q) : Go p l e R s m args below meth c n0 h ce sl (mkF m pc Ls (.int y :: .int x :: S)) Q := by
  subst hp; exact one (fun T L X _ t => Jvm.Free.XT.ior X.here K.1 rfl (hb K.2.2.2.1 hd) rfl) q
theorem ixor (K : Cx Z own nm bytes ml ret p s m meth c) {x y : Int32} (hd : decode bytes pc = .ok (.ixor, 1)) (hp : pc + 1 = pc') (q : Go p l e R s m args below meth c n0 h ce sl (mkF m pc' Ls (.int (x ^^^ y) :: S)) Q) : Go p l e R s m args below meth c n0 h ce sl (mkF m pc Ls (.int y :: .int x :: S)) Q := by
  subst hp; exact one (fun T L X _ t => Jvm.Free.XT.ixor X.here K.1 rfl (hb K.2.2.2.1 hd) rfl) q
theorem ishl (K : Cx Z own nm bytes ml ret p s m meth c) {x y : Int32} (hd : decode bytes pc = .ok (.ishl, 1)) (hp : pc + 1 = pc') (q : Go p l e R s m args below meth c n0 h ce sl (mkF m pc' Ls (.int (x <<< (y &&& 31)) :: S)) Q) : Go p l e R s m args below meth c n0 h ce sl (mkF m pc Ls (.int y :: .int x :: S)) Q := by
  subst hp; exact one (fun T L X _ t => Jvm.Free.XT.ishl X.here K.1 rfl (hb K.2.2.2.1 hd) rfl) q
theorem ishr (K : Cx Z own nm bytes ml ret p s m meth c) {x y : Int32} (hd : decode bytes pc = .ok (.ishr, 1)) (hp : pc + 1 = pc') (q : Go p l e R s m args below meth c n0 h ce sl (mkF m pc' Ls (.int (x >>> (y &&& 31)) :: S)) Q) : Go p l e R s m args below meth c n0 h ce sl (mkF m pc Ls (.int y :: .int x :: S)) Q := by
  subst hp; exact one (fun T L X _ t => Jvm.Free.XT.ishr X.here K.1 rfl (hb K.2.2.2.1 hd) rfl) q
theorem iushr (K : Cx Z own nm bytes ml ret p s m meth c) {x y : Int32} (hd : decode bytes pc = .ok (.iushr, 1)) (hp : pc + 1 = pc') (q : Go p l e R s m args below meth c n0 h ce sl (mkF m pc' Ls (.int ((x.toUInt32 >>> (y &&& 31).toUInt32).toInt32) :: S)) Q) : Go p l e R s m args below meth c n0 h ce sl (mkF m pc Ls (.int y :: .int x :: S)) Q := by
  subst hp; exact one (fun T L X _ t => Jvm.Free.XT.iushr X.here K.1 rfl (hb K.2.2.2.1 hd) rfl) q
theorem irem_mod (x y : Int32) : x - (x / y) * y = x % y := by
  apply Int32.toInt_inj.mp
  have h1 := Int32.le_toInt (x % y)
  have h2 := Int32.toInt_lt (x % y)
  rw [Int32.toInt_sub, Int32.toInt_mul, Int32.toInt_div, Int.bmod_mul_bmod, Int.sub_bmod_bmod, Int.mul_comm (x.toInt.tdiv y.toInt), ← Int.tmod_def, ← Int32.toInt_mod]
  exact Int.bmod_eq_of_le_mul_two (by omega) (by omega)
theorem irem (K : Cx Z own nm bytes ml ret p s m meth c) {x y : Int32} (hd : decode bytes pc = .ok (.irem, 1)) (hy : y ≠ 0) (hp : pc + 1 = pc') (q : Go p l e R s m args below meth c n0 h ce sl (mkF m pc' Ls (.int (x % y) :: S)) Q) : Go p l e R s m args below meth c n0 h ce sl (mkF m pc Ls (.int y :: .int x :: S)) Q := by
  subst hp; rw [← irem_mod] at q; exact one (fun T L X _ t => Jvm.Free.XS.irem X.here K.1 rfl (hb K.2.2.2.1 hd) rfl hy) q
theorem idiv (K : Cx Z own nm bytes ml ret p s m meth c) {x y : Int32} (hd : decode bytes pc = .ok (.idiv, 1)) (hy : y ≠ 0) (hp : pc + 1 = pc') (q : Go p l e R s m args below meth c n0 h ce sl (mkF m pc' Ls (.int (x / y) :: S)) Q) : Go p l e R s m args below meth c n0 h ce sl (mkF m pc Ls (.int y :: .int x :: S)) Q := by
  subst hp; exact one (fun T L X _ t => Jvm.Free.XS.idiv X.here K.1 rfl (hb K.2.2.2.1 hd) rfl hy) q
theorem ladd (K : Cx Z own nm bytes ml ret p s m meth c) {x y : Int64} (hd : decode bytes pc = .ok (.ladd, 1)) (hp : pc + 1 = pc') (q : Go p l e R s m args below meth c n0 h ce sl (mkF m pc' Ls (.long (x + y) :: S)) Q) : Go p l e R s m args below meth c n0 h ce sl (mkF m pc Ls (.long y :: .long x :: S)) Q := by
  subst hp; exact one (fun T L X _ t => Jvm.Free.XT.ladd X.here K.1 rfl (hb K.2.2.2.1 hd) rfl) q
theorem lsub (K : Cx Z own nm bytes ml ret p s m meth c) {x y : Int64} (hd : decode bytes pc = .ok (.lsub, 1)) (hp : pc + 1 = pc') (q : Go p l e R s m args below meth c n0 h ce sl (mkF m pc' Ls (.long (x - y) :: S)) Q) : Go p l e R s m args below meth c n0 h ce sl (mkF m pc Ls (.long y :: .long x :: S)) Q := by
  subst hp; exact one (fun T L X _ t => Jvm.Free.XT.lsub X.here K.1 rfl (hb K.2.2.2.1 hd) rfl) q
theorem lmul (K : Cx Z own nm bytes ml ret p s m meth c) {x y : Int64} (hd : decode bytes pc = .ok (.lmul, 1)) (hp : pc + 1 = pc') (q : Go p l e R s m args below meth c n0 h ce sl (mkF m pc' Ls (.long (x * y) :: S)) Q) : Go p l e R s m args below meth c n0 h ce sl (mkF m pc Ls (.long y :: .long x :: S)) Q := by
  subst hp; exact one (fun T L X _ t => Jvm.Free.XT.lmul X.here K.1 rfl (hb K.2.2.2.1 hd) rfl) q
theorem land (K : Cx Z own nm bytes ml ret p s m meth c) {x y : Int64} (hd : decode bytes pc = .ok (.land, 1)) (hp : pc + 1 = pc') (q : Go p l e R s m args below meth c n0 h ce sl (mkF m pc' Ls (.long (x &&& y) :: S)) Q) : Go p l e R s m args below meth c n0 h ce sl (mkF m pc Ls (.long y :: .long x :: S)) Q := by
  subst hp; exact one (fun T L X _ t => Jvm.Free.XT.land X.here K.1 rfl (hb K.2.2.2.1 hd) rfl) q
theorem lor (K : Cx Z own nm bytes ml ret p s m meth c) {x y : Int64} (hd : decode bytes pc = .ok (.lor, 1)) (hp : pc + 1 = pc') (q : Go p l e R s m args below meth c n0 h ce sl (mkF m pc' Ls (.long (x ||| y) :: S)) Q) : Go p l e R s m args below meth c n0 h ce sl (mkF m pc Ls (.long y :: .long x :: S)) Q := by
  subst hp; exact one (fun T L X _ t => Jvm.Free.XT.lor X.here K.1 rfl (hb K.2.2.2.1 hd) rfl) q
theorem lxor (K : Cx Z own nm bytes ml ret p s m meth c) {x y : Int64} (hd : decode bytes pc = .ok (.lxor, 1)) (hp : pc + 1 = pc') (q : Go p l e R s m args below meth c n0 h ce sl (mkF m pc' Ls (.long (x ^^^ y) :: S)) Q) : Go p l e R s m args below meth c n0 h ce sl (mkF m pc Ls (.long y :: .long x :: S)) Q := by
  subst hp; exact one (fun T L X _ t => Jvm.Free.XT.lxor X.here K.1 rfl (hb K.2.2.2.1 hd) rfl) q
theorem lshl (K : Cx Z own nm bytes ml ret p s m meth c) {x : Int64} {y : Int32} (hd : decode bytes pc = .ok (.lshl, 1)) (hp : pc + 1 = pc') (q : Go p l e R s m args below meth c n0 h ce sl (mkF m pc' Ls (.long (x <<< (y.toInt64 &&& 63)) :: S)) Q) : Go p l e R s m args below meth c n0 h ce sl (mkF m pc Ls (.int y :: .long x :: S)) Q := by
  subst hp; exact one (fun T L X _ t => Jvm.Free.XT.lshl X.here K.1 rfl (hb K.2.2.2.1 hd) rfl) q
theorem lshr (K : Cx Z own nm bytes ml ret p s m meth c) {x : Int64} {y : Int32} (hd : decode bytes pc = .ok (.lshr, 1)) (hp : pc + 1 = pc') (q : Go p l e R s m args below meth c n0 h ce sl (mkF m pc' Ls (.long (x >>> (y.toInt64 &&& 63)) :: S)) Q) : Go p l e R s m args below meth c n0 h ce sl (mkF m pc Ls (.int y :: .long x :: S)) Q := by
  subst hp; exact one (fun T L X _ t => Jvm.Free.XT.lshr X.here K.1 rfl (hb K.2.2.2.1 hd) rfl) q
theorem lushr (K : Cx Z own nm bytes ml ret p s m meth c) {x : Int64} {y : Int32} (hd : decode bytes pc = .ok (.lushr, 1)) (hp : pc + 1 = pc') (q : Go p l e R s m args below meth c n0 h ce sl (mkF m pc' Ls (.long (XT.ushrL x y) :: S)) Q) : Go p l e R s m args below meth c n0 h ce sl (mkF m pc Ls (.int y :: .long x :: S)) Q := by
  subst hp; exact one (fun T L X _ t => Jvm.Free.XT.lushr X.here K.1 rfl (hb K.2.2.2.1 hd) rfl) q
theorem ldiv (K : Cx Z own nm bytes ml ret p s m meth c) {x y : Int64} (hd : decode bytes pc = .ok (.ldiv, 1)) (hy : y ≠ 0) (hp : pc + 1 = pc') (q : Go p l e R s m args below meth c n0 h ce sl (mkF m pc' Ls (.long (x / y) :: S)) Q) : Go p l e R s m args below meth c n0 h ce sl (mkF m pc Ls (.long y :: .long x :: S)) Q := by
  subst hp; exact one (fun T L X _ t => Jvm.Free.XT.ldiv X.here K.1 rfl (hb K.2.2.2.1 hd) rfl hy) q
theorem lrem (K : Cx Z own nm bytes ml ret p s m meth c) {x y : Int64} (hd : decode bytes pc = .ok (.lrem, 1)) (hy : y ≠ 0) (hp : pc + 1 = pc') (q : Go p l e R s m args below meth c n0 h ce sl (mkF m pc' Ls (.long (x % y) :: S)) Q) : Go p l e R s m args below meth c n0 h ce sl (mkF m pc Ls (.long y :: .long x :: S)) Q := by
  subst hp; rw [← lrem_mod] at q; exact one (fun T L X _ t => Jvm.Free.XT.lrem X.here K.1 rfl (hb K.2.2.2.1 hd) rfl hy) q
theorem lcmp (K : Cx Z own nm bytes ml ret p s m meth c) {x y : Int64} (hd : decode bytes pc = .ok (.lcmp, 1)) (hp : pc + 1 = pc') (q : Go p l e R s m args below meth c n0 h ce sl (mkF m pc' Ls (.int (XT.cmpL x y) :: S)) Q) : Go p l e R s m args below meth c n0 h ce sl (mkF m pc Ls (.long y :: .long x :: S)) Q := by
  subst hp; exact one (fun T L X _ t => Jvm.Free.XT.lcmp X.here K.1 rfl (hb K.2.2.2.1 hd) rfl) q
theorem i2l (K : Cx Z own nm bytes ml ret p s m meth c) {x : Int32} (hd : decode bytes pc = .ok (.i2l, 1)) (hp : pc + 1 = pc') (q : Go p l e R s m args below meth c n0 h ce sl (mkF m pc' Ls (.long x.toInt64 :: S)) Q) : Go p l e R s m args below meth c n0 h ce sl (mkF m pc Ls (.int x :: S)) Q := by
  subst hp; exact one (fun T L X _ t => Jvm.Free.XT.i2l X.here K.1 rfl (hb K.2.2.2.1 hd) rfl) q
theorem l2i (K : Cx Z own nm bytes ml ret p s m meth c) {x : Int64} (hd : decode bytes pc = .ok (.l2i, 1)) (hp : pc + 1 = pc') (q : Go p l e R s m args below meth c n0 h ce sl (mkF m pc' Ls (.int x.toInt32 :: S)) Q) : Go p l e R s m args below meth c n0 h ce sl (mkF m pc Ls (.long x :: S)) Q := by
  subst hp; exact one (fun T L X _ t => Jvm.Free.XT.l2i X.here K.1 rfl (hb K.2.2.2.1 hd) rfl) q
theorem i2c (K : Cx Z own nm bytes ml ret p s m meth c) {x : Int32} (hd : decode bytes pc = .ok (.i2c, 1)) (hp : pc + 1 = pc') (q : Go p l e R s m args below meth c n0 h ce sl (mkF m pc' Ls (.int x.toUInt32.toUInt16.toUInt32.toInt32 :: S)) Q) : Go p l e R s m args below meth c n0 h ce sl (mkF m pc Ls (.int x :: S)) Q := by
  subst hp; exact one (fun T L X _ t => Jvm.Free.XT.i2c X.here K.1 rfl (hb K.2.2.2.1 hd) rfl) q
theorem i2b (K : Cx Z own nm bytes ml ret p s m meth c) {x : Int32} (hd : decode bytes pc = .ok (.i2b, 1)) (hp : pc + 1 = pc') (q : Go p l e R s m args below meth c n0 h ce sl (mkF m pc' Ls (.int x.toInt8.toInt32 :: S)) Q) : Go p l e R s m args below meth c n0 h ce sl (mkF m pc Ls (.int x :: S)) Q := by
  subst hp; exact one (fun T L X _ t => Jvm.Free.XT.i2b X.here K.1 rfl (hb K.2.2.2.1 hd) rfl) q
theorem i2d (K : Cx Z own nm bytes ml ret p s m meth c) {x : Int32} (hd : decode bytes pc = .ok (.i2d, 1)) (hp : pc + 1 = pc') (q : Go p l e R s m args below meth c n0 h ce sl (mkF m pc' Ls (.double (FP.i2d x) :: S)) Q) : Go p l e R s m args below meth c n0 h ce sl (mkF m pc Ls (.int x :: S)) Q := by
  subst hp; exact one (fun T L X _ t => Jvm.Free.XS.i2dS X.here K.1 rfl (hb K.2.2.2.1 hd) rfl rfl) q
theorem l2d (K : Cx Z own nm bytes ml ret p s m meth c) {x : Int64} (hd : decode bytes pc = .ok (.l2d, 1)) (hp : pc + 1 = pc') (q : Go p l e R s m args below meth c n0 h ce sl (mkF m pc' Ls (.double (FP.l2d x) :: S)) Q) : Go p l e R s m args below meth c n0 h ce sl (mkF m pc Ls (.long x :: S)) Q := by
  subst hp; exact one (fun T L X _ t => Jvm.Free.XS.l2dS X.here K.1 rfl (hb K.2.2.2.1 hd) rfl rfl) q
theorem d2l (K : Cx Z own nm bytes ml ret p s m meth c) {x : UInt64} (hd : decode bytes pc = .ok (.d2l, 1)) (hp : pc + 1 = pc') (q : Go p l e R s m args below meth c n0 h ce sl (mkF m pc' Ls (.long (FP.d2l x) :: S)) Q) : Go p l e R s m args below meth c n0 h ce sl (mkF m pc Ls (.double x :: S)) Q := by
  subst hp; exact one (fun T L X _ t => Jvm.Free.XS.d2lS X.here K.1 rfl (hb K.2.2.2.1 hd) rfl rfl) q
theorem d2i (K : Cx Z own nm bytes ml ret p s m meth c) {x : UInt64} (hd : decode bytes pc = .ok (.d2i, 1)) (hp : pc + 1 = pc') (q : Go p l e R s m args below meth c n0 h ce sl (mkF m pc' Ls (.int (FP.d2i x) :: S)) Q) : Go p l e R s m args below meth c n0 h ce sl (mkF m pc Ls (.double x :: S)) Q := by
  subst hp; exact one (fun T L X _ t => Jvm.Free.XS.d2iS X.here K.1 rfl (hb K.2.2.2.1 hd) rfl rfl) q
theorem dadd (K : Cx Z own nm bytes ml ret p s m meth c) {x y : UInt64} (hd : decode bytes pc = .ok (.dadd, 1)) (hn : Jvm.Free.Fl.NoNaN64 (FP.dadd x y)) (hp : pc + 1 = pc') (q : Go p l e R s m args below meth c n0 h ce sl (mkF m pc' Ls (.double (FP.dadd x y) :: S)) Q) : Go p l e R s m args below meth c n0 h ce sl (mkF m pc Ls (.double y :: .double x :: S)) Q := by
  subst hp; exact one (fun T L X _ t => Jvm.Free.XS.daddS X.here K.1 rfl (hb K.2.2.2.1 hd) rfl hn rfl) q
theorem dsub (K : Cx Z own nm bytes ml ret p s m meth c) {x y : UInt64} (hd : decode bytes pc = .ok (.dsub, 1)) (hn : Jvm.Free.Fl.NoNaN64 (FP.dsub x y)) (hp : pc + 1 = pc') (q : Go p l e R s m args below meth c n0 h ce sl (mkF m pc' Ls (.double (FP.dsub x y) :: S)) Q) : Go p l e R s m args below meth c n0 h ce sl (mkF m pc Ls (.double y :: .double x :: S)) Q := by
  subst hp; exact one (fun T L X _ t => Jvm.Free.XS.dsubS X.here K.1 rfl (hb K.2.2.2.1 hd) rfl hn rfl) q
theorem dmul (K : Cx Z own nm bytes ml ret p s m meth c) {x y : UInt64} (hd : decode bytes pc = .ok (.dmul, 1)) (hn : Jvm.Free.Fl.NoNaN64 (FP.dmul x y)) (hp : pc + 1 = pc') (q : Go p l e R s m args below meth c n0 h ce sl (mkF m pc' Ls (.double (FP.dmul x y) :: S)) Q) : Go p l e R s m args below meth c n0 h ce sl (mkF m pc Ls (.double y :: .double x :: S)) Q := by
  subst hp; exact one (fun T L X _ t => Jvm.Free.XS.dmulS X.here K.1 rfl (hb K.2.2.2.1 hd) rfl hn rfl) q
theorem ddiv (K : Cx Z own nm bytes ml ret p s m meth c) {x y : UInt64} (hd : decode bytes pc = .ok (.ddiv, 1)) (hn : Jvm.Free.Fl.NoNaN64 (FP.ddiv x y)) (hp : pc + 1 = pc') (q : Go p l e R s m args below meth c n0 h ce sl (mkF m pc' Ls (.double (FP.ddiv x y) :: S)) Q) : Go p l e R s m args below meth c n0 h ce sl (mkF m pc Ls (.double y :: .double x :: S)) Q := by
  subst hp; exact one (fun T L X _ t => Jvm.Free.XS.ddivS X.here K.1 rfl (hb K.2.2.2.1 hd) rfl hn rfl) q
theorem dcmp (K : Cx Z own nm bytes ml ret p s m meth c) {o : CmpOp} {x y : UInt64} (hd : decode bytes pc = .ok (.dcmp o, 1)) (hp : pc + 1 = pc') (q : Go p l e R s m args below meth c n0 h ce sl (mkF m pc' Ls (.int (cmpValue (FP.dcmp x y) o) :: S)) Q) : Go p l e R s m args below meth c n0 h ce sl (mkF m pc Ls (.double y :: .double x :: S)) Q := by
  subst hp; exact one (fun T L X _ t => Jvm.Free.XS.dcmpS X.here K.1 rfl (hb K.2.2.2.1 hd) rfl rfl) q
theorem dup (K : Cx Z own nm bytes ml ret p s m meth c) {x : Value} (hd : decode bytes pc = .ok (.dup, 1)) (hc : x.category = 1) (hp : pc + 1 = pc') (q : Go p l e R s m args below meth c n0 h ce sl (mkF m pc' Ls (x :: x :: S)) Q) : Go p l e R s m args below meth c n0 h ce sl (mkF m pc Ls (x :: S)) Q := by
  subst hp; exact one (fun T L X _ t => Jvm.Free.XS.dup X.here K.1 rfl (hb K.2.2.2.1 hd) rfl hc) q
theorem pop (K : Cx Z own nm bytes ml ret p s m meth c) {x : Value} (hd : decode bytes pc = .ok (.pop, 1)) (hc : x.category = 1) (hp : pc + 1 = pc') (q : Go p l e R s m args below meth c n0 h ce sl (mkF m pc' Ls S) Q) : Go p l e R s m args below meth c n0 h ce sl (mkF m pc Ls (x :: S)) Q := by
  subst hp; exact one (fun T L X _ t => Jvm.Free.XT.pop X.here K.1 rfl (hb K.2.2.2.1 hd) rfl hc) q
theorem dupX1 (K : Cx Z own nm bytes ml ret p s m meth c) {x y : Value} (hd : decode bytes pc = .ok (.dup_x1, 1)) (hc : x.category = 1) (hc' : y.category = 1) (hp : pc + 1 = pc') (q : Go p l e R s m args below meth c n0 h ce sl (mkF m pc' Ls (x :: y :: x :: S)) Q) : Go p l e R s m args below meth c n0 h ce sl (mkF m pc Ls (x :: y :: S)) Q := by
  subst hp; exact one (fun T L X _ t => Jvm.Free.XT.dupX1 X.here K.1 rfl (hb K.2.2.2.1 hd) rfl hc hc') q
theorem dup2 (K : Cx Z own nm bytes ml ret p s m meth c) {x y : Value} (hd : decode bytes pc = .ok (.dup2, 1)) (hc : x.category = 1) (hc' : y.category = 1) (hp : pc + 1 = pc') (q : Go p l e R s m args below meth c n0 h ce sl (mkF m pc' Ls (x :: y :: x :: y :: S)) Q) : Go p l e R s m args below meth c n0 h ce sl (mkF m pc Ls (x :: y :: S)) Q := by
  subst hp; exact one (fun T L X _ t => Jvm.Free.XT.dup2 X.here K.1 rfl (hb K.2.2.2.1 hd) rfl hc hc') q
theorem dup2L (K : Cx Z own nm bytes ml ret p s m meth c) {x : Int64} (hd : decode bytes pc = .ok (.dup2, 1)) (hp : pc + 1 = pc') (q : Go p l e R s m args below meth c n0 h ce sl (mkF m pc' Ls (.long x :: .long x :: S)) Q) : Go p l e R s m args below meth c n0 h ce sl (mkF m pc Ls (.long x :: S)) Q := by
  subst hp; exact one (fun T L X _ t => Jvm.Free.XT.dup2L X.here K.1 rfl (hb K.2.2.2.1 hd) rfl) q
theorem goto' (K : Cx Z own nm bytes ml ret p s m meth c) {o : Int} (hd : decode bytes pc = .ok (.goto o, 3)) (ho : 0 ≤ (pc : Int) + o) (hp : ((pc : Int) + o).toNat = pc') (q : Go p l e R s m args below meth c n0 h ce sl (mkF m pc' Ls S) Q) : Go p l e R s m args below meth c n0 h ce sl (mkF m pc Ls S) Q :=
  one (fun T L X _ t => Jvm.Free.XS.goto X.here K.1 rfl rfl (hb K.2.2.2.1 hd) ho hp) q
theorem ifY (K : Cx Z own nm bytes ml ret p s m meth c) {cd : ClassFile.Cond} {o : Int} {x : Int32} (hd : decode bytes pc = .ok (.ifCond cd o, 3)) (hc : ifCond.holds cd x = true) (ho : 0 ≤ (pc : Int) + o) (hp : ((pc : Int) + o).toNat = pc') (q : Go p l e R s m args below meth c n0 h ce sl (mkF m pc' Ls S) Q) : Go p l e R s m args below meth c n0 h ce sl (mkF m pc Ls (.int x :: S)) Q :=
  one (fun T L X _ t => Jvm.Free.XS.ifYes X.here K.1 rfl rfl (hb K.2.2.2.1 hd) rfl hc ho hp) q
theorem ifN (K : Cx Z own nm bytes ml ret p s m meth c) {cd : ClassFile.Cond} {o : Int} {x : Int32} (hd : decode bytes pc = .ok (.ifCond cd o, 3)) (hc : ifCond.holds cd x = false) (hp : pc + 3 = pc') (q : Go p l e R s m args below meth c n0 h ce sl (mkF m pc' Ls S) Q) : Go p l e R s m args below meth c n0 h ce sl (mkF m pc Ls (.int x :: S)) Q := by
  subst hp; exact one (fun T L X _ t => Jvm.Free.XS.ifNo X.here K.1 rfl (hb K.2.2.2.1 hd) rfl hc) q
theorem icY (K : Cx Z own nm bytes ml ret p s m meth c) {cd : ClassFile.Cond} {o : Int} {x y : Int32} (hd : decode bytes pc = .ok (.if_icmp cd o, 3)) (hc : if_icmp.holds cd x y = true) (ho : 0 ≤ (pc : Int) + o) (hp : ((pc : Int) + o).toNat = pc') (q : Go p l e R s m args below meth c n0 h ce sl (mkF m pc' Ls S) Q) : Go p l e R s m args below meth c n0 h ce sl (mkF m pc Ls (.int y :: .int x :: S)) Q :=
  one (fun T L X _ t => Jvm.Free.XS.icmpYes X.here K.1 rfl rfl (hb K.2.2.2.1 hd) rfl hc ho hp) q
theorem icN (K : Cx Z own nm bytes ml ret p s m meth c) {cd : ClassFile.Cond} {o : Int} {x y : Int32} (hd : decode bytes pc = .ok (.if_icmp cd o, 3)) (hc : if_icmp.holds cd x y = false) (hp : pc + 3 = pc') (q : Go p l e R s m args below meth c n0 h ce sl (mkF m pc' Ls S) Q) : Go p l e R s m args below meth c n0 h ce sl (mkF m pc Ls (.int y :: .int x :: S)) Q := by
  subst hp; exact one (fun T L X _ t => Jvm.Free.XS.icmpNo X.here K.1 rfl (hb K.2.2.2.1 hd) rfl hc) q
theorem nullY (K : Cx Z own nm bytes ml ret p s m meth c) {o : Int} (hd : decode bytes pc = .ok (.ifnull o, 3)) (ho : 0 ≤ (pc : Int) + o) (hp : ((pc : Int) + o).toNat = pc') (q : Go p l e R s m args below meth c n0 h ce sl (mkF m pc' Ls S) Q) : Go p l e R s m args below meth c n0 h ce sl (mkF m pc Ls (.null :: S)) Q :=
  one (fun T L X _ t => Jvm.Free.XS.ifnullYes X.here K.1 rfl rfl (hb K.2.2.2.1 hd) rfl ho hp) q
theorem nullN (K : Cx Z own nm bytes ml ret p s m meth c) {o : Int} {b : Addr} (hd : decode bytes pc = .ok (.ifnull o, 3)) (hp : pc + 3 = pc') (q : Go p l e R s m args below meth c n0 h ce sl (mkF m pc' Ls S) Q) : Go p l e R s m args below meth c n0 h ce sl (mkF m pc Ls (.ref b :: S)) Q := by
  subst hp; exact one (fun T L X _ t => Jvm.Free.XS.ifnullNo X.here K.1 rfl (hb K.2.2.2.1 hd) rfl) q
theorem nonnullY (K : Cx Z own nm bytes ml ret p s m meth c) {o : Int} {b : Addr} (hd : decode bytes pc = .ok (.ifnonnull o, 3)) (ho : 0 ≤ (pc : Int) + o) (hp : ((pc : Int) + o).toNat = pc') (q : Go p l e R s m args below meth c n0 h ce sl (mkF m pc' Ls S) Q) : Go p l e R s m args below meth c n0 h ce sl (mkF m pc Ls (.ref b :: S)) Q :=
  one (fun T L X _ t => Jvm.Free.XT.ifnonnullYes X.here K.1 rfl rfl (hb K.2.2.2.1 hd) rfl ho hp) q
theorem nonnullN (K : Cx Z own nm bytes ml ret p s m meth c) {o : Int} (hd : decode bytes pc = .ok (.ifnonnull o, 3)) (hp : pc + 3 = pc') (q : Go p l e R s m args below meth c n0 h ce sl (mkF m pc' Ls S) Q) : Go p l e R s m args below meth c n0 h ce sl (mkF m pc Ls (.null :: S)) Q := by
  subst hp; exact one (fun T L X _ t => Jvm.Free.XT.ifnonnullNo X.here K.1 rfl (hb K.2.2.2.1 hd) rfl) q
theorem acY (K : Cx Z own nm bytes ml ret p s m meth c) {cd : ClassFile.ACond} {o : Int} {x y : Value} (hd : decode bytes pc = .ok (.if_acmp cd o, 3)) (hx : x.isRef = true) (hy : y.isRef = true) (hc : XT.acmp cd x y = true) (ho : 0 ≤ (pc : Int) + o) (hp : ((pc : Int) + o).toNat = pc') (q : Go p l e R s m args below meth c n0 h ce sl (mkF m pc' Ls S) Q) : Go p l e R s m args below meth c n0 h ce sl (mkF m pc Ls (y :: x :: S)) Q :=
  one (fun T L X _ t => Jvm.Free.XT.acmpYes X.here K.1 rfl rfl (hb K.2.2.2.1 hd) rfl hx hy hc ho hp) q
theorem acN (K : Cx Z own nm bytes ml ret p s m meth c) {cd : ClassFile.ACond} {o : Int} {x y : Value} (hd : decode bytes pc = .ok (.if_acmp cd o, 3)) (hx : x.isRef = true) (hy : y.isRef = true) (hc : XT.acmp cd x y = false) (hp : pc + 3 = pc') (q : Go p l e R s m args below meth c n0 h ce sl (mkF m pc' Ls S) Q) : Go p l e R s m args below meth c n0 h ce sl (mkF m pc Ls (y :: x :: S)) Q := by
  subst hp; exact one (fun T L X _ t => Jvm.Free.XT.acmpNo X.here K.1 rfl (hb K.2.2.2.1 hd) rfl hx hy hc) q
theorem ldcI (K : Cx Z own nm bytes ml ret p s m meth c) {i : Nat} {v : Int32} (w : (Cond.constant own i v).before a0 Z = true) (hd : decode bytes pc = .ok (.ldc i, 2)) (hp : pc + 2 = pc') (q : Go p l e R s m args below meth c n0 h ce sl (mkF m pc' Ls (.int v :: S)) Q) : Go p l e R s m args below meth c n0 h ce sl (mkF m pc Ls S) Q := by
  subst hp; exact one (fun T L X _ t => X.ldcI K.1 K.2.2.1 (mvT K.2.1 w) rfl (hb K.2.2.2.1 hd)) q
theorem ldcWI (K : Cx Z own nm bytes ml ret p s m meth c) {i : Nat} {v : Int32} (w : (Cond.constant own i v).before a0 Z = true) (hd : decode bytes pc = .ok (.ldc_w i, 3)) (hp : pc + 3 = pc') (q : Go p l e R s m args below meth c n0 h ce sl (mkF m pc' Ls (.int v :: S)) Q) : Go p l e R s m args below meth c n0 h ce sl (mkF m pc Ls S) Q := by
  subst hp; exact one (fun T L X _ t => X.ldcWI K.1 K.2.2.1 (mvT K.2.1 w) rfl (hb K.2.2.2.1 hd)) q
theorem ldc2J (K : Cx Z own nm bytes ml ret p s m meth c) {i : Nat} {v : Int64} (w : (Cond.constantLong own i v).before a0 Z = true) (hd : decode bytes pc = .ok (.ldc2_w i, 3)) (hp : pc + 3 = pc') (q : Go p l e R s m args below meth c n0 h ce sl (mkF m pc' Ls (.long v :: S)) Q) : Go p l e R s m args below meth c n0 h ce sl (mkF m pc Ls S) Q := by
  subst hp; exact one (fun T L X _ t => X.ldc2J K.1 K.2.2.1 (mvT K.2.1 w) rfl (hb K.2.2.2.1 hd)) q
theorem ldc2D (K : Cx Z own nm bytes ml ret p s m meth c) {i : Nat} {v : UInt64} (w : (Cond.constantDouble own i v).before a0 Z = true) (hd : decode bytes pc = .ok (.ldc2_w i, 3)) (hp : pc + 3 = pc') (q : Go p l e R s m args below meth c n0 h ce sl (mkF m pc' Ls (.double v :: S)) Q) : Go p l e R s m args below meth c n0 h ce sl (mkF m pc Ls S) Q := by
  subst hp; exact one (fun T L X _ t => X.ldc2DoubleC K.1 K.2.2.1 (mvT (args := args) K.2.1 w) (g := mkF m pc Ls S) rfl (hb K.2.2.2.1 hd) t) q
theorem getf (K : Cx Z own nm bytes ml ret p s m meth c) {i : Nat} {R0 O n d : String} {a : Addr} {v : Value} (w : (Cond.fieldLink own i R0 n d).before a0 Z = true) (via : Via Z R0 O n d) (F : Fld Z h a O n d v) (hd : decode bytes pc = .ok (.getfield i, 3)) (hp : pc + 3 = pc') (q : Go p l e R s m args below meth c n0 h ce sl (mkF m pc' Ls (v :: S)) Q) : Go p l e R s m args below meth c n0 h ce sl (mkF m pc Ls (.ref a :: S)) Q := by
  subst hp; exact oneT (fun T L X eT => getF X K.1 K.2.1 K.2.2.1 (host := "") (Or.inl w) via eT F rfl rfl (hb K.2.2.2.1 hd)) q
theorem getfN (K : Cx Z own nm bytes ml ret p s m meth c) {i : Nat} {R0 O n d host : String} {a : Addr} {v : Value} (w : (Cond.fieldLinkNest own i R0 n d host).before a0 Z = true) (via : Via Z R0 O n d) (F : Fld Z h a O n d v) (hd : decode bytes pc = .ok (.getfield i, 3)) (hp : pc + 3 = pc') (q : Go p l e R s m args below meth c n0 h ce sl (mkF m pc' Ls (v :: S)) Q) : Go p l e R s m args below meth c n0 h ce sl (mkF m pc Ls (.ref a :: S)) Q := by
  subst hp; exact oneT (fun T L X eT => getF X K.1 K.2.1 K.2.2.1 (Or.inr w) via eT F rfl rfl (hb K.2.2.2.1 hd)) q
theorem getfR (K : Cx Z own nm bytes ml ret p s m meth c) {i : Nat} {O n d : String} {a : Addr} {v : Value} (w : (Cond.fieldRef own i O n d).before a0 Z = true) (F : Fld Z h a O n d v) (hd : decode bytes pc = .ok (.getfield i, 3)) (hp : pc + 3 = pc') (q : Go p l e R s m args below meth c n0 h ce sl (mkF m pc' Ls (v :: S)) Q) : Go p l e R s m args below meth c n0 h ce sl (mkF m pc Ls (.ref a :: S)) Q := by
  subst hp
  refine one (fun T L X eT t k => ?_) q
  have hT : Z.Warmed39 T.vm := wtrans K.2.1 X.warmed
  obtain ⟨c1, k1, i1, f1, g1, g2⟩ := Cond.fieldRef_spec (s := Z.setVm T.vm) (cur := m.cls) (by show T.vm.findClass own = _; rw [X.warmed.alike.findClass]; exact K.2.2.1) (Cond.fieldRef_warmed39 hT w)
  obtain ⟨cell, cf, kf, i2, f2, h1, h2, h3, h4, -, -, h7⟩ := F
  obtain ⟨k', hi, -⟩ := State.fieldFound?_setVm (s := Z) hT.alike h2
  cases g1.symm.trans hi
  exact (X.getfieldR K.1 (g := mkF m pc Ls (.ref a :: S)) rfl g2 h3 rfl (by rw [eT]; exact h1) h4 h7 (hb K.2.2.2.1 hd) (Steps.refl _)).trans k
theorem gets (K : Cx Z own nm bytes ml ret p s m meth c) {i : Nat} {R0 O n d : String} {v : Value} (w : (Cond.fieldLink own i R0 n d).before a0 Z = true) (via : Via Z R0 O n d) (F : Sta Z h O n d v) (hd : decode bytes pc = .ok (.getstatic i, 3)) (hp : pc + 3 = pc') (q : Go p l e R s m args below meth c n0 h ce sl (mkF m pc' Ls (v :: S)) Q) : Go p l e R s m args below meth c n0 h ce sl (mkF m pc Ls S) Q := by
  subst hp; exact oneT (fun T L X eT => getS X K.1 K.2.1 K.2.2.1 (host := "") w via eT F rfl (hb K.2.2.2.1 hd)) q
theorem putf (K : Cx Z own nm bytes ml ret p s m meth c) {i kk : Nat} {R0 O n d C : String} {ty : FieldType} {a : Addr} {v old : Value} (w : (Cond.fieldLink own i R0 n d).before a0 Z = true) (via : Via Z R0 O n d) (F : Fld Z h a O n d old) (E : Exa Z h a C) (L : (Cond.lays C O n d).before a0 Z = true ∨ ((Cond.laysFinal C O n d).before a0 Z = true ∧ own = O ∧ nm = "<init>")) (wi : (Cond.instantiable C kk).before a0 Z = true) (hty : parseFieldDescriptor d = some ty) (hn : narrow ty v = v) (hf : fits ty v = true) (ga : n0 ≤ a) (hd : decode bytes pc = .ok (.putfield i, 3)) (hp : pc + 3 = pc') (q : ∀ h', Wr h h' a (Jvm.RoadKit.slotOf Z O n d) v → Go p l e R s m args below meth c n0 h' ce sl (mkF m pc' Ls S) Q) : Go p l e R s m args below meth c n0 h ce sl (mkF m pc Ls (v :: .ref a :: S)) Q := by
  subst hp
  intro T L0 X N eT
  obtain ⟨T', h', X', e', W, st⟩ := putF X K.1 K.2.1 K.2.2.1 (host := "") (Or.inl w) via eT F E (L.imp id fun ⟨a, b, c⟩ => ⟨a, b, K.2.2.2.2.2.2.2.trans c⟩) wi hty hn hf (g := mkF m pc Ls (v :: .ref a :: S)) rfl rfl (hb K.2.2.2.1 hd)
  obtain ⟨s₂, u, L', a1, r⟩ := q h' W T' _ X' (Fr.snoc X' N ga) e'
  exact ⟨s₂, u, L', st _ a1, r⟩
theorem newObj (K : Cx Z own nm bytes ml ret p s m meth c) {i n : Nat} {C : String} (w : (Cond.classLink own i C).before a0 Z = true) (wi : (Cond.instantiable C n).before a0 Z = true) (wz : (Cond.initialized C).before a0 Z = true) (hd : decode bytes pc = .ok (.new i, 3)) (hc : ce + 1 ≤ R.cells) (hl : sl + n ≤ R.slots) (hp : pc + 3 = pc') (q : ∀ h' x, x = h.size → Ext h h' → Exa Z h' x C → (∀ {O nm d : String} {ty : FieldType}, Laid Z a0 C O nm d → parseFieldDescriptor d = some ty → Fld Z h' x O nm d (defaultValue ty)) → Go p l e R s m args below meth c n0 h' (ce + 1) (sl + n) (mkF m pc' Ls (.ref x :: S)) Q) : Go p l e R s m args below meth c n0 h ce sl (mkF m pc Ls S) Q := by
  subst hp
  intro T L0 X N eT
  obtain ⟨T', h', X', e', E, A, D, -, st⟩ := newO X K.1 K.2.1 K.2.2.1 w wi wz eT (g := mkF m pc Ls S) rfl (hb K.2.2.2.1 hd) hc hl
  obtain ⟨s₂, u, L', a1, r⟩ := q h' h.size rfl E A D T' _ X' N e'
  exact ⟨s₂, u, L', st _ a1, r⟩
theorem initObj (K : Cx Z own nm bytes ml ret p s m meth c) {i : Nat} {a : Addr} (w1 : (Cond.methodLink own i Lib.objectInit).before a0 Z = true) (w2 : (Cond.instanceMethod Lib.objectInit).before a0 Z = true) (w3 : (Cond.code Lib.objectInit ⟨#[0xb1]⟩ 1 none).before a0 Z = true) (hd : decode bytes pc = .ok (.invokespecial i, 3)) (hz : Ls.size = ml) (hf : 1 ≤ R.frames) (hW : (S.map fun v => v.category).sum + 12 ≤ R.locals) (hp : pc + 3 = pc') (q : Go p l e R s m args below meth c n0 h ce sl (mkF m pc' Ls S) Q) : Go p l e R s m args below meth c n0 h ce sl (mkF m pc Ls (.ref a :: S)) Q := by
  subst hp; exact oneT (fun T L X eT => initO X K.1 K.2.1 K.2.2.1 w1 w2 w3 eT rfl (hz.trans K.2.2.2.2.1.symm) rfl (hb K.2.2.2.1 hd) hf (W := (S.map fun v => v.category).sum) (by show 2 * 0 + _ ≤ _; omega) hW) q
/-- a private method's own 'selects' -/
theorem priv_sel {s : State} {args : Array Value} {y : MethodName} {kk : Nat} (wi : (Cond.instantiable y.cls kk).before args s = true) (hpriv : s.PrivateAt y) (hinst : (Cond.instanceMethod y).before args s = true) (hy : y.cls ≠ "java/lang/invoke/MethodHandle" ∧ y.cls ≠ "java/lang/invoke/VarHandle") : (Cond.selects y.cls y y).before args s = true := by
  obtain ⟨c2, k2, i1, i2, i3, i4⟩ := Cond.instantiable_spec wi
  exact selects_self_of_private i1 i2 (Bool.or_eq_false_iff.mp i4.1).1 hpriv hinst hy
/-! calls -/
theorem back {W len : Nat} {y : MethodName} {by' : ByteArray} {ml' : Nat} {ret' : Option FieldType} {rm : Room} {as' : Array Value} {Q' : Option Value → Heap → Prop} (K : Cx Z own nm bytes ml ret p s m meth c) (C : Ctr l Z y by' ml' ret' [] rm n0 as' h Q') (wc : (Cond.code y by' ml' ret').before a0 Z = true) (wz : (Cond.initialized y.cls).before a0 Z = true) (hf : rm.frames + 1 ≤ R.frames) (hl : W + (ml' + 11) + rm.locals ≤ R.locals) :
    Back l R p e below s args y len W (fun A a => a = as' ∧ A.U.heap = h ∧ A.cells + rm.cells ≤ R.cells ∧ A.slots + rm.slots ≤ R.slots) (fun A _ v B => ∃ L, (Q' v B.U.heap ∧ Fr n0 L) ∧ B.locs = A.locs ++ L ∧ B.cells = A.cells + rm.cells ∧ B.slots = A.slots + rm.slots) :=
  backOf (Q := fun v h L => Q' v h ∧ Fr n0 L) C K.2.1 wc wz hf hl
theorem callStatic (K : Cx Z own nm bytes ml ret p s m meth c) {i : Nat} {y : MethodName} {by' : ByteArray} {ml' : Nat} {ret' : Option FieldType} {rm : Room} {Q' : Option Value → Heap → Prop}  {argsL : List Value} (w1 : (Cond.methodLink own i y).before a0 Z = true) (w2 : (Cond.static y).before a0 Z = true) (wz : (Cond.initialized y.cls).before a0 Z = true) (wc : (Cond.code y by' ml' ret').before a0 Z = true) (hy : y.cls ≠ "java/lang/invoke/MethodHandle" ∧ y.cls ≠ "java/lang/invoke/VarHandle") (Cc : Ctr l Z y by' ml' ret' [] rm n0 argsL.toArray h Q') (hlen : ∀ sig, parseMethodDescriptor y.desc = some sig → argsL.length = sig.parameters.length) (hd : decode bytes pc = .ok (.invokestatic i, 3)) (hz : Ls.size = ml) (hf : rm.frames + 1 ≤ R.frames) (hW : (S.map fun v => v.category).sum + (ml' + 11) + rm.locals ≤ R.locals) (hc : ce + rm.cells ≤ R.cells) (hsl : sl + rm.slots ≤ R.slots) {st : List Value} (hst : st = (argsL.reverse ++ S)) (hp : pc + 3 = pc') (q : ∀ v h', Q' v h' → Go p l e R s m args below meth c n0 h' (ce + rm.cells) (sl + rm.slots) (mkF m pc' Ls (v.toList ++ S)) Q) : Go p l e R s m args below meth c n0 h ce sl (mkF m pc Ls st) Q := by
  subst hp hst
  intro T L0 X N eT
  obtain ⟨v, _, ⟨T', L1, k1, n1⟩, -, X', ⟨Lc, hQ, l', y', z'⟩, st'⟩ := Jvm.LawKit.callS X K.1 K.2.2.1 (mvT K.2.1 w1) (mvT K.2.1 w2) (mvT K.2.1 wz) (mvT K.2.1 wc) hy (back (W := (S.map fun v => v.category).sum) K Cc wc wz hf hW) (g := mkF m pc Ls (argsL.reverse ++ S)) rfl (hz.trans K.2.2.2.2.1.symm) (argsL := argsL) (rest := S) hlen rfl (by show 2 * 0 + _ ≤ _; omega) (hb K.2.2.2.1 hd) (fun _ _ => ⟨rfl, eT, hc, hsl⟩)
  dsimp only [Pt.U, Pt.locs, Pt.cells, Pt.slots] at X' l' y' z' st'
  subst l' y' z'
  obtain ⟨s₂, u, L', a1, r⟩ := q v _ hQ.1 T' _ X' (Fr.app N hQ.2) rfl
  exact ⟨s₂, u, L', st' _ a1, r⟩
theorem callInit (K : Cx Z own nm bytes ml ret p s m meth c) {i : Nat} {y : MethodName} {by' : ByteArray} {ml' : Nat} {ret' : Option FieldType} {rm : Room} {Q' : Option Value → Heap → Prop} {b : Addr} {argsL : List Value} (hy1 : y.name = "<init>") (w1 : (Cond.methodLink own i y).before a0 Z = true) (w2 : (Cond.instanceMethod y).before a0 Z = true) (wz : (Cond.initialized y.cls).before a0 Z = true) (wc : (Cond.code y by' ml' none).before a0 Z = true) (hr : ret' = none) (hy : y.cls ≠ "java/lang/invoke/MethodHandle" ∧ y.cls ≠ "java/lang/invoke/VarHandle") (Cc : Ctr l Z y by' ml' ret' [] rm n0 (.ref b :: argsL).toArray h Q') (hlen : ∀ sig, parseMethodDescriptor y.desc = some sig → argsL.length = sig.parameters.length) (hd : decode bytes pc = .ok (.invokespecial i, 3)) (hz : Ls.size = ml) (hf : rm.frames + 1 ≤ R.frames) (hW : (S.map fun v => v.category).sum + (ml' + 11) + rm.locals ≤ R.locals) (hc : ce + rm.cells ≤ R.cells) (hsl : sl + rm.slots ≤ R.slots) {st : List Value} (hst : st = (argsL.reverse ++ .ref b :: S)) (hp : pc + 3 = pc') (q : ∀ v h', Q' v h' → Go p l e R s m args below meth c n0 h' (ce + rm.cells) (sl + rm.slots) (mkF m pc' Ls (v.toList ++ S)) Q) : Go p l e R s m args below meth c n0 h ce sl (mkF m pc Ls st) Q := by
  subst hp hst
  intro T L0 X N eT
  subst hr
  obtain ⟨v, _, ⟨T', L1, k1, n1⟩, -, X', ⟨Lc, hQ, l', y', z'⟩, st'⟩ := X.specialBack K.1 hy1 K.2.2.1 (mvT K.2.1 w1) (mvT K.2.1 w2) (mvT K.2.1 wc) hy (back (W := (S.map fun v => v.category).sum) K Cc wc wz hf hW) (g := mkF m pc Ls (argsL.reverse ++ .ref b :: S)) rfl (hz.trans K.2.2.2.2.1.symm) (Steps.refl _) (a := b) (argsL := argsL) (rest := S) hlen rfl (by show 2 * 0 + _ ≤ _; omega) (hb K.2.2.2.1 hd) (fun _ _ => ⟨rfl, eT, hc, hsl⟩)
  dsimp only [Pt.U, Pt.locs, Pt.cells, Pt.slots] at X' l' y' z' st'
  subst l' y' z'
  obtain ⟨s₂, u, L', a1, r⟩ := q v _ hQ.1 T' _ X' (Fr.app N hQ.2) rfl
  exact ⟨s₂, u, L', st'.trans a1, r⟩
theorem callInitNest (K : Cx Z own nm bytes ml ret p s m meth c) {i : Nat} {y : MethodName} {by' : ByteArray} {ml' : Nat} {ret' : Option FieldType} {rm : Room} {Q' : Option Value → Heap → Prop} {b : Addr} {argsL : List Value} {host : String} (hy1 : y.name = "<init>") (w1 : (Cond.methodLinkNest own i y host).before a0 Z = true) (w2 : (Cond.instanceMethod y).before a0 Z = true) (wz : (Cond.initialized y.cls).before a0 Z = true) (wc : (Cond.code y by' ml' none).before a0 Z = true) (hr : ret' = none) (hy : y.cls ≠ "java/lang/invoke/MethodHandle" ∧ y.cls ≠ "java/lang/invoke/VarHandle") (Cc : Ctr l Z y by' ml' ret' [] rm n0 (.ref b :: argsL).toArray h Q') (hlen : ∀ sig, parseMethodDescriptor y.desc = some sig → argsL.length = sig.parameters.length) (hd : decode bytes pc = .ok (.invokespecial i, 3)) (hz : Ls.size = ml) (hf : rm.frames + 1 ≤ R.frames) (hW : (S.map fun v => v.category).sum + (ml' + 11) + rm.locals ≤ R.locals) (hc : ce + rm.cells ≤ R.cells) (hsl : sl + rm.slots ≤ R.slots) {st : List Value} (hst : st = (argsL.reverse ++ .ref b :: S)) (hp : pc + 3 = pc') (q : ∀ v h', Q' v h' → Go p l e R s m args below meth c n0 h' (ce + rm.cells) (sl + rm.slots) (mkF m pc' Ls (v.toList ++ S)) Q) : Go p l e R s m args below meth c n0 h ce sl (mkF m pc Ls st) Q := by
  subst hp hst
  intro T L0 X N eT
  subst hr
  obtain ⟨v, _, ⟨T', L1, k1, n1⟩, -, X', ⟨Lc, hQ, l', y', z'⟩, st'⟩ := X.specialBackNest K.1 hy1 K.2.2.1 (Cond.methodLinkNest_wide K.2.1 w1 :) (mvT K.2.1 w2) (mvT K.2.1 wc) hy (back (W := (S.map fun v => v.category).sum) K Cc wc wz hf hW) (g := mkF m pc Ls (argsL.reverse ++ .ref b :: S)) rfl (hz.trans K.2.2.2.2.1.symm) (Steps.refl _) (a := b) (argsL := argsL) (rest := S) hlen rfl (by show 2 * 0 + _ ≤ _; omega) (hb K.2.2.2.1 hd) (fun _ _ => ⟨rfl, eT, hc, hsl⟩)
  dsimp only [Pt.U, Pt.locs, Pt.cells, Pt.slots] at X' l' y' z' st'
  subst l' y' z'
  obtain ⟨s₂, u, L', a1, r⟩ := q v _ hQ.1 T' _ X' (Fr.app N hQ.2) rfl
  exact ⟨s₂, u, L', st'.trans a1, r⟩
theorem callVirt (K : Cx Z own nm bytes ml ret p s m meth c) {i : Nat} {y : MethodName} {by' : ByteArray} {ml' : Nat} {ret' : Option FieldType} {rm : Room} {Q' : Option Value → Heap → Prop} {b : Addr} {argsL : List Value} {C : String} (w1 : (Cond.methodLink own i y).before a0 Z = true) (w2 : (Cond.declares y).before a0 Z = true) (w3 : (Cond.selects C y y).before a0 Z = true) (w4 : (Cond.instanceMethod y).before a0 Z = true) (wz : (Cond.initialized y.cls).before a0 Z = true) (wc : (Cond.code y by' ml' ret').before a0 Z = true) (hy : y.cls ≠ "java/lang/invoke/MethodHandle" ∧ y.cls ≠ "java/lang/invoke/VarHandle") (E : Exa Z h b C) (Cc : Ctr l Z y by' ml' ret' [] rm n0 (.ref b :: argsL).toArray h Q') (hlen : ∀ sig, parseMethodDescriptor y.desc = some sig → argsL.length = sig.parameters.length) (hd : decode bytes pc = .ok (.invokevirtual i, 3)) (hz : Ls.size = ml) (hf : rm.frames + 1 ≤ R.frames) (hW : (S.map fun v => v.category).sum + (ml' + 11) + rm.locals ≤ R.locals) (hc : ce + rm.cells ≤ R.cells) (hsl : sl + rm.slots ≤ R.slots) {st : List Value} (hst : st = (argsL.reverse ++ .ref b :: S)) (hp : pc + 3 = pc') (q : ∀ v h', Q' v h' → Go p l e R s m args below meth c n0 h' (ce + rm.cells) (sl + rm.slots) (mkF m pc' Ls (v.toList ++ S)) Q) : Go p l e R s m args below meth c n0 h ce sl (mkF m pc Ls st) Q := by
  subst hp hst
  intro T L0 X N eT
  obtain ⟨cq, kq, qa, qb, qc⟩ := isOf K.2.1 eT E
  obtain ⟨v, _, ⟨T', L1, k1, n1⟩, -, X', ⟨Lc, hQ, l', y', z'⟩, st'⟩ := X.virtualBack K.1 (y := y) (z := y) K.2.2.1 (mvT K.2.1 w1) (mvT K.2.1 w2) (notFace_of_selects (args := #[]) (mvT K.2.1 w3)) (mvT K.2.1 w3) (mvT K.2.1 w4) hy (back (W := (S.map fun v => v.category).sum) K Cc wc wz hf hW) qa qc (g := mkF m pc Ls (argsL.reverse ++ .ref b :: S)) rfl (hz.trans K.2.2.2.2.1.symm) (Steps.refl _) (argsL := argsL) (rest := S) hlen rfl (by show 2 * 0 + _ ≤ _; omega) (hb K.2.2.2.1 hd) (fun _ _ => ⟨rfl, eT, hc, hsl⟩)
  dsimp only [Pt.U, Pt.locs, Pt.cells, Pt.slots] at X' l' y' z' st'
  subst l' y' z'
  obtain ⟨s₂, u, L', a1, r⟩ := q v _ hQ.1 T' _ X' (Fr.app N hQ.2) rfl
  exact ⟨s₂, u, L', st'.trans a1, r⟩
theorem callFace (K : Cx Z own nm bytes ml ret p s m meth c) {i cnt : Nat} {y : MethodName} {by' : ByteArray} {ml' : Nat} {ret' : Option FieldType} {rm : Room} {Q' : Option Value → Heap → Prop} {b : Addr} {argsL : List Value} {z : MethodName} {C : String} (w1 : (Cond.methodLink own i y).before a0 Z = true) (w2 : (Cond.declares y).before a0 Z = true) (w5 : (Cond.interfaceMethod y.cls y.cls y.name y.desc).before a0 Z = true) (k5 : ((Cond.interfaceMethod y.cls y.cls y.name y.desc).onTables && (Cond.interfaceMethod y.cls y.cls y.name y.desc).keepsFace) = true) (w3 : (Cond.selects C y z).before a0 Z = true) (w4 : (Cond.instanceMethod z).before a0 Z = true) (w6 : (Cond.publicMethod z).before a0 Z = true) (w7 : (Cond.unhidden C y.name y.desc).before a0 Z = true) (w8 : (Cond.castable C y.cls).before a0 Z = true) (wz : (Cond.initialized z.cls).before a0 Z = true) (wc : (Cond.code z by' ml' ret').before a0 Z = true) (hy : y.cls ≠ "java/lang/invoke/MethodHandle" ∧ y.cls ≠ "java/lang/invoke/VarHandle") (E : Exa Z h b C) (Cc : Ctr l Z z by' ml' ret' [] rm n0 (.ref b :: argsL).toArray h Q') (hlen : ∀ sig, parseMethodDescriptor y.desc = some sig → argsL.length = sig.parameters.length) (hd : decode bytes pc = .ok (.invokeinterface i cnt, 5)) (hz : Ls.size = ml) (hf : rm.frames + 1 ≤ R.frames) (hW : (S.map fun v => v.category).sum + (ml' + 11) + rm.locals ≤ R.locals) (hc : ce + rm.cells ≤ R.cells) (hsl : sl + rm.slots ≤ R.slots) {st : List Value} (hst : st = (argsL.reverse ++ .ref b :: S)) (hp : pc + 5 = pc') (q : ∀ v h', Q' v h' → Go p l e R s m args below meth c n0 h' (ce + rm.cells) (sl + rm.slots) (mkF m pc' Ls (v.toList ++ S)) Q) : Go p l e R s m args below meth c n0 h ce sl (mkF m pc Ls st) Q := by
  subst hp hst
  intro T L0 X N eT
  obtain ⟨cq, kq, qa, qb, qc⟩ := isOf K.2.1 eT E
  obtain ⟨v, _, ⟨T', L1, k1, n1⟩, -, X', ⟨Lc, hQ, l', y', z'⟩, st'⟩ := X.interfaceBack K.1 (xi := y) (y := z) K.2.2.1 (mvT K.2.1 w1) (mvT K.2.1 w2) (mvT K.2.1 w5 k5) (mvT K.2.1 w3) (mvT K.2.1 w4) (mvT K.2.1 w6) (mvT K.2.1 w7) (mvT K.2.1 w8) hy (back (W := (S.map fun v => v.category).sum) K Cc wc wz hf hW) qa qb qc (g := mkF m pc Ls (argsL.reverse ++ .ref b :: S)) rfl (hz.trans K.2.2.2.2.1.symm) (Steps.refl _) (argsL := argsL) (rest := S) hlen rfl (by show 2 * 0 + _ ≤ _; omega) (hb K.2.2.2.1 hd) (fun _ _ => ⟨rfl, eT, hc, hsl⟩)
  dsimp only [Pt.U, Pt.locs, Pt.cells, Pt.slots] at X' l' y' z' st'
  subst l' y' z'
  obtain ⟨s₂, u, L', a1, r⟩ := q v _ hQ.1 T' _ X' (Fr.app N hQ.2) rfl
  exact ⟨s₂, u, L', st'.trans a1, r⟩
theorem callPriv (K : Cx Z own nm bytes ml ret p s m meth c) {i : Nat} {y : MethodName} {by' : ByteArray} {ml' : Nat} {ret' : Option FieldType} {rm : Room} {Q' : Option Value → Heap → Prop} {b : Addr} {argsL : List Value} {C : String} {kk : Nat} (w1 : (Cond.methodLink own i y).before a0 Z = true) (w2 : (Cond.instanceMethod y).before a0 Z = true) (w3 : (Cond.privateMethod y).before a0 Z = true) (w5 : (Cond.instantiable y.cls kk).before a0 Z = true) (wz : (Cond.initialized y.cls).before a0 Z = true) (wc : (Cond.code y by' ml' ret').before a0 Z = true) (hy : y.cls ≠ "java/lang/invoke/MethodHandle" ∧ y.cls ≠ "java/lang/invoke/VarHandle") (E : Exa Z h b C) (Cc : Ctr l Z y by' ml' ret' [] rm n0 (.ref b :: argsL).toArray h Q') (hlen : ∀ sig, parseMethodDescriptor y.desc = some sig → argsL.length = sig.parameters.length) (hd : decode bytes pc = .ok (.invokevirtual i, 3)) (hz : Ls.size = ml) (hf : rm.frames + 1 ≤ R.frames) (hW : (S.map fun v => v.category).sum + (ml' + 11) + rm.locals ≤ R.locals) (hc : ce + rm.cells ≤ R.cells) (hsl : sl + rm.slots ≤ R.slots) {st : List Value} (hst : st = (argsL.reverse ++ .ref b :: S)) (hp : pc + 3 = pc') (q : ∀ v h', Q' v h' → Go p l e R s m args below meth c n0 h' (ce + rm.cells) (sl + rm.slots) (mkF m pc' Ls (v.toList ++ S)) Q) : Go p l e R s m args below meth c n0 h ce sl (mkF m pc Ls st) Q := by
  subst hp hst
  intro T L0 X N eT
  obtain ⟨cell, kc, f1, f2, f3, f4, -⟩ := E
  have hpr : s.PrivateAt y := Cond.privateMethod_at (mvP K.2.1 w3 (args := #[]))
  obtain ⟨v, _, ⟨T', L1, k1, n1⟩, -, X', ⟨Lc, hQ, l', y', z'⟩, st'⟩ := X.privateBack K.1 (y := y) K.2.2.1 (mvT K.2.1 w1) (mvT K.2.1 w2) (priv_sel (mvT K.2.1 w5) hpr (mvT K.2.1 w2) hy) hpr (mvT K.2.1 wc) hy (back (W := (S.map fun v => v.category).sum) K Cc wc wz hf hW) (g := mkF m pc Ls (argsL.reverse ++ .ref b :: S)) rfl (hz.trans K.2.2.2.2.1.symm) (Steps.refl _) (a := b) (by rw [eT]; exact f1) (fun q hq => by rw [hq] at f4; cases f4) (argsL := argsL) (rest := S) hlen rfl (by show 2 * 0 + _ ≤ _; omega) (hb K.2.2.2.1 hd) (fun _ _ => ⟨rfl, eT, hc, hsl⟩)
  dsimp only [Pt.U, Pt.locs, Pt.cells, Pt.slots] at X' l' y' z' st'
  subst l' y' z'
  obtain ⟨s₂, u, L', a1, r⟩ := q v _ hQ.1 T' _ X' (Fr.app N hQ.2) rfl
  exact ⟨s₂, u, L', st'.trans a1, r⟩
theorem retW (K : Cx Z own nm bytes ml ret p s m meth c) {t : FieldType} {w : Value} {i : Instr} (hi : (i = .ireturn ∧ (t = .int ∨ t = .boolean ∨ t = .byte ∨ t = .char ∨ t = .short) ∧ ∃ z, w = .int z) ∨ (i = .lreturn ∧ t = .long ∧ ∃ z, w = .long z) ∨ (i = .dreturn ∧ t = .double ∧ ∃ z, w = .double z) ∨ (i = .freturn ∧ t = .float ∧ ∃ z, w = .float z) ∨ (i = .areturn ∧ t.isReference = true ∧ w.isRef = true)) (hr : ret = some t) (hn : narrow t w = w) (hd : decode bytes pc = .ok (i, 1)) (hc : ce ≤ R.cells) (hsl : sl ≤ R.slots) (q : Q (some w) h) : Go p l e R s m args below meth c n0 h ce sl (mkF m pc Ls (w :: S)) Q := by
  intro T L0 X N eT
  obtain ⟨fs, hl, hrun, hended, hW, hsame⟩ := X.leave (v := some w) (fun q => by rw [K.2.2.2.2.2.1, hr] at q; cases q) K.2.2.2.2.2.2.1
  exact ⟨_, some w, L0, retOut X K.1 (K.2.2.2.2.2.1.trans hr) hn hi (hb K.2.2.2.1 hd) hl, hrun, hended, N, eT ▸ q, ⟨_, rfl⟩, hW, hsame.mono hc hsl⟩
theorem retV (K : Cx Z own nm bytes ml ret p s m meth c) (hr : ret = none) (hd : decode bytes pc = .ok (.return_, 1)) (hc : ce ≤ R.cells) (hsl : sl ≤ R.slots) (q : Q none h) : Go p l e R s m args below meth c n0 h ce sl (mkF m pc Ls []) Q := by
  intro T L0 X N eT
  obtain ⟨fs, hl, hrun, hended, hW, hsame⟩ := X.leave (v := none) (fun _ => rfl) K.2.2.2.2.2.2.1
  exact ⟨_, none, L0, X.returnOut K.1 (K.2.2.2.2.2.1.trans hr) (hb K.2.2.2.1 hd) hl, hrun, hended, N, eT ▸ q, ⟨_, rfl⟩, hW, hsame.mono hc hsl⟩
theorem retI (K : Cx Z own nm bytes ml ret p s m meth c) {z : Int32} (hr : ret = some .int) (hd : decode bytes pc = .ok (.ireturn, 1)) (hc : ce ≤ R.cells) (hsl : sl ≤ R.slots) (q : Q (some (.int z)) h) : Go p l e R s m args below meth c n0 h ce sl (mkF m pc Ls (.int z :: S)) Q := retW K (by exact Or.inl ⟨rfl, Or.inl rfl, _, rfl⟩) hr rfl hd hc hsl q
theorem retL (K : Cx Z own nm bytes ml ret p s m meth c) {z : Int64} (hr : ret = some .long) (hd : decode bytes pc = .ok (.lreturn, 1)) (hc : ce ≤ R.cells) (hsl : sl ≤ R.slots) (q : Q (some (.long z)) h) : Go p l e R s m args below meth c n0 h ce sl (mkF m pc Ls (.long z :: S)) Q := retW K (by exact Or.inr (Or.inl ⟨rfl, rfl, _, rfl⟩)) hr rfl hd hc hsl q
theorem retD (K : Cx Z own nm bytes ml ret p s m meth c) {z : UInt64} (hr : ret = some .double) (hd : decode bytes pc = .ok (.dreturn, 1)) (hc : ce ≤ R.cells) (hsl : sl ≤ R.slots) (q : Q (some (.double z)) h) : Go p l e R s m args below meth c n0 h ce sl (mkF m pc Ls (.double z :: S)) Q := retW K (by exact Or.inr (Or.inr (Or.inl ⟨rfl, rfl, _, rfl⟩))) hr rfl hd hc hsl q
theorem retA (K : Cx Z own nm bytes ml ret p s m meth c) {t : FieldType} {w : Value} (hr : ret = some t) (ht : t.isReference = true) (hw : w.isRef = true) (hd : decode bytes pc = .ok (.areturn, 1)) (hc : ce ≤ R.cells) (hsl : sl ≤ R.slots) (q : Q (some w) h) : Go p l e R s m args below meth c n0 h ce sl (mkF m pc Ls (w :: S)) Q := retW K (Or.inr (Or.inr (Or.inr (Or.inr ⟨rfl, ht, hw⟩)))) hr (by cases t <;> first | rfl | exact absurd ht (by decide)) hd hc hsl q
theorem retB (K : Cx Z own nm bytes ml ret p s m meth c) {t : FieldType} {z : Int32} (hr : ret = some t) (ht : t = .boolean ∨ t = .byte ∨ t = .char ∨ t = .short) (hd : decode bytes pc = .ok (.ireturn, 1)) (hc : ce ≤ R.cells) (hsl : sl ≤ R.slots) (q : Q (some (.int (nar t z))) h) : Go p l e R s m args below meth c n0 h ce sl (mkF m pc Ls (.int z :: S)) Q := by
  intro T L0 X N eT
  obtain ⟨fs, hl, hrun, hended, hW, hsame⟩ := X.leave (v := some (.int (nar t z))) (fun q => by rw [K.2.2.2.2.2.1, hr] at q; cases q) K.2.2.2.2.2.2.1
  exact ⟨_, some (.int (nar t z)), L0, retN X K.1 (t := t) (K.2.2.2.2.2.1.trans hr) ht (hb K.2.2.2.1 hd) hl, hrun, hended, N, eT ▸ q, ⟨_, rfl⟩, hW, hsame.mono hc hsl⟩
end Walk
/-! arrays -/
def Vec (Z : State) (h : Heap) (a : Addr) (ty : FieldType) (xs : List Value) : Prop := ∃ cl : Cell, Arr Z h a cl ty ∧ cl.slots.toList = xs ∧ xs.length < 2147483648
/-- an array of references, with what may lie in it -/
def VecR (Z : State) (h : Heap) (a : Addr) (C : String) (xs : List Value) : Prop := ∃ cl : Cell, Arr Z h a cl (.object C) ∧ cl.slots.toList = xs ∧ xs.length < 2147483648 ∧ Ovr Z cl.cls C
section Vecs
variable {Z : State} {h h' : Heap} {a b : Addr} {ty : FieldType} {xs : List Value} {v : Value} {sl : Nat} {ws : List Addr} {C : String}
theorem Vec.lt (F : Vec Z h a ty xs) : a < h.size := by obtain ⟨c, A, -⟩ := F; exact A.lt
theorem Vec.ext (F : Vec Z h a ty xs) (E : Ext h h') : Vec Z h' a ty xs := by obtain ⟨c, A, r⟩ := F; exact ⟨c, A.ext E, r⟩
theorem Vec.other (F : Vec Z h b ty xs) (W : Wr h h' a sl v) (q : b ≠ a) : Vec Z h' b ty xs := by obtain ⟨c, A, r⟩ := F; exact ⟨c, A.other W q, r⟩
theorem Vec.keep (F : Vec Z h a ty xs) (K : Keep h h' ws) (q : a ∉ ws) : Vec Z h' a ty xs := by obtain ⟨c, A, r⟩ := F; exact ⟨c, ⟨K.2.1 a c A.1 q, A.2⟩, r⟩
theorem Vec.set (F : Vec Z h a ty xs) {i : Nat} (W : Wr h h' a i v) : Vec Z h' a ty (xs.set i v) := by
  obtain ⟨c, A, rfl, r⟩ := F
  exact ⟨_, A.same W, by simp [Cell.setSlot], by simpa using r⟩
theorem Vec.len (F : Vec Z h a ty xs) : xs.length < 2147483648 := by obtain ⟨c, A, rfl, r⟩ := F; exact r
theorem VecR.lt (F : VecR Z h a C xs) : a < h.size := by obtain ⟨c, A, -⟩ := F; exact A.lt
theorem VecR.ext (F : VecR Z h a C xs) (E : Ext h h') : VecR Z h' a C xs := by obtain ⟨c, A, r⟩ := F; exact ⟨c, A.ext E, r⟩
theorem VecR.other (F : VecR Z h b C xs) (W : Wr h h' a sl v) (q : b ≠ a) : VecR Z h' b C xs := by obtain ⟨c, A, r⟩ := F; exact ⟨c, A.other W q, r⟩
theorem VecR.keep (F : VecR Z h a C xs) (K : Keep h h' ws) (q : a ∉ ws) : VecR Z h' a C xs := by obtain ⟨c, A, r⟩ := F; exact ⟨c, ⟨K.2.1 a c A.1 q, A.2⟩, r⟩
theorem VecR.vec (F : VecR Z h a C xs) : Vec Z h a (.object C) xs := by obtain ⟨c, A, r1, r2, -⟩ := F; exact ⟨c, A, r1, r2⟩
theorem VecR.set (F : VecR Z h a C xs) {i : Nat} (W : Wr h h' a i v) : VecR Z h' a C (xs.set i v) := by
  obtain ⟨c, A, rfl, r, o⟩ := F
  exact ⟨_, A.same W, by simp [Cell.setSlot], by simpa using r, o⟩
theorem clamp {j : Int32} {i : Nat} (hj : j.toInt = i) : j.toNatClampNeg = i ∧ ¬ j < 0 := by
  refine ⟨by simp [Int32.toNatClampNeg, hj], ?_⟩
  rw [Int32.lt_iff_toInt_lt, hj]; simp only [Int32.reduceToInt]; omega
end Vecs
def DV (Z : State) (h : Heap) (a : Addr) (xs : List UInt64) : Prop := Vec Z h a .double (xs.map Value.double)
theorem DV.lt {Z : State} {h : Heap} {a : Addr} {xs : List UInt64} (F : DV Z h a xs) : a < h.size := Vec.lt F
theorem DV.ext {Z : State} {h h' : Heap} {a : Addr} {xs : List UInt64} (F : DV Z h a xs) (E : Ext h h') : DV Z h' a xs := Vec.ext F E
theorem DV.other {Z : State} {h h' : Heap} {a b : Addr} {xs : List UInt64} {sl : Nat} {v : Value} (F : DV Z h b xs) (W : Wr h h' a sl v) (q : b ≠ a) : DV Z h' b xs := Vec.other F W q
theorem DV.keep {Z : State} {h h' : Heap} {a : Addr} {xs : List UInt64} {ws : List Addr} (F : DV Z h a xs) (K : Keep h h' ws) (q : a ∉ ws) : DV Z h' a xs := Vec.keep F K q
theorem DV.set {Z : State} {h h' : Heap} {a : Addr} {xs : List UInt64} {i : Nat} {x : UInt64} (F : DV Z h a xs) (W : Wr h h' a i (Value.double x)) : DV Z h' a (xs.set i x) := by
  have q := Vec.set F W
  rwa [← List.map_set] at q
def IV (Z : State) (h : Heap) (a : Addr) (xs : List Int32) : Prop := Vec Z h a .int (xs.map Value.int)
theorem IV.lt {Z : State} {h : Heap} {a : Addr} {xs : List Int32} (F : IV Z h a xs) : a < h.size := Vec.lt F
theorem IV.ext {Z : State} {h h' : Heap} {a : Addr} {xs : List Int32} (F : IV Z h a xs) (E : Ext h h') : IV Z h' a xs := Vec.ext F E
theorem IV.other {Z : State} {h h' : Heap} {a b : Addr} {xs : List Int32} {sl : Nat} {v : Value} (F : IV Z h b xs) (W : Wr h h' a sl v) (q : b ≠ a) : IV Z h' b xs := Vec.other F W q
theorem IV.keep {Z : State} {h h' : Heap} {a : Addr} {xs : List Int32} {ws : List Addr} (F : IV Z h a xs) (K : Keep h h' ws) (q : a ∉ ws) : IV Z h' a xs := Vec.keep F K q
theorem IV.set {Z : State} {h h' : Heap} {a : Addr} {xs : List Int32} {i : Nat} {x : Int32} (F : IV Z h a xs) (W : Wr h h' a i (Value.int x)) : IV Z h' a (xs.set i x) := by
  have q := Vec.set F W
  rwa [← List.map_set] at q
def JV (Z : State) (h : Heap) (a : Addr) (xs : List Int64) : Prop := Vec Z h a .long (xs.map Value.long)
theorem JV.lt {Z : State} {h : Heap} {a : Addr} {xs : List Int64} (F : JV Z h a xs) : a < h.size := Vec.lt F
theorem JV.ext {Z : State} {h h' : Heap} {a : Addr} {xs : List Int64} (F : JV Z h a xs) (E : Ext h h') : JV Z h' a xs := Vec.ext F E
theorem JV.other {Z : State} {h h' : Heap} {a b : Addr} {xs : List Int64} {sl : Nat} {v : Value} (F : JV Z h b xs) (W : Wr h h' a sl v) (q : b ≠ a) : JV Z h' b xs := Vec.other F W q
theorem JV.keep {Z : State} {h h' : Heap} {a : Addr} {xs : List Int64} {ws : List Addr} (F : JV Z h a xs) (K : Keep h h' ws) (q : a ∉ ws) : JV Z h' a xs := Vec.keep F K q
theorem JV.set {Z : State} {h h' : Heap} {a : Addr} {xs : List Int64} {i : Nat} {x : Int64} (F : JV Z h a xs) (W : Wr h h' a i (Value.long x)) : JV Z h' a (xs.set i x) := by
  have q := Vec.set F W
  rwa [← List.map_set] at q
def ZV (Z : State) (h : Heap) (a : Addr) (xs : List Int32) : Prop := Vec Z h a .boolean (xs.map Value.int)
theorem ZV.lt {Z : State} {h : Heap} {a : Addr} {xs : List Int32} (F : ZV Z h a xs) : a < h.size := Vec.lt F
theorem ZV.ext {Z : State} {h h' : Heap} {a : Addr} {xs : List Int32} (F : ZV Z h a xs) (E : Ext h h') : ZV Z h' a xs := Vec.ext F E
theorem ZV.other {Z : State} {h h' : Heap} {a b : Addr} {xs : List Int32} {sl : Nat} {v : Value} (F : ZV Z h b xs) (W : Wr h h' a sl v) (q : b ≠ a) : ZV Z h' b xs := Vec.other F W q
theorem ZV.keep {Z : State} {h h' : Heap} {a : Addr} {xs : List Int32} {ws : List Addr} (F : ZV Z h a xs) (K : Keep h h' ws) (q : a ∉ ws) : ZV Z h' a xs := Vec.keep F K q
theorem ZV.set {Z : State} {h h' : Heap} {a : Addr} {xs : List Int32} {i : Nat} {x : Int32} (F : ZV Z h a xs) (W : Wr h h' a i (Value.int x)) : ZV Z h' a (xs.set i x) := by
  have q := Vec.set F W
  rwa [← List.map_set] at q
theorem DV.new {Z : State} {h : Heap} {a : Addr} {N : Nat} (F : Vec Z h a (newarray.typeOf .double) (List.replicate N (defaultValue (newarray.typeOf .double)))) : DV Z h a (List.replicate N 0) := by
  unfold DV; rw [List.map_replicate]; exact F
theorem IV.new {Z : State} {h : Heap} {a : Addr} {N : Nat} (F : Vec Z h a (newarray.typeOf .int) (List.replicate N (defaultValue (newarray.typeOf .int)))) : IV Z h a (List.replicate N 0) := by
  unfold IV; rw [List.map_replicate]; exact F
theorem JV.new {Z : State} {h : Heap} {a : Addr} {N : Nat} (F : Vec Z h a (newarray.typeOf .long) (List.replicate N (defaultValue (newarray.typeOf .long)))) : JV Z h a (List.replicate N 0) := by
  unfold JV; rw [List.map_replicate]; exact F
theorem ZV.new {Z : State} {h : Heap} {a : Addr} {N : Nat} (F : Vec Z h a (newarray.typeOf .boolean) (List.replicate N (defaultValue (newarray.typeOf .boolean)))) : ZV Z h a (List.replicate N 0) := by
  unfold ZV; rw [List.map_replicate]; exact F
def HV (Z : State) (h : Heap) (a : Addr) (xs : List Nat) : Prop := Vec Z h a .int (xs.map (fun c : Nat => Value.int (Int32.ofNat c)))
theorem HV.lt {Z : State} {h : Heap} {a : Addr} {xs : List Nat} (F : HV Z h a xs) : a < h.size := Vec.lt F
theorem HV.ext {Z : State} {h h' : Heap} {a : Addr} {xs : List Nat} (F : HV Z h a xs) (E : Ext h h') : HV Z h' a xs := Vec.ext F E
theorem HV.other {Z : State} {h h' : Heap} {a b : Addr} {xs : List Nat} {sl : Nat} {v : Value} (F : HV Z h b xs) (W : Wr h h' a sl v) (q : b ≠ a) : HV Z h' b xs := Vec.other F W q
theorem HV.keep {Z : State} {h h' : Heap} {a : Addr} {xs : List Nat} {ws : List Addr} (F : HV Z h a xs) (K : Keep h h' ws) (q : a ∉ ws) : HV Z h' a xs := Vec.keep F K q
theorem HV.set {Z : State} {h h' : Heap} {a : Addr} {xs : List Nat} {i c : Nat} (F : HV Z h a xs) (W : Wr h h' a i (.int (Int32.ofNat c))) : HV Z h' a (xs.set i c) := by
  have q := Vec.set F W
  unfold HV
  rw [List.map_set]; exact q
theorem HV.new {Z : State} {h : Heap} {a : Addr} {N : Nat} (F : Vec Z h a (newarray.typeOf .int) (List.replicate N (defaultValue (newarray.typeOf .int)))) : HV Z h a (List.replicate N 0) := by
  unfold HV; rw [List.map_replicate]; exact F
theorem mapAt {α : Type} {f : α → Value} {xs : List α} {i : Nat} {x : α} (h : xs[i]? = some x) : (xs.map f)[i]? = some (f x) := by rw [List.getElem?_map, h]; rfl
theorem mapLt {α : Type} {f : α → Value} {xs : List α} {i : Nat} (h : i < xs.length) : i < (xs.map f).length := by rwa [List.length_map]
theorem getDAt {α : Type} {xs : List α} {i : Nat} {d : α} (h : i < xs.length) : xs[i]? = some (xs.getD i d) := by rw [List.getD_eq_getElem?_getD, List.getElem?_eq_getElem h]; rfl
section Walk2
variable {p : Program} {l : Launch} {e : Env} {R : Room} {s : State} {m : MethodId} {args : Array Value} {below : List Frame} {meth : Method} {c : Code} {Z : State} {a0 : Array Value} {own nm : String} {bytes : ByteArray} {ml : Nat} {ret : Option FieldType} {n0 ce sl pc pc' : Nat} {h : Heap} {Ls Ls' : Array Slot} {S : List Value} {Q : Option Value → Heap → Prop} {a : Addr} {ty : FieldType} {xs : List Value} {v : Value} {j : Int32} {i : Nat}
theorem inb {cl : Cell} (e1 : cl.slots.toList = xs) (hj : j.toInt = i) (hi : i < xs.length) : ¬ (j < 0 ∨ cl.slots.size ≤ j.toNatClampNeg) := by
  obtain ⟨q1, q2⟩ := clamp hj
  subst e1
  rw [q1]; simp at hi; intro q; rcases q with q | q
  · exact q2 q
  · omega
theorem inv {cl : Cell} (e1 : cl.slots.toList = xs) (hj : j.toInt = i) (hv : xs[i]? = some v) : cl.slots[j.toNatClampNeg]? = some v := by
  obtain ⟨q1, q2⟩ := clamp hj
  subst e1
  rw [q1]; simpa using hv
theorem ltOf (hv : xs[i]? = some v) : i < xs.length := (List.getElem?_eq_some_iff.mp hv).1
theorem iaload (K : Cx Z own nm bytes ml ret p s m meth c) (F : Vec Z h a .int xs) (hj : j.toInt = i) (hv : xs[i]? = some v) (hd : decode bytes pc = .ok (.iaload, 1)) (hp : pc + 1 = pc') (q : Go p l e R s m args below meth c n0 h ce sl (mkF m pc' Ls (v :: S)) Q) : Go p l e R s m args below meth c n0 h ce sl (mkF m pc Ls (.int j :: .ref a :: S)) Q := by
  subst hp; obtain ⟨cl, A, e1, e2⟩ := F
  exact one (fun T L X eT t => X.iaload K.1 (by rw [eT]; exact A.1) (State.isArrayOf_alike K.2.1.alike A.2.1) A.2.2 (inb e1 hj (ltOf hv)) (inv e1 hj hv) (g := mkF m pc Ls (.int j :: .ref a :: S)) rfl rfl (hb K.2.2.2.1 hd) t) q
theorem laload (K : Cx Z own nm bytes ml ret p s m meth c) (F : Vec Z h a .long xs) (hj : j.toInt = i) (hv : xs[i]? = some v) (hd : decode bytes pc = .ok (.laload, 1)) (hp : pc + 1 = pc') (q : Go p l e R s m args below meth c n0 h ce sl (mkF m pc' Ls (v :: S)) Q) : Go p l e R s m args below meth c n0 h ce sl (mkF m pc Ls (.int j :: .ref a :: S)) Q := by
  subst hp; obtain ⟨cl, A, e1, e2⟩ := F
  exact one (fun T L X eT t => X.laload K.1 (by rw [eT]; exact A.1) (State.isArrayOf_alike K.2.1.alike A.2.1) A.2.2 (inb e1 hj (ltOf hv)) (inv e1 hj hv) (g := mkF m pc Ls (.int j :: .ref a :: S)) rfl rfl (hb K.2.2.2.1 hd) t) q
theorem daload (K : Cx Z own nm bytes ml ret p s m meth c) (F : Vec Z h a .double xs) (hj : j.toInt = i) (hv : xs[i]? = some v) (hd : decode bytes pc = .ok (.daload, 1)) (hp : pc + 1 = pc') (q : Go p l e R s m args below meth c n0 h ce sl (mkF m pc' Ls (v :: S)) Q) : Go p l e R s m args below meth c n0 h ce sl (mkF m pc Ls (.int j :: .ref a :: S)) Q := by
  subst hp; obtain ⟨cl, A, e1, e2⟩ := F
  exact one (fun T L X eT t => X.daload K.1 (by rw [eT]; exact A.1) (State.isArrayOf_alike K.2.1.alike A.2.1) A.2.2 (inb e1 hj (ltOf hv)) (inv e1 hj hv) (g := mkF m pc Ls (.int j :: .ref a :: S)) rfl rfl (hb K.2.2.2.1 hd) t) q
theorem zaload (K : Cx Z own nm bytes ml ret p s m meth c) (F : Vec Z h a .boolean xs) (hj : j.toInt = i) (hv : xs[i]? = some v) (hd : decode bytes pc = .ok (.baload, 1)) (hp : pc + 1 = pc') (q : Go p l e R s m args below meth c n0 h ce sl (mkF m pc' Ls (v :: S)) Q) : Go p l e R s m args below meth c n0 h ce sl (mkF m pc Ls (.int j :: .ref a :: S)) Q := by
  subst hp; obtain ⟨cl, A, e1, e2⟩ := F
  exact one (fun T L X eT t => X.baloadBooleans K.1 (by rw [eT]; exact A.1) (State.isArrayOf_alike K.2.1.alike A.2.1) A.2.2 (inb e1 hj (ltOf hv)) (inv e1 hj hv) (g := mkF m pc Ls (.int j :: .ref a :: S)) rfl rfl (hb K.2.2.2.1 hd) t) q
theorem baload (K : Cx Z own nm bytes ml ret p s m meth c) (F : Vec Z h a .byte xs) (hj : j.toInt = i) (hv : xs[i]? = some v) (hd : decode bytes pc = .ok (.baload, 1)) (hp : pc + 1 = pc') (q : Go p l e R s m args below meth c n0 h ce sl (mkF m pc' Ls (v :: S)) Q) : Go p l e R s m args below meth c n0 h ce sl (mkF m pc Ls (.int j :: .ref a :: S)) Q := by
  subst hp; obtain ⟨cl, A, e1, e2⟩ := F
  exact one (fun T L X eT t => X.baloadBytes K.1 (by rw [eT]; exact A.1) (State.isArrayOf_alike K.2.1.alike A.2.1) A.2.2 (inb e1 hj (ltOf hv)) (inv e1 hj hv) (g := mkF m pc Ls (.int j :: .ref a :: S)) rfl rfl (hb K.2.2.2.1 hd) t) q
theorem aaload (K : Cx Z own nm bytes ml ret p s m meth c) (F : Vec Z h a ty xs) (ht : ty.isReference = true) (hj : j.toInt = i) (hv : xs[i]? = some v) (hd : decode bytes pc = .ok (.aaload, 1)) (hp : pc + 1 = pc') (q : Go p l e R s m args below meth c n0 h ce sl (mkF m pc' Ls (v :: S)) Q) : Go p l e R s m args below meth c n0 h ce sl (mkF m pc Ls (.int j :: .ref a :: S)) Q := by
  subst hp; obtain ⟨cl, A, e1, e2⟩ := F
  exact one (fun T L X eT t => X.aaload K.1 (by rw [eT]; exact A.1) (State.isArrayOf_alike K.2.1.alike A.2.1) ht A.2.2 (inb e1 hj (ltOf hv)) (inv e1 hj hv) (g := mkF m pc Ls (.int j :: .ref a :: S)) rfl rfl (hb K.2.2.2.1 hd) t) q
theorem alen (K : Cx Z own nm bytes ml ret p s m meth c) (F : Vec Z h a ty xs) (hd : decode bytes pc = .ok (.arraylength, 1)) (hp : pc + 1 = pc') (q : Go p l e R s m args below meth c n0 h ce sl (mkF m pc' Ls (.int xs.length.toInt32 :: S)) Q) : Go p l e R s m args below meth c n0 h ce sl (mkF m pc Ls (.ref a :: S)) Q := by
  subst hp; obtain ⟨cl, A, e1, e2⟩ := F
  have hz : cl.slots.size = xs.length := by rw [← e1]; simp
  rw [← hz] at q
  exact one (fun T L X eT t => X.arraylength K.1 (by rw [eT]; exact A.1) (State.isArrayOf_alike K.2.1.alike A.2.1) (g := mkF m pc Ls (.ref a :: S)) rfl rfl (hb K.2.2.2.1 hd) t) q
theorem iastore (K : Cx Z own nm bytes ml ret p s m meth c) {x : Int32} (F : Vec Z h a .int xs) (hj : j.toInt = i) (hi : i < xs.length) (ga : n0 ≤ a) (hd : decode bytes pc = .ok (.iastore, 1)) (hp : pc + 1 = pc') (q : ∀ h', Wr h h' a i (.int x) → Go p l e R s m args below meth c n0 h' ce sl (mkF m pc' Ls S) Q) : Go p l e R s m args below meth c n0 h ce sl (mkF m pc Ls (.int x :: .int j :: .ref a :: S)) Q := by
  subst hp; obtain ⟨cl, A, e1, e2⟩ := F
  intro T L0 X N eT
  obtain ⟨T', h', X', e', W, st⟩ := stI X K.1 K.2.1 eT A (inb e1 hj hi) (g := mkF m pc Ls (.int x :: .int j :: .ref a :: S)) rfl rfl (hb K.2.2.2.1 hd)
  rw [(clamp hj).1] at W
  obtain ⟨s₂, u, L', a1, r⟩ := q h' W T' _ X' (Fr.snoc X' N ga) e'
  exact ⟨s₂, u, L', st _ a1, r⟩
theorem lastore (K : Cx Z own nm bytes ml ret p s m meth c) {x : Int64} (F : Vec Z h a .long xs) (hj : j.toInt = i) (hi : i < xs.length) (ga : n0 ≤ a) (hd : decode bytes pc = .ok (.lastore, 1)) (hp : pc + 1 = pc') (q : ∀ h', Wr h h' a i (.long x) → Go p l e R s m args below meth c n0 h' ce sl (mkF m pc' Ls S) Q) : Go p l e R s m args below meth c n0 h ce sl (mkF m pc Ls (.long x :: .int j :: .ref a :: S)) Q := by
  subst hp; obtain ⟨cl, A, e1, e2⟩ := F
  intro T L0 X N eT
  obtain ⟨T', h', X', e', W, st⟩ := stJ X K.1 K.2.1 eT A (inb e1 hj hi) (g := mkF m pc Ls (.long x :: .int j :: .ref a :: S)) rfl rfl (hb K.2.2.2.1 hd)
  rw [(clamp hj).1] at W
  obtain ⟨s₂, u, L', a1, r⟩ := q h' W T' _ X' (Fr.snoc X' N ga) e'
  exact ⟨s₂, u, L', st _ a1, r⟩
theorem dastore (K : Cx Z own nm bytes ml ret p s m meth c) {x : UInt64} (F : Vec Z h a .double xs) (hj : j.toInt = i) (hi : i < xs.length) (ga : n0 ≤ a) (hd : decode bytes pc = .ok (.dastore, 1)) (hp : pc + 1 = pc') (q : ∀ h', Wr h h' a i (.double x) → Go p l e R s m args below meth c n0 h' ce sl (mkF m pc' Ls S) Q) : Go p l e R s m args below meth c n0 h ce sl (mkF m pc Ls (.double x :: .int j :: .ref a :: S)) Q := by
  subst hp; obtain ⟨cl, A, e1, e2⟩ := F
  intro T L0 X N eT
  obtain ⟨T', h', X', e', W, st⟩ := stD X K.1 K.2.1 eT A (inb e1 hj hi) (g := mkF m pc Ls (.double x :: .int j :: .ref a :: S)) rfl rfl (hb K.2.2.2.1 hd)
  rw [(clamp hj).1] at W
  obtain ⟨s₂, u, L', a1, r⟩ := q h' W T' _ X' (Fr.snoc X' N ga) e'
  exact ⟨s₂, u, L', st _ a1, r⟩
theorem zastore (K : Cx Z own nm bytes ml ret p s m meth c) {x : Int32} (F : Vec Z h a .boolean xs) (hj : j.toInt = i) (hi : i < xs.length) (ga : n0 ≤ a) (hd : decode bytes pc = .ok (.bastore, 1)) (hp : pc + 1 = pc') (q : ∀ h', Wr h h' a i (.int (nar .boolean x)) → Go p l e R s m args below meth c n0 h' ce sl (mkF m pc' Ls S) Q) : Go p l e R s m args below meth c n0 h ce sl (mkF m pc Ls (.int x :: .int j :: .ref a :: S)) Q := by
  subst hp; obtain ⟨cl, A, e1, e2⟩ := F
  intro T L0 X N eT
  obtain ⟨T', h', X', e', W, st⟩ := stZ X K.1 K.2.1 eT A (inb e1 hj hi) (g := mkF m pc Ls (.int x :: .int j :: .ref a :: S)) rfl rfl (hb K.2.2.2.1 hd)
  rw [(clamp hj).1] at W
  obtain ⟨s₂, u, L', a1, r⟩ := q h' W T' _ X' (Fr.snoc X' N ga) e'
  exact ⟨s₂, u, L', st _ a1, r⟩
theorem bastore (K : Cx Z own nm bytes ml ret p s m meth c) {x : Int32} (F : Vec Z h a .byte xs) (hj : j.toInt = i) (hi : i < xs.length) (ga : n0 ≤ a) (hd : decode bytes pc = .ok (.bastore, 1)) (hp : pc + 1 = pc') (q : ∀ h', Wr h h' a i (.int (nar .byte x)) → Go p l e R s m args below meth c n0 h' ce sl (mkF m pc' Ls S) Q) : Go p l e R s m args below meth c n0 h ce sl (mkF m pc Ls (.int x :: .int j :: .ref a :: S)) Q := by
  subst hp; obtain ⟨cl, A, e1, e2⟩ := F
  intro T L0 X N eT
  obtain ⟨T', h', X', e', W, st⟩ := stB X K.1 K.2.1 eT A (inb e1 hj hi) (g := mkF m pc Ls (.int x :: .int j :: .ref a :: S)) rfl rfl (hb K.2.2.2.1 hd)
  rw [(clamp hj).1] at W
  obtain ⟨s₂, u, L', a1, r⟩ := q h' W T' _ X' (Fr.snoc X' N ga) e'
  exact ⟨s₂, u, L', st _ a1, r⟩
theorem aastore (K : Cx Z own nm bytes ml ret p s m meth c) {C : String} (F : VecR Z h a C xs) (hS : v = .null ∨ ∃ y, v = .ref y ∧ Ins Z h y C true) (hj : j.toInt = i) (hi : i < xs.length) (ga : n0 ≤ a) (hd : decode bytes pc = .ok (.aastore, 1)) (hp : pc + 1 = pc') (q : ∀ h', Wr h h' a i v → Go p l e R s m args below meth c n0 h' ce sl (mkF m pc' Ls S) Q) : Go p l e R s m args below meth c n0 h ce sl (mkF m pc Ls (v :: .int j :: .ref a :: S)) Q := by
  subst hp; obtain ⟨cl, A, e1, e2, O⟩ := F
  intro T L0 X N eT
  have hSt : Sto Z h a v := by
    rcases hS with rfl | ⟨y, rfl, I⟩
    · exact Or.inl rfl
    · exact Sto.of A O I
  obtain ⟨T', h', X', e', W, st⟩ := stR X K.1 K.2.1 eT A (inb e1 hj hi) rfl hSt (g := mkF m pc Ls (v :: .int j :: .ref a :: S)) rfl rfl (hb K.2.2.2.1 hd)
  rw [(clamp hj).1] at W
  obtain ⟨s₂, u, L', a1, r⟩ := q h' W T' _ X' (Fr.snoc X' N ga) e'
  exact ⟨s₂, u, L', st _ a1, r⟩
theorem newArr (K : Cx Z own nm bytes ml ret p s m meth c) {aty : ArrayType} {n : Int32} {N : Nat} (w : (Cond.arrayClass (newarray.typeOf aty)).before a0 Z = true) (hn : n.toInt = N) (hb : N * 8 ≤ 536870912) (hd : decode bytes pc = .ok (.newarray aty, 2)) (hc : ce + 1 ≤ R.cells) (hl : sl + N ≤ R.slots) (hp : pc + 2 = pc') (q : ∀ h' x, x = h.size → Ext h h' → Vec Z h' x (newarray.typeOf aty) (List.replicate N (defaultValue (newarray.typeOf aty))) → Go p l e R s m args below meth c n0 h' (ce + 1) (sl + N) (mkF m pc' Ls (.ref x :: S)) Q) : Go p l e R s m args below meth c n0 h ce sl (mkF m pc Ls (.int n :: S)) Q := by
  subst hp
  obtain ⟨c1, c2⟩ := clamp hn
  intro T L0 X N0 eT
  obtain ⟨T', h', cA, X', e', E, A, st⟩ := newP X K.1 K.2.1 w eT (g := mkF m pc Ls (.int n :: S)) rfl (Jvm.hb K.2.2.2.1 hd) rfl c2 (cap := N) (Nat.le_of_eq c1) hb hc hl
  obtain ⟨s₂, u, L', a1, r⟩ := q h' h.size rfl E ⟨_, A, by simp [newA, c1], by simp; omega⟩ T' _ X' N0 e'
  exact ⟨s₂, u, L', st _ a1, r⟩
theorem newArrC (K : Cx Z own nm bytes ml ret p s m meth c) {aty : ArrayType} {n : Int32} {N cap : Nat} (w : (Cond.arrayClass (newarray.typeOf aty)).before a0 Z = true) (hn : n.toInt = N) (hcap : N ≤ cap) (hb : cap * 8 ≤ 536870912) (hd : decode bytes pc = .ok (.newarray aty, 2)) (hc : ce + 1 ≤ R.cells) (hl : sl + cap ≤ R.slots) (hp : pc + 2 = pc') (q : ∀ h' x, x = h.size → Ext h h' → Vec Z h' x (newarray.typeOf aty) (List.replicate N (defaultValue (newarray.typeOf aty))) → Go p l e R s m args below meth c n0 h' (ce + 1) (sl + cap) (mkF m pc' Ls (.ref x :: S)) Q) : Go p l e R s m args below meth c n0 h ce sl (mkF m pc Ls (.int n :: S)) Q := by
  subst hp
  obtain ⟨c1, c2⟩ := clamp hn
  intro T L0 X N0 eT
  obtain ⟨T', h', cA, X', e', E, A, st⟩ := newP X K.1 K.2.1 w eT (g := mkF m pc Ls (.int n :: S)) rfl (Jvm.hb K.2.2.2.1 hd) rfl c2 (cap := cap) (by omega) hb hc hl
  obtain ⟨s₂, u, L', a1, r⟩ := q h' h.size rfl E ⟨_, A, by simp [newA, c1], by simp; omega⟩ T' _ X' N0 e'
  exact ⟨s₂, u, L', st _ a1, r⟩
theorem newArrR (K : Cx Z own nm bytes ml ret p s m meth c) {k : Nat} {C : String} {n : Int32} {N : Nat} (w1 : (Cond.classLink own k C).before a0 Z = true) (w2 : (Cond.arrayOver (.object C)).before a0 Z = true) (hn : n.toInt = N) (hb : N * 8 ≤ 536870912) (hd : decode bytes pc = .ok (.anewarray k, 3)) (hc : ce + 1 ≤ R.cells) (hl : sl + N ≤ R.slots) (hp : pc + 3 = pc') (q : ∀ h' x, x = h.size → Ext h h' → VecR Z h' x C (List.replicate N .null) → Go p l e R s m args below meth c n0 h' (ce + 1) (sl + N) (mkF m pc' Ls (.ref x :: S)) Q) : Go p l e R s m args below meth c n0 h ce sl (mkF m pc Ls (.int n :: S)) Q := by
  subst hp
  obtain ⟨c1, c2⟩ := clamp hn
  intro T L0 X N0 eT
  obtain ⟨T', h', cA, X', e', E, A, O, st⟩ := newR X K.1 K.2.1 K.2.2.1 w1 w2 eT (g := mkF m pc Ls (.int n :: S)) rfl (Jvm.hb K.2.2.2.1 hd) rfl c2 (cap := N) (Nat.le_of_eq c1) hb hc hl
  obtain ⟨s₂, u, L', a1, r⟩ := q h' h.size rfl E ⟨_, A, by simp [newA, c1, defaultValue], by simp; omega, O⟩ T' _ X' N0 e'
  exact ⟨s₂, u, L', st _ a1, r⟩
theorem cast' (K : Cx Z own nm bytes ml ret p s m meth c) {k : Nat} {K' : String} (w : (Cond.classLink own k K').before a0 Z = true) (F : Ins Z h a K' true) (hd : decode bytes pc = .ok (.checkcast k, 3)) (hp : pc + 3 = pc') (q : Go p l e R s m args below meth c n0 h ce sl (mkF m pc' Ls (.ref a :: S)) Q) : Go p l e R s m args below meth c n0 h ce sl (mkF m pc Ls (.ref a :: S)) Q := by
  subst hp; exact oneT (fun T L X eT => castY X K.1 K.2.1 K.2.2.1 w eT F (g := mkF m pc Ls (.ref a :: S)) rfl rfl (hb K.2.2.2.1 hd)) q
end Walk2
/-- a body's walk is its contract -/
theorem ctr {l : Launch} {Z : State} {y : MethodName} {bytes : ByteArray} {ml : Nat} {ret : Option FieldType} {ws : List Cond} {rm : Room} {n0 : Nat} {as' : Array Value} {h : Heap} {Q : Option Value → Heap → Prop} {own nm : String} (ho : y.cls = own) (hn : y.name = nm) {Ls : Array Slot} (hpl : plainFor y = true) (hef : ∀ m : MethodId, entryFrame m as' ml = mkF m 0 Ls [])
    (body : ∀ (p : Program) (e : Env) (s : State) (m : MethodId) (below : List Frame) (meth : Method) (c : Code), Cx Z own nm bytes ml ret p s m meth c → s.heap = h → Go p l e rm s m as' below meth c n0 h 0 0 (mkF m 0 Ls []) Q) : Ctr l Z y bytes ml ret ws rm n0 as' h Q := by
  subst ho hn
  refine MetFree.of_bodySF hpl hisR ?_
  intro p e s m args below meth c s₁ Bd hml hP hK
  obtain ⟨rfl, hZ, hh⟩ := hP
  have X0 : Stand p l e rm s m _ below meth c s₁ [] 0 0 := Stand.of_body Bd
  have e0 : s₁.heap = h := by rw [← hh, Bd.state]; rfl
  obtain ⟨s₂, v, L', a1, a2, a3, a4, a5, a6⟩ := body p e s m below meth c ⟨Bd.exec, hZ, findClass_of_methodNamed Bd.named, Bd.bytes, hml, Bd.returns, BodyLoose.notSynchronized Bd, (name_of_methodNamed Bd.named Bd.method).1⟩ hh s₁ [] X0 (Fr.nil n0) e0
  exact ⟨s₂, _, castTop (hef m) a1, a2, a3, v, L', rfl, ⟨a5, a4⟩, a6⟩
/-- a term that the case sets equal to a double -/
theorem eqD {args : Array Value} {first s : State} {o : Option Outcome} {idx : List Nat} {a b : Term} {n : UInt64} (h : (Cond.eq a b).value args first o s idx = some true) (hb : b.eval args first o idx s = some (.double n)) : a.eval args first o idx s = some (.double n) := by
  simp only [Cond.value, hb] at h
  cases ha : a.eval args first o idx s with
  | none => simp [ha] at h
  | some x => cases x <;> simp [ha] at h ⊢; exact h
/-- a term that the case sets equal to a reference -/
theorem eqR {args : Array Value} {first s : State} {o : Option Outcome} {idx : List Nat} {a b : Term} {n : Addr} (h : (Cond.eq a b).value args first o s idx = some true) (hb : b.eval args first o idx s = some (.ref n)) : a.eval args first o idx s = some (.ref n) := by
  simp only [Cond.value, hb] at h
  cases ha : a.eval args first o idx s with
  | none => simp [ha] at h
  | some x => cases x <;> simp [ha] at h ⊢; exact h
theorem eqI {args : Array Value} {first s : State} {o : Option Outcome} {idx : List Nat} {a b : Term} {n : Int32} (h : (Cond.eq a b).value args first o s idx = some true) (hb : b.eval args first o idx s = some (.int n)) : a.eval args first o idx s = some (.int n) := by
  simp only [Cond.value, hb] at h
  cases ha : a.eval args first o idx s with
  | none => simp [ha] at h
  | some x => cases x <;> simp [ha] at h ⊢; exact h
/-! the branch behind a comparison of doubles -/
def dge (r : Option Ordering) : Prop := r = some .eq ∨ r = some .gt
def dle (r : Option Ordering) : Prop := r = some .lt ∨ r = some .eq
section Dd
variable {r : Option Ordering}
theorem dd_l_eq_t (h : r = some .eq) : ifCond.holds .eq (cmpValue r .l) = true := by
  revert h; try unfold dge
  try unfold dle
  rcases r with _ | (_ | _ | _) <;> decide
theorem dd_l_eq_f (h : ¬ r = some .eq) : ifCond.holds .eq (cmpValue r .l) = false := by
  revert h; try unfold dge
  try unfold dle
  rcases r with _ | (_ | _ | _) <;> decide
theorem dd_l_ne_t (h : ¬ r = some .eq) : ifCond.holds .ne (cmpValue r .l) = true := by
  revert h; try unfold dge
  try unfold dle
  rcases r with _ | (_ | _ | _) <;> decide
theorem dd_l_ne_f (h : r = some .eq) : ifCond.holds .ne (cmpValue r .l) = false := by
  revert h; try unfold dge
  try unfold dle
  rcases r with _ | (_ | _ | _) <;> decide
theorem dd_l_lt_t (h : ¬ dge r) : ifCond.holds .lt (cmpValue r .l) = true := by
  revert h; try unfold dge
  try unfold dle
  rcases r with _ | (_ | _ | _) <;> decide
theorem dd_l_lt_f (h : dge r) : ifCond.holds .lt (cmpValue r .l) = false := by
  revert h; try unfold dge
  try unfold dle
  rcases r with _ | (_ | _ | _) <;> decide
theorem dd_l_ge_t (h : dge r) : ifCond.holds .ge (cmpValue r .l) = true := by
  revert h; try unfold dge
  try unfold dle
  rcases r with _ | (_ | _ | _) <;> decide
theorem dd_l_ge_f (h : ¬ dge r) : ifCond.holds .ge (cmpValue r .l) = false := by
  revert h; try unfold dge
  try unfold dle
  rcases r with _ | (_ | _ | _) <;> decide
theorem dd_l_gt_t (h : r = some .gt) : ifCond.holds .gt (cmpValue r .l) = true := by
  revert h; try unfold dge
  try unfold dle
  rcases r with _ | (_ | _ | _) <;> decide
theorem dd_l_gt_f (h : ¬ r = some .gt) : ifCond.holds .gt (cmpValue r .l) = false := by
  revert h; try unfold dge
  try unfold dle
  rcases r with _ | (_ | _ | _) <;> decide
theorem dd_l_le_t (h : ¬ r = some .gt) : ifCond.holds .le (cmpValue r .l) = true := by
  revert h; try unfold dge
  try unfold dle
  rcases r with _ | (_ | _ | _) <;> decide
theorem dd_l_le_f (h : r = some .gt) : ifCond.holds .le (cmpValue r .l) = false := by
  revert h; try unfold dge
  try unfold dle
  rcases r with _ | (_ | _ | _) <;> decide
theorem dd_g_eq_t (h : r = some .eq) : ifCond.holds .eq (cmpValue r .g) = true := by
  revert h; try unfold dge
  try unfold dle
  rcases r with _ | (_ | _ | _) <;> decide
theorem dd_g_eq_f (h : ¬ r = some .eq) : ifCond.holds .eq (cmpValue r .g) = false := by
  revert h; try unfold dge
  try unfold dle
  rcases r with _ | (_ | _ | _) <;> decide
theorem dd_g_ne_t (h : ¬ r = some .eq) : ifCond.holds .ne (cmpValue r .g) = true := by
  revert h; try unfold dge
  try unfold dle
  rcases r with _ | (_ | _ | _) <;> decide
theorem dd_g_ne_f (h : r = some .eq) : ifCond.holds .ne (cmpValue r .g) = false := by
  revert h; try unfold dge
  try unfold dle
  rcases r with _ | (_ | _ | _) <;> decide
theorem dd_g_lt_t (h : r = some .lt) : ifCond.holds .lt (cmpValue r .g) = true := by
  revert h; try unfold dge
  try unfold dle
  rcases r with _ | (_ | _ | _) <;> decide
theorem dd_g_lt_f (h : ¬ r = some .lt) : ifCond.holds .lt (cmpValue r .g) = false := by
  revert h; try unfold dge
  try unfold dle
  rcases r with _ | (_ | _ | _) <;> decide
theorem dd_g_ge_t (h : ¬ r = some .lt) : ifCond.holds .ge (cmpValue r .g) = true := by
  revert h; try unfold dge
  try unfold dle
  rcases r with _ | (_ | _ | _) <;> decide
theorem dd_g_ge_f (h : r = some .lt) : ifCond.holds .ge (cmpValue r .g) = false := by
  revert h; try unfold dge
  try unfold dle
  rcases r with _ | (_ | _ | _) <;> decide
theorem dd_g_gt_t (h : ¬ dle r) : ifCond.holds .gt (cmpValue r .g) = true := by
  revert h; try unfold dge
  try unfold dle
  rcases r with _ | (_ | _ | _) <;> decide
theorem dd_g_gt_f (h : dle r) : ifCond.holds .gt (cmpValue r .g) = false := by
  revert h; try unfold dge
  try unfold dle
  rcases r with _ | (_ | _ | _) <;> decide
theorem dd_g_le_t (h : dle r) : ifCond.holds .le (cmpValue r .g) = true := by
  revert h; try unfold dge
  try unfold dle
  rcases r with _ | (_ | _ | _) <;> decide
theorem dd_g_le_f (h : ¬ dle r) : ifCond.holds .le (cmpValue r .g) = false := by
  revert h; try unfold dge
  try unfold dle
  rcases r with _ | (_ | _ | _) <;> decide
end Dd
end Jvm.OwnWp
namespace Jvm.Pilot.@@N@@
open Jvm Jvm.ClassFile Sem Op Lib Jvm.Free Jvm.Stand Jvm.LawKit Jvm.RoadKit Bundle Jvm.Pilot.@@N@@.Jvm.D Jvm.OwnWp

theorem d_jdk_117_method_19_0 : decode jdk_117_method_19_code 0 = .ok (.aload_n 0, 1) := by decide +kernel
theorem d_jdk_117_method_19_1 : decode jdk_117_method_19_code 1 = .ok (.getfield 118, 3) := by decide +kernel
theorem d_jdk_117_method_19_4 : decode jdk_117_method_19_code 4 = .ok (.dreturn, 1) := by decide +kernel
theorem d_jdk_117_method_4_0 : decode jdk_117_method_4_code 0 = .ok (.new 1, 3) := by decide +kernel
theorem d_jdk_117_method_4_3 : decode jdk_117_method_4_code 3 = .ok (.dup, 1) := by decide +kernel
theorem d_jdk_117_method_4_4 : decode jdk_117_method_4_code 4 = .ok (.dload_n 0, 1) := by decide +kernel
theorem d_jdk_117_method_4_5 : decode jdk_117_method_4_code 5 = .ok (.invokespecial 105, 3) := by decide +kernel
theorem d_jdk_117_method_4_8 : decode jdk_117_method_4_code 8 = .ok (.areturn, 1) := by decide +kernel
theorem d_jdk_117_method_9_0 : decode jdk_117_method_9_code 0 = .ok (.aload_n 0, 1) := by decide +kernel
theorem d_jdk_117_method_9_1 : decode jdk_117_method_9_code 1 = .ok (.invokespecial 113, 3) := by decide +kernel
theorem d_jdk_117_method_9_4 : decode jdk_117_method_9_code 4 = .ok (.aload_n 0, 1) := by decide +kernel
theorem d_jdk_117_method_9_5 : decode jdk_117_method_9_code 5 = .ok (.dload_n 1, 1) := by decide +kernel
theorem d_jdk_117_method_9_6 : decode jdk_117_method_9_code 6 = .ok (.putfield 118, 3) := by decide +kernel
theorem d_jdk_117_method_9_9 : decode jdk_117_method_9_code 9 = .ok (.return_, 1) := by decide +kernel
theorem d_jdk_18_method_1_0 : decode jdk_18_method_1_code 0 = .ok (.aload_n 0, 1) := by decide +kernel
theorem d_jdk_18_method_1_1 : decode jdk_18_method_1_code 1 = .ok (.invokespecial 1, 3) := by decide +kernel
theorem d_jdk_18_method_1_4 : decode jdk_18_method_1_code 4 = .ok (.return_, 1) := by decide +kernel
theorem d_jdk_22_method_1_0 : decode jdk_22_method_1_code 0 = .ok (.aload_n 0, 1) := by decide +kernel
theorem d_jdk_22_method_1_1 : decode jdk_22_method_1_code 1 = .ok (.invokespecial 1, 3) := by decide +kernel
theorem d_jdk_22_method_1_4 : decode jdk_22_method_1_code 4 = .ok (.return_, 1) := by decide +kernel
theorem d_jdk_29_method_65_0 : decode jdk_29_method_65_code 0 = .ok (.iload_n 0, 1) := by decide +kernel
theorem d_jdk_29_method_65_1 : decode jdk_29_method_65_code 1 = .ok (.iload_n 1, 1) := by decide +kernel
theorem d_jdk_29_method_65_2 : decode jdk_29_method_65_code 2 = .ok (.if_icmp .lt 7, 3) := by decide +kernel
theorem d_jdk_29_method_65_5 : decode jdk_29_method_65_code 5 = .ok (.iload_n 0, 1) := by decide +kernel
theorem d_jdk_29_method_65_6 : decode jdk_29_method_65_code 6 = .ok (.goto 4, 3) := by decide +kernel
theorem d_jdk_29_method_65_9 : decode jdk_29_method_65_code 9 = .ok (.iload_n 1, 1) := by decide +kernel
theorem d_jdk_29_method_65_10 : decode jdk_29_method_65_code 10 = .ok (.ireturn, 1) := by decide +kernel
theorem d_jdk_30_method_1_0 : decode jdk_30_method_1_code 0 = .ok (.aload_n 0, 1) := by decide +kernel
theorem d_jdk_30_method_1_1 : decode jdk_30_method_1_code 1 = .ok (.invokespecial 1, 3) := by decide +kernel
theorem d_jdk_30_method_1_4 : decode jdk_30_method_1_code 4 = .ok (.return_, 1) := by decide +kernel
theorem d_jdk_31_method_17_0 : decode jdk_31_method_17_code 0 = .ok (.iload_n 0, 1) := by decide +kernel
theorem d_jdk_31_method_17_1 : decode jdk_31_method_17_code 1 = .ok (.iload_n 1, 1) := by decide +kernel
theorem d_jdk_31_method_17_2 : decode jdk_31_method_17_code 2 = .ok (.aconst_null, 1) := by decide +kernel
theorem d_jdk_31_method_17_3 : decode jdk_31_method_17_code 3 = .ok (.invokestatic 105, 3) := by decide +kernel
theorem d_jdk_31_method_17_6 : decode jdk_31_method_17_code 6 = .ok (.ireturn, 1) := by decide +kernel
theorem d_jdk_38_method_18_0 : decode jdk_38_method_18_code 0 = .ok (.aload_n 0, 1) := by decide +kernel
theorem d_jdk_38_method_18_1 : decode jdk_38_method_18_code 1 = .ok (.getfield 9, 3) := by decide +kernel
theorem d_jdk_38_method_18_4 : decode jdk_38_method_18_code 4 = .ok (.iload_n 1, 1) := by decide +kernel
theorem d_jdk_38_method_18_5 : decode jdk_38_method_18_code 5 = .ok (.aaload, 1) := by decide +kernel
theorem d_jdk_38_method_18_6 : decode jdk_38_method_18_code 6 = .ok (.areturn, 1) := by decide +kernel
theorem d_jdk_38_method_20_0 : decode jdk_38_method_20_code 0 = .ok (.iload_n 1, 1) := by decide +kernel
theorem d_jdk_38_method_20_1 : decode jdk_38_method_20_code 1 = .ok (.aload_n 0, 1) := by decide +kernel
theorem d_jdk_38_method_20_2 : decode jdk_38_method_20_code 2 = .ok (.getfield 48, 3) := by decide +kernel
theorem d_jdk_38_method_20_5 : decode jdk_38_method_20_code 5 = .ok (.invokestatic 118, 3) := by decide +kernel
theorem d_jdk_38_method_20_8 : decode jdk_38_method_20_code 8 = .ok (.pop, 1) := by decide +kernel
theorem d_jdk_38_method_20_9 : decode jdk_38_method_20_code 9 = .ok (.aload_n 0, 1) := by decide +kernel
theorem d_jdk_38_method_20_10 : decode jdk_38_method_20_code 10 = .ok (.iload_n 1, 1) := by decide +kernel
theorem d_jdk_38_method_20_11 : decode jdk_38_method_20_code 11 = .ok (.invokevirtual 123, 3) := by decide +kernel
theorem d_jdk_38_method_20_14 : decode jdk_38_method_20_code 14 = .ok (.areturn, 1) := by decide +kernel
theorem d_jdk_38_method_24_0 : decode jdk_38_method_24_code 0 = .ok (.iload_n 3, 1) := by decide +kernel
theorem d_jdk_38_method_24_1 : decode jdk_38_method_24_code 1 = .ok (.aload_n 2, 1) := by decide +kernel
theorem d_jdk_38_method_24_2 : decode jdk_38_method_24_code 2 = .ok (.arraylength, 1) := by decide +kernel
theorem d_jdk_38_method_24_3 : decode jdk_38_method_24_code 3 = .ok (.if_icmp .ne 8, 3) := by decide +kernel
theorem d_jdk_38_method_24_6 : decode jdk_38_method_24_code 6 = .ok (.aload_n 0, 1) := by decide +kernel
theorem d_jdk_38_method_24_7 : decode jdk_38_method_24_code 7 = .ok (.invokevirtual 129, 3) := by decide +kernel
theorem d_jdk_38_method_24_10 : decode jdk_38_method_24_code 10 = .ok (.astore_n 2, 1) := by decide +kernel
theorem d_jdk_38_method_24_11 : decode jdk_38_method_24_code 11 = .ok (.aload_n 2, 1) := by decide +kernel
theorem d_jdk_38_method_24_12 : decode jdk_38_method_24_code 12 = .ok (.iload_n 3, 1) := by decide +kernel
theorem d_jdk_38_method_24_13 : decode jdk_38_method_24_code 13 = .ok (.aload_n 1, 1) := by decide +kernel
theorem d_jdk_38_method_24_14 : decode jdk_38_method_24_code 14 = .ok (.aastore, 1) := by decide +kernel
theorem d_jdk_38_method_24_15 : decode jdk_38_method_24_code 15 = .ok (.aload_n 0, 1) := by decide +kernel
theorem d_jdk_38_method_24_16 : decode jdk_38_method_24_code 16 = .ok (.iload_n 3, 1) := by decide +kernel
theorem d_jdk_38_method_24_17 : decode jdk_38_method_24_code 17 = .ok (.iconst 1, 1) := by decide +kernel
theorem d_jdk_38_method_24_18 : decode jdk_38_method_24_code 18 = .ok (.iadd, 1) := by decide +kernel
theorem d_jdk_38_method_24_19 : decode jdk_38_method_24_code 19 = .ok (.putfield 48, 3) := by decide +kernel
theorem d_jdk_38_method_24_22 : decode jdk_38_method_24_code 22 = .ok (.return_, 1) := by decide +kernel
theorem d_jdk_38_method_25_0 : decode jdk_38_method_25_code 0 = .ok (.aload_n 0, 1) := by decide +kernel
theorem d_jdk_38_method_25_1 : decode jdk_38_method_25_code 1 = .ok (.dup, 1) := by decide +kernel
theorem d_jdk_38_method_25_2 : decode jdk_38_method_25_code 2 = .ok (.getfield 63, 3) := by decide +kernel
theorem d_jdk_38_method_25_5 : decode jdk_38_method_25_code 5 = .ok (.iconst 1, 1) := by decide +kernel
theorem d_jdk_38_method_25_6 : decode jdk_38_method_25_code 6 = .ok (.iadd, 1) := by decide +kernel
theorem d_jdk_38_method_25_7 : decode jdk_38_method_25_code 7 = .ok (.putfield 63, 3) := by decide +kernel
theorem d_jdk_38_method_25_10 : decode jdk_38_method_25_code 10 = .ok (.aload_n 0, 1) := by decide +kernel
theorem d_jdk_38_method_25_11 : decode jdk_38_method_25_code 11 = .ok (.aload_n 1, 1) := by decide +kernel
theorem d_jdk_38_method_25_12 : decode jdk_38_method_25_code 12 = .ok (.aload_n 0, 1) := by decide +kernel
theorem d_jdk_38_method_25_13 : decode jdk_38_method_25_code 13 = .ok (.getfield 9, 3) := by decide +kernel
theorem d_jdk_38_method_25_16 : decode jdk_38_method_25_code 16 = .ok (.aload_n 0, 1) := by decide +kernel
theorem d_jdk_38_method_25_17 : decode jdk_38_method_25_code 17 = .ok (.getfield 48, 3) := by decide +kernel
theorem d_jdk_38_method_25_20 : decode jdk_38_method_25_code 20 = .ok (.invokevirtual 131, 3) := by decide +kernel
theorem d_jdk_38_method_25_23 : decode jdk_38_method_25_code 23 = .ok (.iconst 1, 1) := by decide +kernel
theorem d_jdk_38_method_25_24 : decode jdk_38_method_25_code 24 = .ok (.ireturn, 1) := by decide +kernel
theorem d_jdk_38_method_2_0 : decode jdk_38_method_2_code 0 = .ok (.aload_n 0, 1) := by decide +kernel
theorem d_jdk_38_method_2_1 : decode jdk_38_method_2_code 1 = .ok (.invokespecial 1, 3) := by decide +kernel
theorem d_jdk_38_method_2_4 : decode jdk_38_method_2_code 4 = .ok (.aload_n 0, 1) := by decide +kernel
theorem d_jdk_38_method_2_5 : decode jdk_38_method_2_code 5 = .ok (.getstatic 39, 3) := by decide +kernel
theorem d_jdk_38_method_2_8 : decode jdk_38_method_2_code 8 = .ok (.putfield 9, 3) := by decide +kernel
theorem d_jdk_38_method_2_11 : decode jdk_38_method_2_code 11 = .ok (.return_, 1) := by decide +kernel
theorem d_jdk_38_method_6_0 : decode jdk_38_method_6_code 0 = .ok (.aload_n 0, 1) := by decide +kernel
theorem d_jdk_38_method_6_1 : decode jdk_38_method_6_code 1 = .ok (.getfield 9, 3) := by decide +kernel
theorem d_jdk_38_method_6_4 : decode jdk_38_method_6_code 4 = .ok (.arraylength, 1) := by decide +kernel
theorem d_jdk_38_method_6_5 : decode jdk_38_method_6_code 5 = .ok (.istore_n 2, 1) := by decide +kernel
theorem d_jdk_38_method_6_6 : decode jdk_38_method_6_code 6 = .ok (.iload_n 2, 1) := by decide +kernel
theorem d_jdk_38_method_6_7 : decode jdk_38_method_6_code 7 = .ok (.ifCond .gt 13, 3) := by decide +kernel
theorem d_jdk_38_method_6_10 : decode jdk_38_method_6_code 10 = .ok (.aload_n 0, 1) := by decide +kernel
theorem d_jdk_38_method_6_11 : decode jdk_38_method_6_code 11 = .ok (.getfield 9, 3) := by decide +kernel
theorem d_jdk_38_method_6_14 : decode jdk_38_method_6_code 14 = .ok (.getstatic 39, 3) := by decide +kernel
theorem d_jdk_38_method_6_17 : decode jdk_38_method_6_code 17 = .ok (.if_acmp .eq 28, 3) := by decide +kernel
theorem d_jdk_38_method_6_45 : decode jdk_38_method_6_code 45 = .ok (.aload_n 0, 1) := by decide +kernel
theorem d_jdk_38_method_6_46 : decode jdk_38_method_6_code 46 = .ok (.bipush 10, 2) := by decide +kernel
theorem d_jdk_38_method_6_48 : decode jdk_38_method_6_code 48 = .ok (.iload_n 1, 1) := by decide +kernel
theorem d_jdk_38_method_6_49 : decode jdk_38_method_6_code 49 = .ok (.invokestatic 79, 3) := by decide +kernel
theorem d_jdk_38_method_6_52 : decode jdk_38_method_6_code 52 = .ok (.anewarray 7, 3) := by decide +kernel
theorem d_jdk_38_method_6_55 : decode jdk_38_method_6_code 55 = .ok (.dup_x1, 1) := by decide +kernel
theorem d_jdk_38_method_6_56 : decode jdk_38_method_6_code 56 = .ok (.putfield 9, 3) := by decide +kernel
theorem d_jdk_38_method_6_59 : decode jdk_38_method_6_code 59 = .ok (.areturn, 1) := by decide +kernel
theorem d_jdk_38_method_7_0 : decode jdk_38_method_7_code 0 = .ok (.aload_n 0, 1) := by decide +kernel
theorem d_jdk_38_method_7_1 : decode jdk_38_method_7_code 1 = .ok (.aload_n 0, 1) := by decide +kernel
theorem d_jdk_38_method_7_2 : decode jdk_38_method_7_code 2 = .ok (.getfield 48, 3) := by decide +kernel
theorem d_jdk_38_method_7_5 : decode jdk_38_method_7_code 5 = .ok (.iconst 1, 1) := by decide +kernel
theorem d_jdk_38_method_7_6 : decode jdk_38_method_7_code 6 = .ok (.iadd, 1) := by decide +kernel
theorem d_jdk_38_method_7_7 : decode jdk_38_method_7_code 7 = .ok (.invokevirtual 69, 3) := by decide +kernel
theorem d_jdk_38_method_7_10 : decode jdk_38_method_7_code 10 = .ok (.areturn, 1) := by decide +kernel
theorem d_jdk_38_method_8_0 : decode jdk_38_method_8_code 0 = .ok (.aload_n 0, 1) := by decide +kernel
theorem d_jdk_38_method_8_1 : decode jdk_38_method_8_code 1 = .ok (.getfield 48, 3) := by decide +kernel
theorem d_jdk_38_method_8_4 : decode jdk_38_method_8_code 4 = .ok (.ireturn, 1) := by decide +kernel
theorem d_jdk_39_method_1_0 : decode jdk_39_method_1_code 0 = .ok (.aload_n 0, 1) := by decide +kernel
theorem d_jdk_39_method_1_1 : decode jdk_39_method_1_code 1 = .ok (.invokespecial 1, 3) := by decide +kernel
theorem d_jdk_39_method_1_4 : decode jdk_39_method_1_code 4 = .ok (.aload_n 0, 1) := by decide +kernel
theorem d_jdk_39_method_1_5 : decode jdk_39_method_1_code 5 = .ok (.iconst 0, 1) := by decide +kernel
theorem d_jdk_39_method_1_6 : decode jdk_39_method_1_code 6 = .ok (.putfield 7, 3) := by decide +kernel
theorem d_jdk_39_method_1_9 : decode jdk_39_method_1_code 9 = .ok (.return_, 1) := by decide +kernel
theorem d_jdk_41_method_11_0 : decode jdk_41_method_11_code 0 = .ok (.iload_n 0, 1) := by decide +kernel
theorem d_jdk_41_method_11_1 : decode jdk_41_method_11_code 1 = .ok (.ifCond .lt 8, 3) := by decide +kernel
theorem d_jdk_41_method_11_4 : decode jdk_41_method_11_code 4 = .ok (.iload_n 0, 1) := by decide +kernel
theorem d_jdk_41_method_11_5 : decode jdk_41_method_11_code 5 = .ok (.iload_n 1, 1) := by decide +kernel
theorem d_jdk_41_method_11_6 : decode jdk_41_method_11_code 6 = .ok (.if_icmp .lt 10, 3) := by decide +kernel
theorem d_jdk_41_method_11_16 : decode jdk_41_method_11_code 16 = .ok (.iload_n 0, 1) := by decide +kernel
theorem d_jdk_41_method_11_17 : decode jdk_41_method_11_code 17 = .ok (.ireturn, 1) := by decide +kernel
theorem d_prog_16_method_1_0 : decode prog_16_method_1_code 0 = .ok (.aload_n 0, 1) := by decide +kernel
theorem d_prog_16_method_1_1 : decode prog_16_method_1_code 1 = .ok (.invokespecial 1, 3) := by decide +kernel
theorem d_prog_16_method_1_4 : decode prog_16_method_1_code 4 = .ok (.aload_n 0, 1) := by decide +kernel
theorem d_prog_16_method_1_5 : decode prog_16_method_1_code 5 = .ok (.aload_n 1, 1) := by decide +kernel
theorem d_prog_16_method_1_6 : decode prog_16_method_1_code 6 = .ok (.putfield 7, 3) := by decide +kernel
theorem d_prog_16_method_1_9 : decode prog_16_method_1_code 9 = .ok (.aload_n 0, 1) := by decide +kernel
theorem d_prog_16_method_1_10 : decode prog_16_method_1_code 10 = .ok (.aload_n 2, 1) := by decide +kernel
theorem d_prog_16_method_1_11 : decode prog_16_method_1_code 11 = .ok (.putfield 13, 3) := by decide +kernel
theorem d_prog_16_method_1_14 : decode prog_16_method_1_code 14 = .ok (.aload_n 0, 1) := by decide +kernel
theorem d_prog_16_method_1_15 : decode prog_16_method_1_code 15 = .ok (.aload_n 3, 1) := by decide +kernel
theorem d_prog_16_method_1_16 : decode prog_16_method_1_code 16 = .ok (.putfield 16, 3) := by decide +kernel
theorem d_prog_16_method_1_19 : decode prog_16_method_1_code 19 = .ok (.aload_n 0, 1) := by decide +kernel
theorem d_prog_16_method_1_20 : decode prog_16_method_1_code 20 = .ok (.dload 4, 2) := by decide +kernel
theorem d_prog_16_method_1_22 : decode prog_16_method_1_code 22 = .ok (.putfield 19, 3) := by decide +kernel
theorem d_prog_16_method_1_25 : decode prog_16_method_1_code 25 = .ok (.return_, 1) := by decide +kernel
theorem d_prog_16_method_5_0 : decode prog_16_method_5_code 0 = .ok (.aload_n 0, 1) := by decide +kernel
theorem d_prog_16_method_5_1 : decode prog_16_method_5_code 1 = .ok (.getfield 16, 3) := by decide +kernel
theorem d_prog_16_method_5_4 : decode prog_16_method_5_code 4 = .ok (.aload_n 0, 1) := by decide +kernel
theorem d_prog_16_method_5_5 : decode prog_16_method_5_code 5 = .ok (.getfield 16, 3) := by decide +kernel
theorem d_prog_16_method_5_8 : decode prog_16_method_5_code 8 = .ok (.invokeinterface 27 1, 5) := by decide +kernel
theorem d_prog_16_method_5_13 : decode prog_16_method_5_code 13 = .ok (.iconst 1, 1) := by decide +kernel
theorem d_prog_16_method_5_14 : decode prog_16_method_5_code 14 = .ok (.isub, 1) := by decide +kernel
theorem d_prog_16_method_5_15 : decode prog_16_method_5_code 15 = .ok (.invokeinterface 33 2, 5) := by decide +kernel
theorem d_prog_16_method_5_20 : decode prog_16_method_5_code 20 = .ok (.checkcast 37, 3) := by decide +kernel
theorem d_prog_16_method_5_23 : decode prog_16_method_5_code 23 = .ok (.invokevirtual 39, 3) := by decide +kernel
theorem d_prog_16_method_5_26 : decode prog_16_method_5_code 26 = .ok (.dreturn, 1) := by decide +kernel
theorem wd0 {a0 : Array Value} {Z : State} (hw : ∀ d ∈ tables_1, d.before a0 Z = true) : Jvm.Cond.before (Jvm.Cond.classLink "com/example/tarifa/tarifa/pricing/SessionMenuBlockingProbabilityPinLaw" (7 : Nat) "java/util/ArrayList") a0 Z = true := hw _ (List.mem_of_getElem? (i := 0) rfl)
theorem wd1 {a0 : Array Value} {Z : State} (hw : ∀ d ∈ tables_1, d.before a0 Z = true) : Jvm.Cond.before (Jvm.Cond.instantiable "java/util/ArrayList" (3 : Nat)) a0 Z = true := hw _ (List.mem_of_getElem? (i := 1) rfl)
theorem wd2 {a0 : Array Value} {Z : State} (hw : ∀ d ∈ tables_1, d.before a0 Z = true) : Jvm.Cond.before (Jvm.Cond.initialized "java/util/ArrayList") a0 Z = true := hw _ (List.mem_of_getElem? (i := 2) rfl)
theorem wd3 {a0 : Array Value} {Z : State} (hw : ∀ d ∈ tables_1, d.before a0 Z = true) : Jvm.Cond.before (Jvm.Cond.methodLink "com/example/tarifa/tarifa/pricing/SessionMenuBlockingProbabilityPinLaw" (9 : Nat) ({ cls := "java/util/ArrayList", name := "<init>", desc := "()V" } : Jvm.MethodName)) a0 Z = true := hw _ (List.mem_of_getElem? (i := 3) rfl)
theorem wd4 {a0 : Array Value} {Z : State} (hw : ∀ d ∈ tables_1, d.before a0 Z = true) : Jvm.Cond.before (Jvm.Cond.instanceMethod ({ cls := "java/util/ArrayList", name := "<init>", desc := "()V" } : Jvm.MethodName)) a0 Z = true := hw _ (List.mem_of_getElem? (i := 4) rfl)
theorem wd5 {a0 : Array Value} {Z : State} (hw : ∀ d ∈ tables_1, d.before a0 Z = true) : Jvm.Cond.before (Jvm.Cond.code ({ cls := "java/util/ArrayList", name := "<init>", desc := "()V" } : Jvm.MethodName) jdk_38_method_2_code (1 : Nat) (Option.none : Option Jvm.ClassFile.FieldType)) a0 Z = true := hw _ (List.mem_of_getElem? (i := 5) rfl)
theorem wd6 {a0 : Array Value} {Z : State} (hw : ∀ d ∈ tables_1, d.before a0 Z = true) : Jvm.Cond.before (Jvm.Cond.methodLink "java/util/ArrayList" (1 : Nat) ({ cls := "java/util/AbstractList", name := "<init>", desc := "()V" } : Jvm.MethodName)) a0 Z = true := hw _ (List.mem_of_getElem? (i := 6) rfl)
theorem wd7 {a0 : Array Value} {Z : State} (hw : ∀ d ∈ tables_1, d.before a0 Z = true) : Jvm.Cond.before (Jvm.Cond.instanceMethod ({ cls := "java/util/AbstractList", name := "<init>", desc := "()V" } : Jvm.MethodName)) a0 Z = true := hw _ (List.mem_of_getElem? (i := 7) rfl)
theorem wd10 {a0 : Array Value} {Z : State} (hw : ∀ d ∈ tables_1, d.before a0 Z = true) : Jvm.Cond.before (Jvm.Cond.initialized "java/util/AbstractList") a0 Z = true := hw _ (List.mem_of_getElem? (i := 10) rfl)
theorem wd11 {a0 : Array Value} {Z : State} (hw : ∀ d ∈ tables_1, d.before a0 Z = true) : Jvm.Cond.before (Jvm.Cond.code ({ cls := "java/util/AbstractList", name := "<init>", desc := "()V" } : Jvm.MethodName) jdk_39_method_1_code (1 : Nat) (Option.none : Option Jvm.ClassFile.FieldType)) a0 Z = true := hw _ (List.mem_of_getElem? (i := 11) rfl)
theorem wd12 {a0 : Array Value} {Z : State} (hw : ∀ d ∈ tables_1, d.before a0 Z = true) : Jvm.Cond.before (Jvm.Cond.methodLink "java/util/AbstractList" (1 : Nat) ({ cls := "java/util/AbstractCollection", name := "<init>", desc := "()V" } : Jvm.MethodName)) a0 Z = true := hw _ (List.mem_of_getElem? (i := 12) rfl)
theorem wd13 {a0 : Array Value} {Z : State} (hw : ∀ d ∈ tables_1, d.before a0 Z = true) : Jvm.Cond.before (Jvm.Cond.instanceMethod ({ cls := "java/util/AbstractCollection", name := "<init>", desc := "()V" } : Jvm.MethodName)) a0 Z = true := hw _ (List.mem_of_getElem? (i := 13) rfl)
theorem wd16 {a0 : Array Value} {Z : State} (hw : ∀ d ∈ tables_1, d.before a0 Z = true) : Jvm.Cond.before (Jvm.Cond.initialized "java/util/AbstractCollection") a0 Z = true := hw _ (List.mem_of_getElem? (i := 16) rfl)
theorem wd17 {a0 : Array Value} {Z : State} (hw : ∀ d ∈ tables_1, d.before a0 Z = true) : Jvm.Cond.before (Jvm.Cond.code ({ cls := "java/util/AbstractCollection", name := "<init>", desc := "()V" } : Jvm.MethodName) jdk_22_method_1_code (1 : Nat) (Option.none : Option Jvm.ClassFile.FieldType)) a0 Z = true := hw _ (List.mem_of_getElem? (i := 17) rfl)
theorem wd18 {a0 : Array Value} {Z : State} (hw : ∀ d ∈ tables_1, d.before a0 Z = true) : Jvm.Cond.before (Jvm.Cond.methodLink "java/util/AbstractCollection" (1 : Nat) ({ cls := "java/lang/Object", name := "<init>", desc := "()V" } : Jvm.MethodName)) a0 Z = true := hw _ (List.mem_of_getElem? (i := 18) rfl)
theorem wd19 {a0 : Array Value} {Z : State} (hw : ∀ d ∈ tables_1, d.before a0 Z = true) : Jvm.Cond.before (Jvm.Cond.instanceMethod ({ cls := "java/lang/Object", name := "<init>", desc := "()V" } : Jvm.MethodName)) a0 Z = true := hw _ (List.mem_of_getElem? (i := 19) rfl)
theorem wd20 {a0 : Array Value} {Z : State} (hw : ∀ d ∈ tables_1, d.before a0 Z = true) : Jvm.Cond.before (Jvm.Cond.code ({ cls := "java/lang/Object", name := "<init>", desc := "()V" } : Jvm.MethodName) object_method_1_code (1 : Nat) (Option.none : Option Jvm.ClassFile.FieldType)) a0 Z = true := hw _ (List.mem_of_getElem? (i := 20) rfl)
theorem wd21 {a0 : Array Value} {Z : State} (hw : ∀ d ∈ tables_1, d.before a0 Z = true) : Jvm.Cond.before (Jvm.Cond.fieldLink "java/util/AbstractList" (7 : Nat) "java/util/AbstractList" "modCount" "I") a0 Z = true := hw _ (List.mem_of_getElem? (i := 21) rfl)
theorem wd22 {a0 : Array Value} {Z : State} (hw : ∀ d ∈ tables_1, d.before a0 Z = true) : Jvm.Cond.before (Jvm.Cond.lays "java/util/ArrayList" "java/util/AbstractList" "modCount" "I") a0 Z = true := hw _ (List.mem_of_getElem? (i := 22) rfl)
theorem wd23 {a0 : Array Value} {Z : State} (hw : ∀ d ∈ tables_1, d.before a0 Z = true) : Jvm.Cond.before (Jvm.Cond.fieldLink "java/util/ArrayList" (39 : Nat) "java/util/ArrayList" "DEFAULTCAPACITY_EMPTY_ELEMENTDATA" "[Ljava/lang/Object;") a0 Z = true := hw _ (List.mem_of_getElem? (i := 23) rfl)
theorem wd24 {a0 : Array Value} {Z : State} (hw : ∀ d ∈ tables_1, d.before a0 Z = true) : Jvm.Cond.before (Jvm.Cond.fieldLink "java/util/ArrayList" (9 : Nat) "java/util/ArrayList" "elementData" "[Ljava/lang/Object;") a0 Z = true := hw _ (List.mem_of_getElem? (i := 24) rfl)
theorem wd25 {a0 : Array Value} {Z : State} (hw : ∀ d ∈ tables_1, d.before a0 Z = true) : Jvm.Cond.before (Jvm.Cond.lays "java/util/ArrayList" "java/util/ArrayList" "elementData" "[Ljava/lang/Object;") a0 Z = true := hw _ (List.mem_of_getElem? (i := 25) rfl)
theorem wd26 {a0 : Array Value} {Z : State} (hw : ∀ d ∈ tables_1, d.before a0 Z = true) : Jvm.Cond.before (Jvm.Cond.methodLink "com/example/tarifa/tarifa/pricing/SessionMenuBlockingProbabilityPinLaw" (10 : Nat) ({ cls := "java/lang/Double", name := "valueOf", desc := "(D)Ljava/lang/Double;" } : Jvm.MethodName)) a0 Z = true := hw _ (List.mem_of_getElem? (i := 26) rfl)
theorem wd27 {a0 : Array Value} {Z : State} (hw : ∀ d ∈ tables_1, d.before a0 Z = true) : Jvm.Cond.before (Jvm.Cond.static ({ cls := "java/lang/Double", name := "valueOf", desc := "(D)Ljava/lang/Double;" } : Jvm.MethodName)) a0 Z = true := hw _ (List.mem_of_getElem? (i := 27) rfl)
theorem wd28 {a0 : Array Value} {Z : State} (hw : ∀ d ∈ tables_1, d.before a0 Z = true) : Jvm.Cond.before (Jvm.Cond.initialized "java/lang/Double") a0 Z = true := hw _ (List.mem_of_getElem? (i := 28) rfl)
theorem wd29 {a0 : Array Value} {Z : State} (hw : ∀ d ∈ tables_1, d.before a0 Z = true) : Jvm.Cond.before (Jvm.Cond.code ({ cls := "java/lang/Double", name := "valueOf", desc := "(D)Ljava/lang/Double;" } : Jvm.MethodName) jdk_117_method_4_code (2 : Nat) (Option.some (Jvm.ClassFile.FieldType.object "java/lang/Double"))) a0 Z = true := hw _ (List.mem_of_getElem? (i := 29) rfl)
theorem wd30 {a0 : Array Value} {Z : State} (hw : ∀ d ∈ tables_1, d.before a0 Z = true) : Jvm.Cond.before (Jvm.Cond.classLink "java/lang/Double" (1 : Nat) "java/lang/Double") a0 Z = true := hw _ (List.mem_of_getElem? (i := 30) rfl)
theorem wd31 {a0 : Array Value} {Z : State} (hw : ∀ d ∈ tables_1, d.before a0 Z = true) : Jvm.Cond.before (Jvm.Cond.instantiable "java/lang/Double" (1 : Nat)) a0 Z = true := hw _ (List.mem_of_getElem? (i := 31) rfl)
theorem wd32 {a0 : Array Value} {Z : State} (hw : ∀ d ∈ tables_1, d.before a0 Z = true) : Jvm.Cond.before (Jvm.Cond.methodLink "java/lang/Double" (105 : Nat) ({ cls := "java/lang/Double", name := "<init>", desc := "(D)V" } : Jvm.MethodName)) a0 Z = true := hw _ (List.mem_of_getElem? (i := 32) rfl)
theorem wd33 {a0 : Array Value} {Z : State} (hw : ∀ d ∈ tables_1, d.before a0 Z = true) : Jvm.Cond.before (Jvm.Cond.instanceMethod ({ cls := "java/lang/Double", name := "<init>", desc := "(D)V" } : Jvm.MethodName)) a0 Z = true := hw _ (List.mem_of_getElem? (i := 33) rfl)
theorem wd35 {a0 : Array Value} {Z : State} (hw : ∀ d ∈ tables_1, d.before a0 Z = true) : Jvm.Cond.before (Jvm.Cond.code ({ cls := "java/lang/Double", name := "<init>", desc := "(D)V" } : Jvm.MethodName) jdk_117_method_9_code (3 : Nat) (Option.none : Option Jvm.ClassFile.FieldType)) a0 Z = true := hw _ (List.mem_of_getElem? (i := 35) rfl)
theorem wd36 {a0 : Array Value} {Z : State} (hw : ∀ d ∈ tables_1, d.before a0 Z = true) : Jvm.Cond.before (Jvm.Cond.methodLink "java/lang/Double" (113 : Nat) ({ cls := "java/lang/Number", name := "<init>", desc := "()V" } : Jvm.MethodName)) a0 Z = true := hw _ (List.mem_of_getElem? (i := 36) rfl)
theorem wd37 {a0 : Array Value} {Z : State} (hw : ∀ d ∈ tables_1, d.before a0 Z = true) : Jvm.Cond.before (Jvm.Cond.instanceMethod ({ cls := "java/lang/Number", name := "<init>", desc := "()V" } : Jvm.MethodName)) a0 Z = true := hw _ (List.mem_of_getElem? (i := 37) rfl)
theorem wd40 {a0 : Array Value} {Z : State} (hw : ∀ d ∈ tables_1, d.before a0 Z = true) : Jvm.Cond.before (Jvm.Cond.initialized "java/lang/Number") a0 Z = true := hw _ (List.mem_of_getElem? (i := 40) rfl)
theorem wd41 {a0 : Array Value} {Z : State} (hw : ∀ d ∈ tables_1, d.before a0 Z = true) : Jvm.Cond.before (Jvm.Cond.code ({ cls := "java/lang/Number", name := "<init>", desc := "()V" } : Jvm.MethodName) jdk_18_method_1_code (1 : Nat) (Option.none : Option Jvm.ClassFile.FieldType)) a0 Z = true := hw _ (List.mem_of_getElem? (i := 41) rfl)
theorem wd42 {a0 : Array Value} {Z : State} (hw : ∀ d ∈ tables_1, d.before a0 Z = true) : Jvm.Cond.before (Jvm.Cond.methodLink "java/lang/Number" (1 : Nat) ({ cls := "java/lang/Object", name := "<init>", desc := "()V" } : Jvm.MethodName)) a0 Z = true := hw _ (List.mem_of_getElem? (i := 42) rfl)
theorem wd43 {a0 : Array Value} {Z : State} (hw : ∀ d ∈ tables_1, d.before a0 Z = true) : Jvm.Cond.before (Jvm.Cond.fieldLink "java/lang/Double" (118 : Nat) "java/lang/Double" "value" "D") a0 Z = true := hw _ (List.mem_of_getElem? (i := 43) rfl)
theorem wd44 {a0 : Array Value} {Z : State} (hw : ∀ d ∈ tables_1, d.before a0 Z = true) : Jvm.Cond.before (Jvm.Cond.laysFinal "java/lang/Double" "java/lang/Double" "value" "D") a0 Z = true := hw _ (List.mem_of_getElem? (i := 44) rfl)
theorem wd45 {a0 : Array Value} {Z : State} (hw : ∀ d ∈ tables_1, d.before a0 Z = true) : Jvm.Cond.before (Jvm.Cond.methodLink "com/example/tarifa/tarifa/pricing/SessionMenuBlockingProbabilityPinLaw" (16 : Nat) ({ cls := "java/util/ArrayList", name := "add", desc := "(Ljava/lang/Object;)Z" } : Jvm.MethodName)) a0 Z = true := hw _ (List.mem_of_getElem? (i := 45) rfl)
theorem wd46 {a0 : Array Value} {Z : State} (hw : ∀ d ∈ tables_1, d.before a0 Z = true) : Jvm.Cond.before (Jvm.Cond.declares ({ cls := "java/util/ArrayList", name := "add", desc := "(Ljava/lang/Object;)Z" } : Jvm.MethodName)) a0 Z = true := hw _ (List.mem_of_getElem? (i := 46) rfl)
theorem wd47 {a0 : Array Value} {Z : State} (hw : ∀ d ∈ tables_1, d.before a0 Z = true) : Jvm.Cond.before (Jvm.Cond.instanceMethod ({ cls := "java/util/ArrayList", name := "add", desc := "(Ljava/lang/Object;)Z" } : Jvm.MethodName)) a0 Z = true := hw _ (List.mem_of_getElem? (i := 47) rfl)
theorem wd48 {a0 : Array Value} {Z : State} (hw : ∀ d ∈ tables_1, d.before a0 Z = true) : Jvm.Cond.before (Jvm.Cond.selects "java/util/ArrayList" ({ cls := "java/util/ArrayList", name := "add", desc := "(Ljava/lang/Object;)Z" } : Jvm.MethodName) ({ cls := "java/util/ArrayList", name := "add", desc := "(Ljava/lang/Object;)Z" } : Jvm.MethodName)) a0 Z = true := hw _ (List.mem_of_getElem? (i := 48) rfl)
theorem wd49 {a0 : Array Value} {Z : State} (hw : ∀ d ∈ tables_1, d.before a0 Z = true) : Jvm.Cond.before (Jvm.Cond.code ({ cls := "java/util/ArrayList", name := "add", desc := "(Ljava/lang/Object;)Z" } : Jvm.MethodName) jdk_38_method_25_code (2 : Nat) (Option.some Jvm.ClassFile.FieldType.boolean)) a0 Z = true := hw _ (List.mem_of_getElem? (i := 49) rfl)
theorem wd50 {a0 : Array Value} {Z : State} (hw : ∀ d ∈ tables_1, d.before a0 Z = true) : Jvm.Cond.before (Jvm.Cond.fieldLink "java/util/ArrayList" (63 : Nat) "java/util/ArrayList" "modCount" "I") a0 Z = true := hw _ (List.mem_of_getElem? (i := 50) rfl)
theorem wd51 {a0 : Array Value} {Z : State} (hw : ∀ d ∈ tables_1, d.before a0 Z = true) : Jvm.Cond.before (Jvm.Cond.sameField "java/util/ArrayList" "java/util/AbstractList" "modCount" "I") a0 Z = true := hw _ (List.mem_of_getElem? (i := 51) rfl)
theorem wd52 {a0 : Array Value} {Z : State} (hw : ∀ d ∈ tables_1, d.before a0 Z = true) : Jvm.Cond.before (Jvm.Cond.fieldLink "java/util/ArrayList" (48 : Nat) "java/util/ArrayList" "size" "I") a0 Z = true := hw _ (List.mem_of_getElem? (i := 52) rfl)
theorem wd53 {a0 : Array Value} {Z : State} (hw : ∀ d ∈ tables_1, d.before a0 Z = true) : Jvm.Cond.before (Jvm.Cond.lays "java/util/ArrayList" "java/util/ArrayList" "size" "I") a0 Z = true := hw _ (List.mem_of_getElem? (i := 53) rfl)
theorem wd54 {a0 : Array Value} {Z : State} (hw : ∀ d ∈ tables_1, d.before a0 Z = true) : Jvm.Cond.before (Jvm.Cond.methodLink "java/util/ArrayList" (131 : Nat) ({ cls := "java/util/ArrayList", name := "add", desc := "(Ljava/lang/Object;[Ljava/lang/Object;I)V" } : Jvm.MethodName)) a0 Z = true := hw _ (List.mem_of_getElem? (i := 54) rfl)
theorem wd55 {a0 : Array Value} {Z : State} (hw : ∀ d ∈ tables_1, d.before a0 Z = true) : Jvm.Cond.before (Jvm.Cond.instanceMethod ({ cls := "java/util/ArrayList", name := "add", desc := "(Ljava/lang/Object;[Ljava/lang/Object;I)V" } : Jvm.MethodName)) a0 Z = true := hw _ (List.mem_of_getElem? (i := 55) rfl)
theorem wd56 {a0 : Array Value} {Z : State} (hw : ∀ d ∈ tables_1, d.before a0 Z = true) : Jvm.Cond.before (Jvm.Cond.privateMethod ({ cls := "java/util/ArrayList", name := "add", desc := "(Ljava/lang/Object;[Ljava/lang/Object;I)V" } : Jvm.MethodName)) a0 Z = true := hw _ (List.mem_of_getElem? (i := 56) rfl)
theorem wd58 {a0 : Array Value} {Z : State} (hw : ∀ d ∈ tables_1, d.before a0 Z = true) : Jvm.Cond.before (Jvm.Cond.code ({ cls := "java/util/ArrayList", name := "add", desc := "(Ljava/lang/Object;[Ljava/lang/Object;I)V" } : Jvm.MethodName) jdk_38_method_24_code (4 : Nat) (Option.none : Option Jvm.ClassFile.FieldType)) a0 Z = true := hw _ (List.mem_of_getElem? (i := 58) rfl)
theorem wd59 {a0 : Array Value} {Z : State} (hw : ∀ d ∈ tables_1, d.before a0 Z = true) : Jvm.Cond.before (Jvm.Cond.methodLink "java/util/ArrayList" (129 : Nat) ({ cls := "java/util/ArrayList", name := "grow", desc := "()[Ljava/lang/Object;" } : Jvm.MethodName)) a0 Z = true := hw _ (List.mem_of_getElem? (i := 59) rfl)
theorem wd60 {a0 : Array Value} {Z : State} (hw : ∀ d ∈ tables_1, d.before a0 Z = true) : Jvm.Cond.before (Jvm.Cond.instanceMethod ({ cls := "java/util/ArrayList", name := "grow", desc := "()[Ljava/lang/Object;" } : Jvm.MethodName)) a0 Z = true := hw _ (List.mem_of_getElem? (i := 60) rfl)
theorem wd61 {a0 : Array Value} {Z : State} (hw : ∀ d ∈ tables_1, d.before a0 Z = true) : Jvm.Cond.before (Jvm.Cond.privateMethod ({ cls := "java/util/ArrayList", name := "grow", desc := "()[Ljava/lang/Object;" } : Jvm.MethodName)) a0 Z = true := hw _ (List.mem_of_getElem? (i := 61) rfl)
theorem wd63 {a0 : Array Value} {Z : State} (hw : ∀ d ∈ tables_1, d.before a0 Z = true) : Jvm.Cond.before (Jvm.Cond.code ({ cls := "java/util/ArrayList", name := "grow", desc := "()[Ljava/lang/Object;" } : Jvm.MethodName) jdk_38_method_7_code (1 : Nat) (Option.some (Jvm.ClassFile.FieldType.array (Jvm.ClassFile.FieldType.object "java/lang/Object")))) a0 Z = true := hw _ (List.mem_of_getElem? (i := 63) rfl)
theorem wd64 {a0 : Array Value} {Z : State} (hw : ∀ d ∈ tables_1, d.before a0 Z = true) : Jvm.Cond.before (Jvm.Cond.methodLink "java/util/ArrayList" (69 : Nat) ({ cls := "java/util/ArrayList", name := "grow", desc := "(I)[Ljava/lang/Object;" } : Jvm.MethodName)) a0 Z = true := hw _ (List.mem_of_getElem? (i := 64) rfl)
theorem wd65 {a0 : Array Value} {Z : State} (hw : ∀ d ∈ tables_1, d.before a0 Z = true) : Jvm.Cond.before (Jvm.Cond.instanceMethod ({ cls := "java/util/ArrayList", name := "grow", desc := "(I)[Ljava/lang/Object;" } : Jvm.MethodName)) a0 Z = true := hw _ (List.mem_of_getElem? (i := 65) rfl)
theorem wd66 {a0 : Array Value} {Z : State} (hw : ∀ d ∈ tables_1, d.before a0 Z = true) : Jvm.Cond.before (Jvm.Cond.privateMethod ({ cls := "java/util/ArrayList", name := "grow", desc := "(I)[Ljava/lang/Object;" } : Jvm.MethodName)) a0 Z = true := hw _ (List.mem_of_getElem? (i := 66) rfl)
theorem wd68 {a0 : Array Value} {Z : State} (hw : ∀ d ∈ tables_1, d.before a0 Z = true) : Jvm.Cond.before (Jvm.Cond.code ({ cls := "java/util/ArrayList", name := "grow", desc := "(I)[Ljava/lang/Object;" } : Jvm.MethodName) jdk_38_method_6_code (4 : Nat) (Option.some (Jvm.ClassFile.FieldType.array (Jvm.ClassFile.FieldType.object "java/lang/Object")))) a0 Z = true := hw _ (List.mem_of_getElem? (i := 68) rfl)
theorem wd69 {a0 : Array Value} {Z : State} (hw : ∀ d ∈ tables_1, d.before a0 Z = true) : Jvm.Cond.before (Jvm.Cond.methodLink "java/util/ArrayList" (79 : Nat) ({ cls := "java/lang/Math", name := "max", desc := "(II)I" } : Jvm.MethodName)) a0 Z = true := hw _ (List.mem_of_getElem? (i := 69) rfl)
theorem wd70 {a0 : Array Value} {Z : State} (hw : ∀ d ∈ tables_1, d.before a0 Z = true) : Jvm.Cond.before (Jvm.Cond.static ({ cls := "java/lang/Math", name := "max", desc := "(II)I" } : Jvm.MethodName)) a0 Z = true := hw _ (List.mem_of_getElem? (i := 70) rfl)
theorem wd71 {a0 : Array Value} {Z : State} (hw : ∀ d ∈ tables_1, d.before a0 Z = true) : Jvm.Cond.before (Jvm.Cond.initialized "java/lang/Math") a0 Z = true := hw _ (List.mem_of_getElem? (i := 71) rfl)
theorem wd72 {a0 : Array Value} {Z : State} (hw : ∀ d ∈ tables_1, d.before a0 Z = true) : Jvm.Cond.before (Jvm.Cond.code ({ cls := "java/lang/Math", name := "max", desc := "(II)I" } : Jvm.MethodName) jdk_29_method_65_code (2 : Nat) (Option.some Jvm.ClassFile.FieldType.int)) a0 Z = true := hw _ (List.mem_of_getElem? (i := 72) rfl)
theorem wd73 {a0 : Array Value} {Z : State} (hw : ∀ d ∈ tables_1, d.before a0 Z = true) : Jvm.Cond.before (Jvm.Cond.classLink "java/util/ArrayList" (7 : Nat) "java/lang/Object") a0 Z = true := hw _ (List.mem_of_getElem? (i := 73) rfl)
theorem wd74 {a0 : Array Value} {Z : State} (hw : ∀ d ∈ tables_1, d.before a0 Z = true) : Jvm.Cond.before (Jvm.Cond.arrayOver (Jvm.ClassFile.FieldType.object "java/lang/Object")) a0 Z = true := hw _ (List.mem_of_getElem? (i := 74) rfl)
theorem wd75 {a0 : Array Value} {Z : State} (hw : ∀ d ∈ tables_1, d.before a0 Z = true) : Jvm.Cond.before (Jvm.Cond.castable "java/lang/Double" "java/lang/Object") a0 Z = true := hw _ (List.mem_of_getElem? (i := 75) rfl)
theorem wd76 {a0 : Array Value} {Z : State} (hw : ∀ d ∈ tables_1, d.before a0 Z = true) : Jvm.Cond.before (Jvm.Cond.classLink "com/example/tarifa/tarifa/pricing/SessionMenuBlockingProbabilityPinLaw" (20 : Nat) "com/example/tarifa/tarifa/pricing/SessionMenu") a0 Z = true := hw _ (List.mem_of_getElem? (i := 76) rfl)
theorem wd77 {a0 : Array Value} {Z : State} (hw : ∀ d ∈ tables_1, d.before a0 Z = true) : Jvm.Cond.before (Jvm.Cond.instantiable "com/example/tarifa/tarifa/pricing/SessionMenu" (4 : Nat)) a0 Z = true := hw _ (List.mem_of_getElem? (i := 77) rfl)
theorem wd78 {a0 : Array Value} {Z : State} (hw : ∀ d ∈ tables_1, d.before a0 Z = true) : Jvm.Cond.before (Jvm.Cond.initialized "com/example/tarifa/tarifa/pricing/SessionMenu") a0 Z = true := hw _ (List.mem_of_getElem? (i := 78) rfl)
theorem wd79 {a0 : Array Value} {Z : State} (hw : ∀ d ∈ tables_1, d.before a0 Z = true) : Jvm.Cond.before (Jvm.Cond.methodLink "com/example/tarifa/tarifa/pricing/SessionMenuBlockingProbabilityPinLaw" (22 : Nat) ({ cls := "com/example/tarifa/tarifa/pricing/SessionMenu", name := "<init>", desc := "(Ljava/util/List;Ljava/util/List;Ljava/util/List;D)V" } : Jvm.MethodName)) a0 Z = true := hw _ (List.mem_of_getElem? (i := 79) rfl)
theorem wd80 {a0 : Array Value} {Z : State} (hw : ∀ d ∈ tables_1, d.before a0 Z = true) : Jvm.Cond.before (Jvm.Cond.instanceMethod ({ cls := "com/example/tarifa/tarifa/pricing/SessionMenu", name := "<init>", desc := "(Ljava/util/List;Ljava/util/List;Ljava/util/List;D)V" } : Jvm.MethodName)) a0 Z = true := hw _ (List.mem_of_getElem? (i := 80) rfl)
theorem wd81 {a0 : Array Value} {Z : State} (hw : ∀ d ∈ tables_1, d.before a0 Z = true) : Jvm.Cond.before (Jvm.Cond.code ({ cls := "com/example/tarifa/tarifa/pricing/SessionMenu", name := "<init>", desc := "(Ljava/util/List;Ljava/util/List;Ljava/util/List;D)V" } : Jvm.MethodName) prog_16_method_1_code (6 : Nat) (Option.none : Option Jvm.ClassFile.FieldType)) a0 Z = true := hw _ (List.mem_of_getElem? (i := 81) rfl)
theorem wd82 {a0 : Array Value} {Z : State} (hw : ∀ d ∈ tables_1, d.before a0 Z = true) : Jvm.Cond.before (Jvm.Cond.methodLink "com/example/tarifa/tarifa/pricing/SessionMenu" (1 : Nat) ({ cls := "java/lang/Record", name := "<init>", desc := "()V" } : Jvm.MethodName)) a0 Z = true := hw _ (List.mem_of_getElem? (i := 82) rfl)
theorem wd83 {a0 : Array Value} {Z : State} (hw : ∀ d ∈ tables_1, d.before a0 Z = true) : Jvm.Cond.before (Jvm.Cond.instanceMethod ({ cls := "java/lang/Record", name := "<init>", desc := "()V" } : Jvm.MethodName)) a0 Z = true := hw _ (List.mem_of_getElem? (i := 83) rfl)
theorem wd85 {a0 : Array Value} {Z : State} (hw : ∀ d ∈ tables_1, d.before a0 Z = true) : Jvm.Cond.before (Jvm.Cond.initialized "java/lang/Record") a0 Z = true := hw _ (List.mem_of_getElem? (i := 85) rfl)
theorem wd86 {a0 : Array Value} {Z : State} (hw : ∀ d ∈ tables_1, d.before a0 Z = true) : Jvm.Cond.before (Jvm.Cond.code ({ cls := "java/lang/Record", name := "<init>", desc := "()V" } : Jvm.MethodName) jdk_30_method_1_code (1 : Nat) (Option.none : Option Jvm.ClassFile.FieldType)) a0 Z = true := hw _ (List.mem_of_getElem? (i := 86) rfl)
theorem wd87 {a0 : Array Value} {Z : State} (hw : ∀ d ∈ tables_1, d.before a0 Z = true) : Jvm.Cond.before (Jvm.Cond.methodLink "java/lang/Record" (1 : Nat) ({ cls := "java/lang/Object", name := "<init>", desc := "()V" } : Jvm.MethodName)) a0 Z = true := hw _ (List.mem_of_getElem? (i := 87) rfl)
theorem wd88 {a0 : Array Value} {Z : State} (hw : ∀ d ∈ tables_1, d.before a0 Z = true) : Jvm.Cond.before (Jvm.Cond.fieldLink "com/example/tarifa/tarifa/pricing/SessionMenu" (7 : Nat) "com/example/tarifa/tarifa/pricing/SessionMenu" "prices" "Ljava/util/List;") a0 Z = true := hw _ (List.mem_of_getElem? (i := 88) rfl)
theorem wd89 {a0 : Array Value} {Z : State} (hw : ∀ d ∈ tables_1, d.before a0 Z = true) : Jvm.Cond.before (Jvm.Cond.laysFinal "com/example/tarifa/tarifa/pricing/SessionMenu" "com/example/tarifa/tarifa/pricing/SessionMenu" "prices" "Ljava/util/List;") a0 Z = true := hw _ (List.mem_of_getElem? (i := 89) rfl)
theorem wd90 {a0 : Array Value} {Z : State} (hw : ∀ d ∈ tables_1, d.before a0 Z = true) : Jvm.Cond.before (Jvm.Cond.fieldLink "com/example/tarifa/tarifa/pricing/SessionMenu" (13 : Nat) "com/example/tarifa/tarifa/pricing/SessionMenu" "acceptanceRates" "Ljava/util/List;") a0 Z = true := hw _ (List.mem_of_getElem? (i := 90) rfl)
theorem wd91 {a0 : Array Value} {Z : State} (hw : ∀ d ∈ tables_1, d.before a0 Z = true) : Jvm.Cond.before (Jvm.Cond.laysFinal "com/example/tarifa/tarifa/pricing/SessionMenu" "com/example/tarifa/tarifa/pricing/SessionMenu" "acceptanceRates" "Ljava/util/List;") a0 Z = true := hw _ (List.mem_of_getElem? (i := 91) rfl)
theorem wd92 {a0 : Array Value} {Z : State} (hw : ∀ d ∈ tables_1, d.before a0 Z = true) : Jvm.Cond.before (Jvm.Cond.fieldLink "com/example/tarifa/tarifa/pricing/SessionMenu" (16 : Nat) "com/example/tarifa/tarifa/pricing/SessionMenu" "stateProbabilities" "Ljava/util/List;") a0 Z = true := hw _ (List.mem_of_getElem? (i := 92) rfl)
theorem wd93 {a0 : Array Value} {Z : State} (hw : ∀ d ∈ tables_1, d.before a0 Z = true) : Jvm.Cond.before (Jvm.Cond.laysFinal "com/example/tarifa/tarifa/pricing/SessionMenu" "com/example/tarifa/tarifa/pricing/SessionMenu" "stateProbabilities" "Ljava/util/List;") a0 Z = true := hw _ (List.mem_of_getElem? (i := 93) rfl)
theorem wd94 {a0 : Array Value} {Z : State} (hw : ∀ d ∈ tables_1, d.before a0 Z = true) : Jvm.Cond.before (Jvm.Cond.fieldLink "com/example/tarifa/tarifa/pricing/SessionMenu" (19 : Nat) "com/example/tarifa/tarifa/pricing/SessionMenu" "revenue" "D") a0 Z = true := hw _ (List.mem_of_getElem? (i := 94) rfl)
theorem wd95 {a0 : Array Value} {Z : State} (hw : ∀ d ∈ tables_1, d.before a0 Z = true) : Jvm.Cond.before (Jvm.Cond.laysFinal "com/example/tarifa/tarifa/pricing/SessionMenu" "com/example/tarifa/tarifa/pricing/SessionMenu" "revenue" "D") a0 Z = true := hw _ (List.mem_of_getElem? (i := 95) rfl)
theorem wd96 {a0 : Array Value} {Z : State} (hw : ∀ d ∈ tables_1, d.before a0 Z = true) : Jvm.Cond.before (Jvm.Cond.methodLink "com/example/tarifa/tarifa/pricing/SessionMenuBlockingProbabilityPinLaw" (25 : Nat) ({ cls := "com/example/tarifa/tarifa/pricing/SessionMenu", name := "blockingProbability", desc := "()D" } : Jvm.MethodName)) a0 Z = true := hw _ (List.mem_of_getElem? (i := 96) rfl)
theorem wd97 {a0 : Array Value} {Z : State} (hw : ∀ d ∈ tables_1, d.before a0 Z = true) : Jvm.Cond.before (Jvm.Cond.declares ({ cls := "com/example/tarifa/tarifa/pricing/SessionMenu", name := "blockingProbability", desc := "()D" } : Jvm.MethodName)) a0 Z = true := hw _ (List.mem_of_getElem? (i := 97) rfl)
theorem wd98 {a0 : Array Value} {Z : State} (hw : ∀ d ∈ tables_1, d.before a0 Z = true) : Jvm.Cond.before (Jvm.Cond.instanceMethod ({ cls := "com/example/tarifa/tarifa/pricing/SessionMenu", name := "blockingProbability", desc := "()D" } : Jvm.MethodName)) a0 Z = true := hw _ (List.mem_of_getElem? (i := 98) rfl)
theorem wd99 {a0 : Array Value} {Z : State} (hw : ∀ d ∈ tables_1, d.before a0 Z = true) : Jvm.Cond.before (Jvm.Cond.selects "com/example/tarifa/tarifa/pricing/SessionMenu" ({ cls := "com/example/tarifa/tarifa/pricing/SessionMenu", name := "blockingProbability", desc := "()D" } : Jvm.MethodName) ({ cls := "com/example/tarifa/tarifa/pricing/SessionMenu", name := "blockingProbability", desc := "()D" } : Jvm.MethodName)) a0 Z = true := hw _ (List.mem_of_getElem? (i := 99) rfl)
theorem wd100 {a0 : Array Value} {Z : State} (hw : ∀ d ∈ tables_1, d.before a0 Z = true) : Jvm.Cond.before (Jvm.Cond.code ({ cls := "com/example/tarifa/tarifa/pricing/SessionMenu", name := "blockingProbability", desc := "()D" } : Jvm.MethodName) prog_16_method_5_code (1 : Nat) (Option.some Jvm.ClassFile.FieldType.double)) a0 Z = true := hw _ (List.mem_of_getElem? (i := 100) rfl)
theorem wd101 {a0 : Array Value} {Z : State} (hw : ∀ d ∈ tables_1, d.before a0 Z = true) : Jvm.Cond.before (Jvm.Cond.methodLink "com/example/tarifa/tarifa/pricing/SessionMenu" (27 : Nat) ({ cls := "java/util/List", name := "size", desc := "()I" } : Jvm.MethodName)) a0 Z = true := hw _ (List.mem_of_getElem? (i := 101) rfl)
theorem wd102 {a0 : Array Value} {Z : State} (hw : ∀ d ∈ tables_1, d.before a0 Z = true) : Jvm.Cond.before (Jvm.Cond.declares ({ cls := "java/util/List", name := "size", desc := "()I" } : Jvm.MethodName)) a0 Z = true := hw _ (List.mem_of_getElem? (i := 102) rfl)
theorem wd103 {a0 : Array Value} {Z : State} (hw : ∀ d ∈ tables_1, d.before a0 Z = true) : Jvm.Cond.before (Jvm.Cond.interfaceMethod "java/util/List" "java/util/List" "size" "()I") a0 Z = true := hw _ (List.mem_of_getElem? (i := 103) rfl)
theorem wd104 {a0 : Array Value} {Z : State} (hw : ∀ d ∈ tables_1, d.before a0 Z = true) : Jvm.Cond.before (Jvm.Cond.selects "java/util/ArrayList" ({ cls := "java/util/List", name := "size", desc := "()I" } : Jvm.MethodName) ({ cls := "java/util/ArrayList", name := "size", desc := "()I" } : Jvm.MethodName)) a0 Z = true := hw _ (List.mem_of_getElem? (i := 104) rfl)
theorem wd105 {a0 : Array Value} {Z : State} (hw : ∀ d ∈ tables_1, d.before a0 Z = true) : Jvm.Cond.before (Jvm.Cond.instanceMethod ({ cls := "java/util/ArrayList", name := "size", desc := "()I" } : Jvm.MethodName)) a0 Z = true := hw _ (List.mem_of_getElem? (i := 105) rfl)
theorem wd106 {a0 : Array Value} {Z : State} (hw : ∀ d ∈ tables_1, d.before a0 Z = true) : Jvm.Cond.before (Jvm.Cond.publicMethod ({ cls := "java/util/ArrayList", name := "size", desc := "()I" } : Jvm.MethodName)) a0 Z = true := hw _ (List.mem_of_getElem? (i := 106) rfl)
theorem wd107 {a0 : Array Value} {Z : State} (hw : ∀ d ∈ tables_1, d.before a0 Z = true) : Jvm.Cond.before (Jvm.Cond.unhidden "java/util/ArrayList" "size" "()I") a0 Z = true := hw _ (List.mem_of_getElem? (i := 107) rfl)
theorem wd108 {a0 : Array Value} {Z : State} (hw : ∀ d ∈ tables_1, d.before a0 Z = true) : Jvm.Cond.before (Jvm.Cond.castable "java/util/ArrayList" "java/util/List") a0 Z = true := hw _ (List.mem_of_getElem? (i := 108) rfl)
theorem wd109 {a0 : Array Value} {Z : State} (hw : ∀ d ∈ tables_1, d.before a0 Z = true) : Jvm.Cond.before (Jvm.Cond.code ({ cls := "java/util/ArrayList", name := "size", desc := "()I" } : Jvm.MethodName) jdk_38_method_8_code (1 : Nat) (Option.some Jvm.ClassFile.FieldType.int)) a0 Z = true := hw _ (List.mem_of_getElem? (i := 109) rfl)
theorem wd110 {a0 : Array Value} {Z : State} (hw : ∀ d ∈ tables_1, d.before a0 Z = true) : Jvm.Cond.before (Jvm.Cond.methodLink "com/example/tarifa/tarifa/pricing/SessionMenu" (33 : Nat) ({ cls := "java/util/List", name := "get", desc := "(I)Ljava/lang/Object;" } : Jvm.MethodName)) a0 Z = true := hw _ (List.mem_of_getElem? (i := 110) rfl)
theorem wd111 {a0 : Array Value} {Z : State} (hw : ∀ d ∈ tables_1, d.before a0 Z = true) : Jvm.Cond.before (Jvm.Cond.declares ({ cls := "java/util/List", name := "get", desc := "(I)Ljava/lang/Object;" } : Jvm.MethodName)) a0 Z = true := hw _ (List.mem_of_getElem? (i := 111) rfl)
theorem wd112 {a0 : Array Value} {Z : State} (hw : ∀ d ∈ tables_1, d.before a0 Z = true) : Jvm.Cond.before (Jvm.Cond.interfaceMethod "java/util/List" "java/util/List" "get" "(I)Ljava/lang/Object;") a0 Z = true := hw _ (List.mem_of_getElem? (i := 112) rfl)
theorem wd113 {a0 : Array Value} {Z : State} (hw : ∀ d ∈ tables_1, d.before a0 Z = true) : Jvm.Cond.before (Jvm.Cond.selects "java/util/ArrayList" ({ cls := "java/util/List", name := "get", desc := "(I)Ljava/lang/Object;" } : Jvm.MethodName) ({ cls := "java/util/ArrayList", name := "get", desc := "(I)Ljava/lang/Object;" } : Jvm.MethodName)) a0 Z = true := hw _ (List.mem_of_getElem? (i := 113) rfl)
theorem wd114 {a0 : Array Value} {Z : State} (hw : ∀ d ∈ tables_1, d.before a0 Z = true) : Jvm.Cond.before (Jvm.Cond.instanceMethod ({ cls := "java/util/ArrayList", name := "get", desc := "(I)Ljava/lang/Object;" } : Jvm.MethodName)) a0 Z = true := hw _ (List.mem_of_getElem? (i := 114) rfl)
theorem wd115 {a0 : Array Value} {Z : State} (hw : ∀ d ∈ tables_1, d.before a0 Z = true) : Jvm.Cond.before (Jvm.Cond.publicMethod ({ cls := "java/util/ArrayList", name := "get", desc := "(I)Ljava/lang/Object;" } : Jvm.MethodName)) a0 Z = true := hw _ (List.mem_of_getElem? (i := 115) rfl)
theorem wd116 {a0 : Array Value} {Z : State} (hw : ∀ d ∈ tables_1, d.before a0 Z = true) : Jvm.Cond.before (Jvm.Cond.unhidden "java/util/ArrayList" "get" "(I)Ljava/lang/Object;") a0 Z = true := hw _ (List.mem_of_getElem? (i := 116) rfl)
theorem wd117 {a0 : Array Value} {Z : State} (hw : ∀ d ∈ tables_1, d.before a0 Z = true) : Jvm.Cond.before (Jvm.Cond.code ({ cls := "java/util/ArrayList", name := "get", desc := "(I)Ljava/lang/Object;" } : Jvm.MethodName) jdk_38_method_20_code (2 : Nat) (Option.some (Jvm.ClassFile.FieldType.object "java/lang/Object"))) a0 Z = true := hw _ (List.mem_of_getElem? (i := 117) rfl)
theorem wd118 {a0 : Array Value} {Z : State} (hw : ∀ d ∈ tables_1, d.before a0 Z = true) : Jvm.Cond.before (Jvm.Cond.methodLink "java/util/ArrayList" (118 : Nat) ({ cls := "java/util/Objects", name := "checkIndex", desc := "(II)I" } : Jvm.MethodName)) a0 Z = true := hw _ (List.mem_of_getElem? (i := 118) rfl)
theorem wd119 {a0 : Array Value} {Z : State} (hw : ∀ d ∈ tables_1, d.before a0 Z = true) : Jvm.Cond.before (Jvm.Cond.static ({ cls := "java/util/Objects", name := "checkIndex", desc := "(II)I" } : Jvm.MethodName)) a0 Z = true := hw _ (List.mem_of_getElem? (i := 119) rfl)
theorem wd120 {a0 : Array Value} {Z : State} (hw : ∀ d ∈ tables_1, d.before a0 Z = true) : Jvm.Cond.before (Jvm.Cond.initialized "java/util/Objects") a0 Z = true := hw _ (List.mem_of_getElem? (i := 120) rfl)
theorem wd121 {a0 : Array Value} {Z : State} (hw : ∀ d ∈ tables_1, d.before a0 Z = true) : Jvm.Cond.before (Jvm.Cond.code ({ cls := "java/util/Objects", name := "checkIndex", desc := "(II)I" } : Jvm.MethodName) jdk_31_method_17_code (2 : Nat) (Option.some Jvm.ClassFile.FieldType.int)) a0 Z = true := hw _ (List.mem_of_getElem? (i := 121) rfl)
theorem wd122 {a0 : Array Value} {Z : State} (hw : ∀ d ∈ tables_1, d.before a0 Z = true) : Jvm.Cond.before (Jvm.Cond.methodLink "java/util/Objects" (105 : Nat) ({ cls := "jdk/internal/util/Preconditions", name := "checkIndex", desc := "(IILjava/util/function/BiFunction;)I" } : Jvm.MethodName)) a0 Z = true := hw _ (List.mem_of_getElem? (i := 122) rfl)
theorem wd123 {a0 : Array Value} {Z : State} (hw : ∀ d ∈ tables_1, d.before a0 Z = true) : Jvm.Cond.before (Jvm.Cond.static ({ cls := "jdk/internal/util/Preconditions", name := "checkIndex", desc := "(IILjava/util/function/BiFunction;)I" } : Jvm.MethodName)) a0 Z = true := hw _ (List.mem_of_getElem? (i := 123) rfl)
theorem wd124 {a0 : Array Value} {Z : State} (hw : ∀ d ∈ tables_1, d.before a0 Z = true) : Jvm.Cond.before (Jvm.Cond.initialized "jdk/internal/util/Preconditions") a0 Z = true := hw _ (List.mem_of_getElem? (i := 124) rfl)
theorem wd125 {a0 : Array Value} {Z : State} (hw : ∀ d ∈ tables_1, d.before a0 Z = true) : Jvm.Cond.before (Jvm.Cond.code ({ cls := "jdk/internal/util/Preconditions", name := "checkIndex", desc := "(IILjava/util/function/BiFunction;)I" } : Jvm.MethodName) jdk_41_method_11_code (3 : Nat) (Option.some Jvm.ClassFile.FieldType.int)) a0 Z = true := hw _ (List.mem_of_getElem? (i := 125) rfl)
theorem wd126 {a0 : Array Value} {Z : State} (hw : ∀ d ∈ tables_1, d.before a0 Z = true) : Jvm.Cond.before (Jvm.Cond.methodLink "java/util/ArrayList" (123 : Nat) ({ cls := "java/util/ArrayList", name := "elementData", desc := "(I)Ljava/lang/Object;" } : Jvm.MethodName)) a0 Z = true := hw _ (List.mem_of_getElem? (i := 126) rfl)
theorem wd127 {a0 : Array Value} {Z : State} (hw : ∀ d ∈ tables_1, d.before a0 Z = true) : Jvm.Cond.before (Jvm.Cond.declares ({ cls := "java/util/ArrayList", name := "elementData", desc := "(I)Ljava/lang/Object;" } : Jvm.MethodName)) a0 Z = true := hw _ (List.mem_of_getElem? (i := 127) rfl)
theorem wd128 {a0 : Array Value} {Z : State} (hw : ∀ d ∈ tables_1, d.before a0 Z = true) : Jvm.Cond.before (Jvm.Cond.instanceMethod ({ cls := "java/util/ArrayList", name := "elementData", desc := "(I)Ljava/lang/Object;" } : Jvm.MethodName)) a0 Z = true := hw _ (List.mem_of_getElem? (i := 128) rfl)
theorem wd129 {a0 : Array Value} {Z : State} (hw : ∀ d ∈ tables_1, d.before a0 Z = true) : Jvm.Cond.before (Jvm.Cond.selects "java/util/ArrayList" ({ cls := "java/util/ArrayList", name := "elementData", desc := "(I)Ljava/lang/Object;" } : Jvm.MethodName) ({ cls := "java/util/ArrayList", name := "elementData", desc := "(I)Ljava/lang/Object;" } : Jvm.MethodName)) a0 Z = true := hw _ (List.mem_of_getElem? (i := 129) rfl)
theorem wd130 {a0 : Array Value} {Z : State} (hw : ∀ d ∈ tables_1, d.before a0 Z = true) : Jvm.Cond.before (Jvm.Cond.code ({ cls := "java/util/ArrayList", name := "elementData", desc := "(I)Ljava/lang/Object;" } : Jvm.MethodName) jdk_38_method_18_code (2 : Nat) (Option.some (Jvm.ClassFile.FieldType.object "java/lang/Object"))) a0 Z = true := hw _ (List.mem_of_getElem? (i := 130) rfl)
theorem wd131 {a0 : Array Value} {Z : State} (hw : ∀ d ∈ tables_1, d.before a0 Z = true) : Jvm.Cond.before (Jvm.Cond.classLink "com/example/tarifa/tarifa/pricing/SessionMenu" (37 : Nat) "java/lang/Double") a0 Z = true := hw _ (List.mem_of_getElem? (i := 131) rfl)
theorem wd132 {a0 : Array Value} {Z : State} (hw : ∀ d ∈ tables_1, d.before a0 Z = true) : Jvm.Cond.before (Jvm.Cond.methodLink "com/example/tarifa/tarifa/pricing/SessionMenu" (39 : Nat) ({ cls := "java/lang/Double", name := "doubleValue", desc := "()D" } : Jvm.MethodName)) a0 Z = true := hw _ (List.mem_of_getElem? (i := 132) rfl)
theorem wd133 {a0 : Array Value} {Z : State} (hw : ∀ d ∈ tables_1, d.before a0 Z = true) : Jvm.Cond.before (Jvm.Cond.declares ({ cls := "java/lang/Double", name := "doubleValue", desc := "()D" } : Jvm.MethodName)) a0 Z = true := hw _ (List.mem_of_getElem? (i := 133) rfl)
theorem wd134 {a0 : Array Value} {Z : State} (hw : ∀ d ∈ tables_1, d.before a0 Z = true) : Jvm.Cond.before (Jvm.Cond.instanceMethod ({ cls := "java/lang/Double", name := "doubleValue", desc := "()D" } : Jvm.MethodName)) a0 Z = true := hw _ (List.mem_of_getElem? (i := 134) rfl)
theorem wd135 {a0 : Array Value} {Z : State} (hw : ∀ d ∈ tables_1, d.before a0 Z = true) : Jvm.Cond.before (Jvm.Cond.selects "java/lang/Double" ({ cls := "java/lang/Double", name := "doubleValue", desc := "()D" } : Jvm.MethodName) ({ cls := "java/lang/Double", name := "doubleValue", desc := "()D" } : Jvm.MethodName)) a0 Z = true := hw _ (List.mem_of_getElem? (i := 135) rfl)
theorem wd136 {a0 : Array Value} {Z : State} (hw : ∀ d ∈ tables_1, d.before a0 Z = true) : Jvm.Cond.before (Jvm.Cond.code ({ cls := "java/lang/Double", name := "doubleValue", desc := "()D" } : Jvm.MethodName) jdk_117_method_19_code (1 : Nat) (Option.some Jvm.ClassFile.FieldType.double)) a0 Z = true := hw _ (List.mem_of_getElem? (i := 136) rfl)
theorem sn_ArrayList_elementData_modCount {a0 : Array Value} {Z : State} (hw : ∀ d ∈ tables_1, d.before a0 Z = true) : Jvm.RoadKit.slotOf Z "java/util/ArrayList" "elementData" "[Ljava/lang/Object;" ≠ Jvm.RoadKit.slotOf Z "java/util/AbstractList" "modCount" "I" := slot_ne (C := "java/util/ArrayList") (a0 := a0) (t := (.array (.object "java/lang/Object"))) (t' := .int) (Or.inl (wd25 hw)) (Or.inl (wd22 hw)) (by decide) (by decide) (by decide)
theorem sn_ArrayList_size_modCount {a0 : Array Value} {Z : State} (hw : ∀ d ∈ tables_1, d.before a0 Z = true) : Jvm.RoadKit.slotOf Z "java/util/ArrayList" "size" "I" ≠ Jvm.RoadKit.slotOf Z "java/util/AbstractList" "modCount" "I" := slot_ne (C := "java/util/ArrayList") (a0 := a0) (t := .int) (t' := .int) (Or.inl (wd53 hw)) (Or.inl (wd22 hw)) (by decide) (by decide) (by decide)
theorem sn_ArrayList_modCount_elementData {a0 : Array Value} {Z : State} (hw : ∀ d ∈ tables_1, d.before a0 Z = true) : Jvm.RoadKit.slotOf Z "java/util/AbstractList" "modCount" "I" ≠ Jvm.RoadKit.slotOf Z "java/util/ArrayList" "elementData" "[Ljava/lang/Object;" := slot_ne (C := "java/util/ArrayList") (a0 := a0) (t := .int) (t' := (.array (.object "java/lang/Object"))) (Or.inl (wd22 hw)) (Or.inl (wd25 hw)) (by decide) (by decide) (by decide)
theorem sn_ArrayList_size_elementData {a0 : Array Value} {Z : State} (hw : ∀ d ∈ tables_1, d.before a0 Z = true) : Jvm.RoadKit.slotOf Z "java/util/ArrayList" "size" "I" ≠ Jvm.RoadKit.slotOf Z "java/util/ArrayList" "elementData" "[Ljava/lang/Object;" := slot_ne (C := "java/util/ArrayList") (a0 := a0) (t := .int) (t' := (.array (.object "java/lang/Object"))) (Or.inl (wd53 hw)) (Or.inl (wd25 hw)) (by decide) (by decide) (by decide)
theorem sn_ArrayList_modCount_size {a0 : Array Value} {Z : State} (hw : ∀ d ∈ tables_1, d.before a0 Z = true) : Jvm.RoadKit.slotOf Z "java/util/AbstractList" "modCount" "I" ≠ Jvm.RoadKit.slotOf Z "java/util/ArrayList" "size" "I" := slot_ne (C := "java/util/ArrayList") (a0 := a0) (t := .int) (t' := .int) (Or.inl (wd22 hw)) (Or.inl (wd53 hw)) (by decide) (by decide) (by decide)
theorem sn_ArrayList_elementData_size {a0 : Array Value} {Z : State} (hw : ∀ d ∈ tables_1, d.before a0 Z = true) : Jvm.RoadKit.slotOf Z "java/util/ArrayList" "elementData" "[Ljava/lang/Object;" ≠ Jvm.RoadKit.slotOf Z "java/util/ArrayList" "size" "I" := slot_ne (C := "java/util/ArrayList") (a0 := a0) (t := (.array (.object "java/lang/Object"))) (t' := .int) (Or.inl (wd25 hw)) (Or.inl (wd53 hw)) (by decide) (by decide) (by decide)
theorem sn_SessionMenu_acceptanceRates_prices {a0 : Array Value} {Z : State} (hw : ∀ d ∈ tables_1, d.before a0 Z = true) : Jvm.RoadKit.slotOf Z "com/example/tarifa/tarifa/pricing/SessionMenu" "acceptanceRates" "Ljava/util/List;" ≠ Jvm.RoadKit.slotOf Z "com/example/tarifa/tarifa/pricing/SessionMenu" "prices" "Ljava/util/List;" := slot_ne (C := "com/example/tarifa/tarifa/pricing/SessionMenu") (a0 := a0) (t := (.object "java/util/List")) (t' := (.object "java/util/List")) (Or.inr (wd91 hw)) (Or.inr (wd89 hw)) (by decide) (by decide) (by decide)
theorem sn_SessionMenu_stateProbabilities_prices {a0 : Array Value} {Z : State} (hw : ∀ d ∈ tables_1, d.before a0 Z = true) : Jvm.RoadKit.slotOf Z "com/example/tarifa/tarifa/pricing/SessionMenu" "stateProbabilities" "Ljava/util/List;" ≠ Jvm.RoadKit.slotOf Z "com/example/tarifa/tarifa/pricing/SessionMenu" "prices" "Ljava/util/List;" := slot_ne (C := "com/example/tarifa/tarifa/pricing/SessionMenu") (a0 := a0) (t := (.object "java/util/List")) (t' := (.object "java/util/List")) (Or.inr (wd93 hw)) (Or.inr (wd89 hw)) (by decide) (by decide) (by decide)
theorem sn_SessionMenu_revenue_prices {a0 : Array Value} {Z : State} (hw : ∀ d ∈ tables_1, d.before a0 Z = true) : Jvm.RoadKit.slotOf Z "com/example/tarifa/tarifa/pricing/SessionMenu" "revenue" "D" ≠ Jvm.RoadKit.slotOf Z "com/example/tarifa/tarifa/pricing/SessionMenu" "prices" "Ljava/util/List;" := slot_ne (C := "com/example/tarifa/tarifa/pricing/SessionMenu") (a0 := a0) (t := .double) (t' := (.object "java/util/List")) (Or.inr (wd95 hw)) (Or.inr (wd89 hw)) (by decide) (by decide) (by decide)
theorem sn_SessionMenu_prices_acceptanceRates {a0 : Array Value} {Z : State} (hw : ∀ d ∈ tables_1, d.before a0 Z = true) : Jvm.RoadKit.slotOf Z "com/example/tarifa/tarifa/pricing/SessionMenu" "prices" "Ljava/util/List;" ≠ Jvm.RoadKit.slotOf Z "com/example/tarifa/tarifa/pricing/SessionMenu" "acceptanceRates" "Ljava/util/List;" := slot_ne (C := "com/example/tarifa/tarifa/pricing/SessionMenu") (a0 := a0) (t := (.object "java/util/List")) (t' := (.object "java/util/List")) (Or.inr (wd89 hw)) (Or.inr (wd91 hw)) (by decide) (by decide) (by decide)
theorem sn_SessionMenu_stateProbabilities_acceptanceRates {a0 : Array Value} {Z : State} (hw : ∀ d ∈ tables_1, d.before a0 Z = true) : Jvm.RoadKit.slotOf Z "com/example/tarifa/tarifa/pricing/SessionMenu" "stateProbabilities" "Ljava/util/List;" ≠ Jvm.RoadKit.slotOf Z "com/example/tarifa/tarifa/pricing/SessionMenu" "acceptanceRates" "Ljava/util/List;" := slot_ne (C := "com/example/tarifa/tarifa/pricing/SessionMenu") (a0 := a0) (t := (.object "java/util/List")) (t' := (.object "java/util/List")) (Or.inr (wd93 hw)) (Or.inr (wd91 hw)) (by decide) (by decide) (by decide)
theorem sn_SessionMenu_revenue_acceptanceRates {a0 : Array Value} {Z : State} (hw : ∀ d ∈ tables_1, d.before a0 Z = true) : Jvm.RoadKit.slotOf Z "com/example/tarifa/tarifa/pricing/SessionMenu" "revenue" "D" ≠ Jvm.RoadKit.slotOf Z "com/example/tarifa/tarifa/pricing/SessionMenu" "acceptanceRates" "Ljava/util/List;" := slot_ne (C := "com/example/tarifa/tarifa/pricing/SessionMenu") (a0 := a0) (t := .double) (t' := (.object "java/util/List")) (Or.inr (wd95 hw)) (Or.inr (wd91 hw)) (by decide) (by decide) (by decide)
theorem sn_SessionMenu_prices_stateProbabilities {a0 : Array Value} {Z : State} (hw : ∀ d ∈ tables_1, d.before a0 Z = true) : Jvm.RoadKit.slotOf Z "com/example/tarifa/tarifa/pricing/SessionMenu" "prices" "Ljava/util/List;" ≠ Jvm.RoadKit.slotOf Z "com/example/tarifa/tarifa/pricing/SessionMenu" "stateProbabilities" "Ljava/util/List;" := slot_ne (C := "com/example/tarifa/tarifa/pricing/SessionMenu") (a0 := a0) (t := (.object "java/util/List")) (t' := (.object "java/util/List")) (Or.inr (wd89 hw)) (Or.inr (wd93 hw)) (by decide) (by decide) (by decide)
theorem sn_SessionMenu_acceptanceRates_stateProbabilities {a0 : Array Value} {Z : State} (hw : ∀ d ∈ tables_1, d.before a0 Z = true) : Jvm.RoadKit.slotOf Z "com/example/tarifa/tarifa/pricing/SessionMenu" "acceptanceRates" "Ljava/util/List;" ≠ Jvm.RoadKit.slotOf Z "com/example/tarifa/tarifa/pricing/SessionMenu" "stateProbabilities" "Ljava/util/List;" := slot_ne (C := "com/example/tarifa/tarifa/pricing/SessionMenu") (a0 := a0) (t := (.object "java/util/List")) (t' := (.object "java/util/List")) (Or.inr (wd91 hw)) (Or.inr (wd93 hw)) (by decide) (by decide) (by decide)
theorem sn_SessionMenu_revenue_stateProbabilities {a0 : Array Value} {Z : State} (hw : ∀ d ∈ tables_1, d.before a0 Z = true) : Jvm.RoadKit.slotOf Z "com/example/tarifa/tarifa/pricing/SessionMenu" "revenue" "D" ≠ Jvm.RoadKit.slotOf Z "com/example/tarifa/tarifa/pricing/SessionMenu" "stateProbabilities" "Ljava/util/List;" := slot_ne (C := "com/example/tarifa/tarifa/pricing/SessionMenu") (a0 := a0) (t := .double) (t' := (.object "java/util/List")) (Or.inr (wd95 hw)) (Or.inr (wd93 hw)) (by decide) (by decide) (by decide)
theorem sn_SessionMenu_prices_revenue {a0 : Array Value} {Z : State} (hw : ∀ d ∈ tables_1, d.before a0 Z = true) : Jvm.RoadKit.slotOf Z "com/example/tarifa/tarifa/pricing/SessionMenu" "prices" "Ljava/util/List;" ≠ Jvm.RoadKit.slotOf Z "com/example/tarifa/tarifa/pricing/SessionMenu" "revenue" "D" := slot_ne (C := "com/example/tarifa/tarifa/pricing/SessionMenu") (a0 := a0) (t := (.object "java/util/List")) (t' := .double) (Or.inr (wd89 hw)) (Or.inr (wd95 hw)) (by decide) (by decide) (by decide)
theorem sn_SessionMenu_acceptanceRates_revenue {a0 : Array Value} {Z : State} (hw : ∀ d ∈ tables_1, d.before a0 Z = true) : Jvm.RoadKit.slotOf Z "com/example/tarifa/tarifa/pricing/SessionMenu" "acceptanceRates" "Ljava/util/List;" ≠ Jvm.RoadKit.slotOf Z "com/example/tarifa/tarifa/pricing/SessionMenu" "revenue" "D" := slot_ne (C := "com/example/tarifa/tarifa/pricing/SessionMenu") (a0 := a0) (t := (.object "java/util/List")) (t' := .double) (Or.inr (wd91 hw)) (Or.inr (wd95 hw)) (by decide) (by decide) (by decide)
theorem sn_SessionMenu_stateProbabilities_revenue {a0 : Array Value} {Z : State} (hw : ∀ d ∈ tables_1, d.before a0 Z = true) : Jvm.RoadKit.slotOf Z "com/example/tarifa/tarifa/pricing/SessionMenu" "stateProbabilities" "Ljava/util/List;" ≠ Jvm.RoadKit.slotOf Z "com/example/tarifa/tarifa/pricing/SessionMenu" "revenue" "D" := slot_ne (C := "com/example/tarifa/tarifa/pricing/SessionMenu") (a0 := a0) (t := (.object "java/util/List")) (t' := .double) (Or.inr (wd93 hw)) (Or.inr (wd95 hw)) (by decide) (by decide) (by decide)
theorem pd0 : parseMethodDescriptor "()V" = some ⟨[], none⟩ := by decide +kernel
theorem pd1 : parseMethodDescriptor "(D)V" = some ⟨[.double], none⟩ := by decide +kernel
theorem pd2 : parseMethodDescriptor "(II)I" = some ⟨[.int, .int], some .int⟩ := by decide +kernel
theorem pd3 : parseMethodDescriptor "(I)[Ljava/lang/Object;" = some ⟨[.int], some (.array (.object "java/lang/Object"))⟩ := by decide +kernel
theorem pd4 : parseMethodDescriptor "()[Ljava/lang/Object;" = some ⟨[], some (.array (.object "java/lang/Object"))⟩ := by decide +kernel
theorem pd5 : parseMethodDescriptor "(Ljava/lang/Object;[Ljava/lang/Object;I)V" = some ⟨[(.object "java/lang/Object"), (.array (.object "java/lang/Object")), .int], none⟩ := by decide +kernel
theorem pd6 : parseMethodDescriptor "(IILjava/util/function/BiFunction;)I" = some ⟨[.int, .int, (.object "java/util/function/BiFunction")], some .int⟩ := by decide +kernel
theorem pd7 : parseMethodDescriptor "(I)Ljava/lang/Object;" = some ⟨[.int], some (.object "java/lang/Object")⟩ := by decide +kernel
theorem pd8 : parseMethodDescriptor "()I" = some ⟨[], some .int⟩ := by decide +kernel
theorem pd9 : parseMethodDescriptor "()D" = some ⟨[], some .double⟩ := by decide +kernel
theorem pd10 : parseMethodDescriptor "(D)Ljava/lang/Double;" = some ⟨[.double], some (.object "java/lang/Double")⟩ := by decide +kernel
theorem pd11 : parseMethodDescriptor "(Ljava/lang/Object;)Z" = some ⟨[(.object "java/lang/Object")], some .boolean⟩ := by decide +kernel
theorem pd12 : parseMethodDescriptor "(Ljava/util/List;Ljava/util/List;Ljava/util/List;D)V" = some ⟨[(.object "java/util/List"), (.object "java/util/List"), (.object "java/util/List"), .double], none⟩ := by decide +kernel
theorem pn0 : plainName "java/util/AbstractCollection" = true := by first | (simp [plainName, overriddenIn]; done) | decide +kernel
theorem pn1 : plainName "java/lang/Record" = true := by first | (simp [plainName, overriddenIn]; done) | decide +kernel
theorem pn2 : plainName "java/lang/Number" = true := by first | (simp [plainName, overriddenIn]; done) | decide +kernel
theorem pn3 : plainName "java/util/AbstractList" = true := by first | (simp [plainName, overriddenIn]; done) | decide +kernel
theorem pn4 : plainName "java/util/ArrayList" = true := by first | (simp [plainName, overriddenIn]; done) | decide +kernel
theorem pn5 : plainName "java/lang/Double" = true := by first | (simp [plainName, overriddenIn]; done) | decide +kernel
theorem pn6 : plainName "jdk/internal/util/Preconditions" = true := by first | (simp [plainName, overriddenIn]; done) | decide +kernel
theorem pn7 : plainName "java/util/Objects" = true := by first | (simp [plainName, overriddenIn]; done) | decide +kernel
theorem pn8 : plainName "com/example/tarifa/tarifa/pricing/SessionMenu" = true := by first | (simp [plainName, overriddenIn]; done) | decide +kernel
theorem pn9 : plainName "com/example/tarifa/tarifa/pricing/SessionMenuBlockingProbabilityPinLaw" = true := by first | (simp [plainName, overriddenIn]; done) | decide +kernel
set_option maxRecDepth 65536 in
set_option maxHeartbeats 40000000 in
theorem c_abc (l : Launch) (Z : State) (a0 : Array Value) (hw : ∀ d ∈ tables_1, d.before a0 Z = true) (ws : List Jvm.Cond) (b : Addr) (h0 : Heap) (n0 : Nat) (Z0 : n0 ≤ h0.size) :
    Ctr l Z (⟨"java/util/AbstractCollection", "<init>", "()V"⟩ : MethodName) jdk_22_method_1_code 1 none ws ({ frames := 1, cells := 0, slots := 0, locals := 12 } : Room) n0 #[(.ref b)] h0 (fun v h => v = none ∧ h0 = h) := by
  refine ctr (own := "java/util/AbstractCollection") (nm := "<init>") rfl rfl (Ls := #[.val (.ref b)]) (plainFor_of_name pn0) (fun m => by first | (simp [entryFrame, mkF, argsToLocals, Value.category]; done) | rfl) ?_
  intro p e s m below meth c K eh
  refine Jvm.OwnWp.aloadN K d_jdk_22_method_1_0 rfl rfl (pc' := 1) rfl ?_
  refine initObj K (wd18 hw) (wd19 hw) (wd20 hw) d_jdk_22_method_1_1 rfl (Nat.le_of_ble_eq_true rfl) (Nat.le_of_ble_eq_true rfl) (pc' := 4) rfl ?_
  refine retV K rfl d_jdk_22_method_1_4 (Nat.le_of_ble_eq_true rfl) (Nat.le_of_ble_eq_true rfl) ?_
  exact ⟨rfl, rfl⟩
set_option maxRecDepth 65536 in
set_option maxHeartbeats 40000000 in
theorem c_rec (l : Launch) (Z : State) (a0 : Array Value) (hw : ∀ d ∈ tables_1, d.before a0 Z = true) (ws : List Jvm.Cond) (b : Addr) (h0 : Heap) (n0 : Nat) (Z0 : n0 ≤ h0.size) :
    Ctr l Z (⟨"java/lang/Record", "<init>", "()V"⟩ : MethodName) jdk_30_method_1_code 1 none ws ({ frames := 1, cells := 0, slots := 0, locals := 12 } : Room) n0 #[(.ref b)] h0 (fun v h => v = none ∧ h0 = h) := by
  refine ctr (own := "java/lang/Record") (nm := "<init>") rfl rfl (Ls := #[.val (.ref b)]) (plainFor_of_name pn1) (fun m => by first | (simp [entryFrame, mkF, argsToLocals, Value.category]; done) | rfl) ?_
  intro p e s m below meth c K eh
  refine Jvm.OwnWp.aloadN K d_jdk_30_method_1_0 rfl rfl (pc' := 1) rfl ?_
  refine initObj K (wd87 hw) (wd19 hw) (wd20 hw) d_jdk_30_method_1_1 rfl (Nat.le_of_ble_eq_true rfl) (Nat.le_of_ble_eq_true rfl) (pc' := 4) rfl ?_
  refine retV K rfl d_jdk_30_method_1_4 (Nat.le_of_ble_eq_true rfl) (Nat.le_of_ble_eq_true rfl) ?_
  exact ⟨rfl, rfl⟩
set_option maxRecDepth 65536 in
set_option maxHeartbeats 40000000 in
theorem c_num (l : Launch) (Z : State) (a0 : Array Value) (hw : ∀ d ∈ tables_1, d.before a0 Z = true) (ws : List Jvm.Cond) (b : Addr) (h0 : Heap) (n0 : Nat) (Z0 : n0 ≤ h0.size) :
    Ctr l Z (⟨"java/lang/Number", "<init>", "()V"⟩ : MethodName) jdk_18_method_1_code 1 none ws ({ frames := 1, cells := 0, slots := 0, locals := 12 } : Room) n0 #[(.ref b)] h0 (fun v h => v = none ∧ h0 = h) := by
  refine ctr (own := "java/lang/Number") (nm := "<init>") rfl rfl (Ls := #[.val (.ref b)]) (plainFor_of_name pn2) (fun m => by first | (simp [entryFrame, mkF, argsToLocals, Value.category]; done) | rfl) ?_
  intro p e s m below meth c K eh
  refine Jvm.OwnWp.aloadN K d_jdk_18_method_1_0 rfl rfl (pc' := 1) rfl ?_
  refine initObj K (wd42 hw) (wd19 hw) (wd20 hw) d_jdk_18_method_1_1 rfl (Nat.le_of_ble_eq_true rfl) (Nat.le_of_ble_eq_true rfl) (pc' := 4) rfl ?_
  refine retV K rfl d_jdk_18_method_1_4 (Nat.le_of_ble_eq_true rfl) (Nat.le_of_ble_eq_true rfl) ?_
  exact ⟨rfl, rfl⟩
set_option maxRecDepth 65536 in
set_option maxHeartbeats 40000000 in
theorem c_abl (l : Launch) (Z : State) (a0 : Array Value) (hw : ∀ d ∈ tables_1, d.before a0 Z = true) (ws : List Jvm.Cond) (b : Addr) (h0 : Heap) (n0 : Nat) (Z0 : n0 ≤ h0.size) (E : Exa Z h0 b "java/util/ArrayList") (ge_b : n0 ≤ b) (G : Fld Z h0 b "java/util/AbstractList" "modCount" "I" (.int 0)) (G2 : Fld Z h0 b "java/util/ArrayList" "elementData" "[Ljava/lang/Object;" .null) (G3 : Fld Z h0 b "java/util/ArrayList" "size" "I" (.int 0)) :
    Ctr l Z (⟨"java/util/AbstractList", "<init>", "()V"⟩ : MethodName) jdk_39_method_1_code 1 none ws ({ frames := 2, cells := 0, slots := 0, locals := 24 } : Room) n0 #[(.ref b)] h0 (fun v h => v = none ∧ Keep h0 h [b] ∧ Fld Z h b "java/util/AbstractList" "modCount" "I" (.int 0) ∧ Fld Z h b "java/util/ArrayList" "elementData" "[Ljava/lang/Object;" .null ∧ Fld Z h b "java/util/ArrayList" "size" "I" (.int 0)) := by
  refine ctr (own := "java/util/AbstractList") (nm := "<init>") rfl rfl (Ls := #[.val (.ref b)]) (plainFor_of_name pn3) (fun m => by first | (simp [entryFrame, mkF, argsToLocals, Value.category]; done) | rfl) ?_
  intro p e s m below meth c K eh
  have P0 := Keep.refl h0 [b]
  refine Jvm.OwnWp.aloadN K d_jdk_39_method_1_0 rfl rfl (pc' := 1) rfl ?_
  refine callInit K (y := (⟨"java/util/AbstractCollection", "<init>", "()V"⟩ : MethodName)) (b := b) (argsL := []) (S := []) rfl (wd12 hw) (wd13 hw) (wd16 hw) (wd17 hw) rfl (by decide) (c_abc l Z a0 hw [] b h0 n0 Z0) (lenOf pd0 rfl) d_jdk_39_method_1_1 rfl (Nat.le_of_ble_eq_true rfl) (Nat.le_of_ble_eq_true rfl) (Nat.le_of_ble_eq_true rfl) (Nat.le_of_ble_eq_true rfl) rfl (pc' := 4) rfl ?_
  rintro v1 h1 ⟨rfl, rfl⟩
  show Go _ _ _ _ _ _ _ _ _ _ _ h0 0 0 (mkF m 4 #[.val (.ref b)] []) _
  refine Jvm.OwnWp.aloadN K d_jdk_39_method_1_4 rfl rfl (pc' := 5) rfl ?_
  refine Jvm.OwnWp.iconst K (0 : Int32) d_jdk_39_method_1_5 (by decide) (pc' := 6) rfl ?_
  refine putf K (wd21 hw) Via.refl G E (Or.inl (wd22 hw)) (wd1 hw) (ty := .int) (by decide) rfl rfl ge_b d_jdk_39_method_1_6 (pc' := 9) rfl ?_
  intro h2 W2
  have F2_elementData_b := (Fld.other W2 G2 (Or.inr (sn_ArrayList_elementData_modCount hw)))
  have F2_size_b := (Fld.other W2 G3 (Or.inr (sn_ArrayList_size_modCount hw)))
  have X2_b := (Exa.wr W2 E)
  have P2 := (P0.wr W2 (Or.inl (List.mem_of_getElem? (i := 0) rfl)))
  have F2_modCount_b := Fld.same W2 G
  refine retV K rfl d_jdk_39_method_1_9 (Nat.le_of_ble_eq_true rfl) (Nat.le_of_ble_eq_true rfl) ?_
  exact ⟨rfl, P2, F2_modCount_b, F2_elementData_b, F2_size_b⟩
set_option maxRecDepth 65536 in
set_option maxHeartbeats 40000000 in
theorem c_ali (l : Launch) (Z : State) (a0 : Array Value) (hw : ∀ d ∈ tables_1, d.before a0 Z = true) (ws : List Jvm.Cond) (b u : Addr) (h0 : Heap) (n0 : Nat) (Z0 : n0 ≤ h0.size) (E : Exa Z h0 b "java/util/ArrayList") (ge_b : n0 ≤ b) (F_modCount : Fld Z h0 b "java/util/AbstractList" "modCount" "I" (.int 0)) (F_elementData : Fld Z h0 b "java/util/ArrayList" "elementData" "[Ljava/lang/Object;" .null) (F_size : Fld Z h0 b "java/util/ArrayList" "size" "I" (.int 0)) (S_u : Sta Z Z.heap "java/util/ArrayList" "DEFAULTCAPACITY_EMPTY_ELEMENTDATA" "[Ljava/lang/Object;" (.ref u)) (V0 : Vec Z Z.heap u (.object "java/lang/Object") []) (O0 : Old Z n0 h0) :
    Ctr l Z (⟨"java/util/ArrayList", "<init>", "()V"⟩ : MethodName) jdk_38_method_2_code 1 none ws ({ frames := 3, cells := 0, slots := 0, locals := 36 } : Room) n0 #[(.ref b)] h0 (fun v h => v = none ∧ Keep h0 h [b] ∧ Fld Z h b "java/util/AbstractList" "modCount" "I" (.int 0) ∧ Fld Z h b "java/util/ArrayList" "elementData" "[Ljava/lang/Object;" (.ref u) ∧ Fld Z h b "java/util/ArrayList" "size" "I" (.int 0)) := by
  refine ctr (own := "java/util/ArrayList") (nm := "<init>") rfl rfl (Ls := #[.val (.ref b)]) (plainFor_of_name pn4) (fun m => by first | (simp [entryFrame, mkF, argsToLocals, Value.category]; done) | rfl) ?_
  intro p e s m below meth c K eh
  have P0 := Keep.refl h0 [b]
  refine Jvm.OwnWp.aloadN K d_jdk_38_method_2_0 rfl rfl (pc' := 1) rfl ?_
  refine callInit K (y := (⟨"java/util/AbstractList", "<init>", "()V"⟩ : MethodName)) (b := b) (argsL := []) (S := []) rfl (wd6 hw) (wd7 hw) (wd10 hw) (wd11 hw) rfl (by decide) (c_abl l Z a0 hw [] b h0 n0 Z0 E ge_b F_modCount F_elementData F_size) (lenOf pd0 rfl) d_jdk_38_method_2_1 rfl (Nat.le_of_ble_eq_true rfl) (Nat.le_of_ble_eq_true rfl) (Nat.le_of_ble_eq_true rfl) (Nat.le_of_ble_eq_true rfl) rfl (pc' := 4) rfl ?_
  rintro v3 h3 ⟨rfl, K3, Q3_F_modCount, Q3_F_elementData, Q3_F_size⟩
  have X3_b := (Exa.keep E K3)
  have O3 := (O0.keep K3 (allS ge_b (all0)))
  have P3 := (P0.trans K3 (allS (Or.inl (List.mem_of_getElem? (i := 0) rfl)) (all0)))
  show Go _ _ _ _ _ _ _ _ _ _ _ h3 0 0 (mkF m 4 #[.val (.ref b)] []) _
  refine Jvm.OwnWp.aloadN K d_jdk_38_method_2_4 rfl rfl (pc' := 5) rfl ?_
  refine Jvm.OwnWp.gets K (wd23 hw) Via.refl (Sta.ext O3.2 S_u) d_jdk_38_method_2_5 (pc' := 8) rfl ?_
  refine putf K (wd24 hw) Via.refl Q3_F_elementData X3_b (Or.inl (wd25 hw)) (wd1 hw) (ty := (.array (.object "java/lang/Object"))) (by decide) rfl rfl ge_b d_jdk_38_method_2_8 (pc' := 11) rfl ?_
  intro h4 W4
  have F4_modCount_b := (Fld.other W4 Q3_F_modCount (Or.inr (sn_ArrayList_modCount_elementData hw)))
  have F4_size_b := (Fld.other W4 Q3_F_size (Or.inr (sn_ArrayList_size_elementData hw)))
  have X4_b := (Exa.wr W4 X3_b)
  have O4 := (O3.wr W4 ge_b)
  have P4 := (P3.wr W4 (Or.inl (List.mem_of_getElem? (i := 0) rfl)))
  have F4_elementData_b := Fld.same W4 Q3_F_elementData
  refine retV K rfl d_jdk_38_method_2_11 (Nat.le_of_ble_eq_true rfl) (Nat.le_of_ble_eq_true rfl) ?_
  exact ⟨rfl, P4, F4_modCount_b, F4_elementData_b, F4_size_b⟩
set_option maxRecDepth 65536 in
set_option maxHeartbeats 40000000 in
theorem c_di (l : Launch) (Z : State) (a0 : Array Value) (hw : ∀ d ∈ tables_1, d.before a0 Z = true) (ws : List Jvm.Cond) (b : Addr) (d : UInt64) (h0 : Heap) (n0 : Nat) (Z0 : n0 ≤ h0.size) (E : Exa Z h0 b "java/lang/Double") (ge_b : n0 ≤ b) (G : Fld Z h0 b "java/lang/Double" "value" "D" (.double 0)) :
    Ctr l Z (⟨"java/lang/Double", "<init>", "(D)V"⟩ : MethodName) jdk_117_method_9_code 3 none ws ({ frames := 2, cells := 0, slots := 0, locals := 24 } : Room) n0 #[(.ref b), (.double d)] h0 (fun v h => v = none ∧ Keep h0 h [b] ∧ Fld Z h b "java/lang/Double" "value" "D" (.double d)) := by
  refine ctr (own := "java/lang/Double") (nm := "<init>") rfl rfl (Ls := #[.val (.ref b), .val (.double d), .second]) (plainFor_of_name pn5) (fun m => by first | (simp [entryFrame, mkF, argsToLocals, Value.category]; done) | rfl) ?_
  intro p e s m below meth c K eh
  have P0 := Keep.refl h0 [b]
  refine Jvm.OwnWp.aloadN K d_jdk_117_method_9_0 rfl rfl (pc' := 1) rfl ?_
  refine callInit K (y := (⟨"java/lang/Number", "<init>", "()V"⟩ : MethodName)) (b := b) (argsL := []) (S := []) rfl (wd36 hw) (wd37 hw) (wd40 hw) (wd41 hw) rfl (by decide) (c_num l Z a0 hw [] b h0 n0 Z0) (lenOf pd0 rfl) d_jdk_117_method_9_1 rfl (Nat.le_of_ble_eq_true rfl) (Nat.le_of_ble_eq_true rfl) (Nat.le_of_ble_eq_true rfl) (Nat.le_of_ble_eq_true rfl) rfl (pc' := 4) rfl ?_
  rintro v5 h5 ⟨rfl, rfl⟩
  show Go _ _ _ _ _ _ _ _ _ _ _ h0 0 0 (mkF m 4 #[.val (.ref b), .val (.double d), .second] []) _
  refine Jvm.OwnWp.aloadN K d_jdk_117_method_9_4 rfl rfl (pc' := 5) rfl ?_
  refine Jvm.OwnWp.dloadN K d_jdk_117_method_9_5 rfl (pc' := 6) rfl ?_
  refine putf K (wd43 hw) Via.refl G E (Or.inr ⟨(wd44 hw), rfl, rfl⟩) (wd31 hw) (ty := .double) (by decide) rfl rfl ge_b d_jdk_117_method_9_6 (pc' := 9) rfl ?_
  intro h6 W6
  have X6_b := (Exa.wr W6 E)
  have P6 := (P0.wr W6 (Or.inl (List.mem_of_getElem? (i := 0) rfl)))
  have F6_value_b := Fld.same W6 G
  refine retV K rfl d_jdk_117_method_9_9 (Nat.le_of_ble_eq_true rfl) (Nat.le_of_ble_eq_true rfl) ?_
  exact ⟨rfl, P6, F6_value_b⟩
set_option maxRecDepth 65536 in
set_option maxHeartbeats 40000000 in
theorem c_dv (l : Launch) (Z : State) (a0 : Array Value) (hw : ∀ d ∈ tables_1, d.before a0 Z = true) (ws : List Jvm.Cond) (d : UInt64) (h0 : Heap) (n0 : Nat) (Z0 : n0 ≤ h0.size) :
    Ctr l Z (⟨"java/lang/Double", "valueOf", "(D)Ljava/lang/Double;"⟩ : MethodName) jdk_117_method_4_code 2 (some (.object "java/lang/Double")) ws ({ frames := 3, cells := 1, slots := 1, locals := 39 } : Room) n0 #[(.double d)] h0 (fun v h => Keep h0 h [] ∧ ∃ x : Addr, v = some (.ref x) ∧ h0.size ≤ x ∧ Exa Z h x "java/lang/Double" ∧ Fld Z h x "java/lang/Double" "value" "D" (.double d)) := by
  refine ctr (own := "java/lang/Double") (nm := "valueOf") rfl rfl (Ls := #[.val (.double d), .second]) (plainFor_of_name pn5) (fun m => by first | (simp [entryFrame, mkF, argsToLocals, Value.category]; done) | rfl) ?_
  intro p e s m below meth c K eh
  have P0 := Keep.refl h0 []
  refine newObj K (wd30 hw) (wd31 hw) (wd28 hw) d_jdk_117_method_4_0 (by decide) (by decide) (pc' := 3) rfl ?_
  intro h7 b7 g7 E7 A7 D7
  have lt_b7 : h0.size ≤ b7 := Nat.le_trans P0.1 (Nat.le_of_eq g7.symm)
  have ge_b7 : n0 ≤ b7 := Nat.le_trans Z0 lt_b7
  have P7 := (P0.ext E7)
  have F7_value_b7 : Fld Z h7 b7 "java/lang/Double" "value" "D" (.double (0 : UInt64)) := D7 (Or.inr (wd44 hw)) (ty := .double) (by decide)
  refine Jvm.OwnWp.dup K d_jdk_117_method_4_3 rfl (pc' := 4) rfl ?_
  refine Jvm.OwnWp.dloadN K d_jdk_117_method_4_4 rfl (pc' := 5) rfl ?_
  refine callInit K (y := (⟨"java/lang/Double", "<init>", "(D)V"⟩ : MethodName)) (b := b7) (argsL := [(.double d)]) (S := [(.ref b7)]) rfl (wd32 hw) (wd33 hw) (wd28 hw) (wd35 hw) rfl (by decide) (c_di l Z a0 hw [] b7 d h7 n0 (Nat.le_trans Z0 P7.1) A7 ge_b7 F7_value_b7) (lenOf pd1 rfl) d_jdk_117_method_4_5 rfl (Nat.le_of_ble_eq_true rfl) (Nat.le_of_ble_eq_true rfl) (Nat.le_of_ble_eq_true rfl) (Nat.le_of_ble_eq_true rfl) rfl (pc' := 8) rfl ?_
  rintro v8 h8 ⟨rfl, K8, Q8⟩
  have X8_b7 := (Exa.keep A7 K8)
  have P8 := (P7.trans K8 (allS (Or.inr lt_b7) (all0)))
  show Go _ _ _ _ _ _ _ _ _ _ _ h8 1 1 (mkF m 8 #[.val (.double d), .second] [(.ref b7)]) _
  refine retA K (t := (.object "java/lang/Double")) rfl rfl rfl d_jdk_117_method_4_8 (Nat.le_of_ble_eq_true rfl) (Nat.le_of_ble_eq_true rfl) ?_
  exact ⟨P8, _, rfl, lt_b7, X8_b7, Q8⟩
set_option maxRecDepth 65536 in
set_option maxHeartbeats 40000000 in
theorem c_dval (l : Launch) (Z : State) (a0 : Array Value) (hw : ∀ d ∈ tables_1, d.before a0 Z = true) (ws : List Jvm.Cond) (b : Addr) (d : UInt64) (h0 : Heap) (n0 : Nat) (Z0 : n0 ≤ h0.size) (G : Fld Z h0 b "java/lang/Double" "value" "D" (.double d)) :
    Ctr l Z (⟨"java/lang/Double", "doubleValue", "()D"⟩ : MethodName) jdk_117_method_19_code 1 (some .double) ws ({ frames := 0, cells := 0, slots := 0, locals := 0 } : Room) n0 #[(.ref b)] h0 (fun v h => v = some (.double d) ∧ h0 = h) := by
  refine ctr (own := "java/lang/Double") (nm := "doubleValue") rfl rfl (Ls := #[.val (.ref b)]) (plainFor_of_name pn5) (fun m => by first | (simp [entryFrame, mkF, argsToLocals, Value.category]; done) | rfl) ?_
  intro p e s m below meth c K eh
  refine Jvm.OwnWp.aloadN K d_jdk_117_method_19_0 rfl rfl (pc' := 1) rfl ?_
  refine Jvm.OwnWp.getf K (wd43 hw) Via.refl G d_jdk_117_method_19_1 (pc' := 4) rfl ?_
  refine retD K rfl d_jdk_117_method_19_4 (Nat.le_of_ble_eq_true rfl) (Nat.le_of_ble_eq_true rfl) ?_
  exact ⟨rfl, rfl⟩
set_option maxRecDepth 65536 in
set_option maxHeartbeats 40000000 in
theorem c_max (l : Launch) (Z : State) (a0 : Array Value) (hw : ∀ d ∈ tables_1, d.before a0 Z = true) (ws : List Jvm.Cond) (x y : Int32) (h0 : Heap) (n0 : Nat) (Z0 : n0 ≤ h0.size) :
    Ctr l Z (⟨"java/lang/Math", "max", "(II)I"⟩ : MethodName) jdk_29_method_65_code 2 (some .int) ws ({ frames := 0, cells := 0, slots := 0, locals := 0 } : Room) n0 #[(.int x), (.int y)] h0 (fun v h => v = some (.int (if x < y then y else x)) ∧ h0 = h) := by
  refine ctr (own := "java/lang/Math") (nm := "max") rfl rfl (Ls := #[.val (.int x), .val (.int y)]) (by decide +kernel) (fun m => by first | (simp [entryFrame, mkF, argsToLocals, Value.category]; done) | rfl) ?_
  intro p e s m below meth c K eh
  refine Jvm.OwnWp.iloadN K d_jdk_29_method_65_0 rfl (pc' := 1) rfl ?_
  refine Jvm.OwnWp.iloadN K d_jdk_29_method_65_1 rfl (pc' := 2) rfl ?_
  by_cases c1 : x < y
  · refine icY K d_jdk_29_method_65_2 (XT.ii_lt_t c1) (pc' := 9) (by decide) (by decide) ?_
    refine Jvm.OwnWp.iloadN K d_jdk_29_method_65_9 rfl (pc' := 10) rfl ?_
    refine retI K rfl d_jdk_29_method_65_10 (Nat.le_of_ble_eq_true rfl) (Nat.le_of_ble_eq_true rfl) ?_
    exact ⟨by rw [if_pos c1], rfl⟩
  · refine icN K d_jdk_29_method_65_2 (XT.ii_lt_f c1) (pc' := 5) rfl ?_
    refine Jvm.OwnWp.iloadN K d_jdk_29_method_65_5 rfl (pc' := 6) rfl ?_
    refine goto' K d_jdk_29_method_65_6 (pc' := 10) (by decide) (by decide) ?_
    refine retI K rfl d_jdk_29_method_65_10 (Nat.le_of_ble_eq_true rfl) (Nat.le_of_ble_eq_true rfl) ?_
    exact ⟨by rw [if_neg c1], rfl⟩
set_option maxRecDepth 65536 in
set_option maxHeartbeats 40000000 in
theorem c_growI (l : Launch) (Z : State) (a0 : Array Value) (hw : ∀ d ∈ tables_1, d.before a0 Z = true) (ws : List Jvm.Cond) (b u : Addr) (mc : Int32) (h0 : Heap) (n0 : Nat) (Z0 : n0 ≤ h0.size) (E : Exa Z h0 b "java/util/ArrayList") (ge_b : n0 ≤ b) (F_modCount : Fld Z h0 b "java/util/AbstractList" "modCount" "I" (.int mc)) (F_elementData : Fld Z h0 b "java/util/ArrayList" "elementData" "[Ljava/lang/Object;" (.ref u)) (F_size : Fld Z h0 b "java/util/ArrayList" "size" "I" (.int 0)) (S_u : Sta Z Z.heap "java/util/ArrayList" "DEFAULTCAPACITY_EMPTY_ELEMENTDATA" "[Ljava/lang/Object;" (.ref u)) (V0 : Vec Z Z.heap u (.object "java/lang/Object") []) (O0 : Old Z n0 h0) :
    Ctr l Z (⟨"java/util/ArrayList", "grow", "(I)[Ljava/lang/Object;"⟩ : MethodName) jdk_38_method_6_code 4 (some (.array (.object "java/lang/Object"))) ws ({ frames := 1, cells := 1, slots := 10, locals := 14 } : Room) n0 #[(.ref b), (.int 1)] h0 (fun v h => Keep h0 h [b] ∧ ∃ ea : Addr, v = some (.ref ea) ∧ h0.size ≤ ea ∧ VecR Z h ea "java/lang/Object" (List.replicate 10 .null) ∧ Fld Z h b "java/util/AbstractList" "modCount" "I" (.int mc) ∧ Fld Z h b "java/util/ArrayList" "elementData" "[Ljava/lang/Object;" (.ref ea) ∧ Fld Z h b "java/util/ArrayList" "size" "I" (.int 0)) := by
  refine ctr (own := "java/util/ArrayList") (nm := "grow") rfl rfl (Ls := #[.val (.ref b), .val (.int 1), .unset, .unset]) (plainFor_of_name pn4) (fun m => by first | (simp [entryFrame, mkF, argsToLocals, Value.category]; done) | rfl) ?_
  intro p e s m below meth c K eh
  have P0 := Keep.refl h0 [b]
  show Go _ _ _ _ _ _ _ _ _ _ _ h0 0 0 (mkF m 0 #[.val (.ref b), .val (.int (1 : Int32)), .unset, .unset] []) _
  refine Jvm.OwnWp.aloadN K d_jdk_38_method_6_0 rfl rfl (pc' := 1) rfl ?_
  refine Jvm.OwnWp.getf K (wd24 hw) Via.refl F_elementData d_jdk_38_method_6_1 (pc' := 4) rfl ?_
  refine alen K (V0.ext O0.2) d_jdk_38_method_6_4 (pc' := 5) rfl ?_
  show Go _ _ _ _ _ _ _ _ _ _ _ h0 0 0 (mkF m 5 #[.val (.ref b), .val (.int (1 : Int32)), .unset, .unset] [(.int (0 : Int32))]) _
  refine Jvm.OwnWp.istoreN K d_jdk_38_method_6_5 (Ls' := #[.val (.ref b), .val (.int (1 : Int32)), .val (.int (0 : Int32)), .unset]) rfl (pc' := 6) rfl ?_
  refine Jvm.OwnWp.iloadN K d_jdk_38_method_6_6 rfl (pc' := 7) rfl ?_
  refine ifN K d_jdk_38_method_6_7 (by decide) (pc' := 10) rfl ?_
  refine Jvm.OwnWp.aloadN K d_jdk_38_method_6_10 rfl rfl (pc' := 11) rfl ?_
  refine Jvm.OwnWp.getf K (wd24 hw) Via.refl F_elementData d_jdk_38_method_6_11 (pc' := 14) rfl ?_
  refine Jvm.OwnWp.gets K (wd23 hw) Via.refl (Sta.ext O0.2 S_u) d_jdk_38_method_6_14 (pc' := 17) rfl ?_
  refine acY K d_jdk_38_method_6_17 rfl rfl (XT.aa_eq_t rfl) (pc' := 45) (by decide) (by decide) ?_
  refine Jvm.OwnWp.aloadN K d_jdk_38_method_6_45 rfl rfl (pc' := 46) rfl ?_
  refine Jvm.OwnWp.bipush K (10 : Int32) d_jdk_38_method_6_46 (by decide) (pc' := 48) rfl ?_
  refine Jvm.OwnWp.iloadN K d_jdk_38_method_6_48 rfl (pc' := 49) rfl ?_
  refine callStatic K (y := (⟨"java/lang/Math", "max", "(II)I"⟩ : MethodName)) (argsL := [(.int (10 : Int32)), (.int (1 : Int32))]) (S := [(.ref b)]) (wd69 hw) (wd70 hw) (wd71 hw) (wd72 hw) (by decide) (c_max l Z a0 hw [] 10 1 h0 n0 Z0) (lenOf pd2 rfl) d_jdk_38_method_6_49 rfl (Nat.le_of_ble_eq_true rfl) (Nat.le_of_ble_eq_true rfl) (Nat.le_of_ble_eq_true rfl) (Nat.le_of_ble_eq_true rfl) rfl (pc' := 52) rfl ?_
  rintro v9 h9 ⟨rfl, rfl⟩
  show Go _ _ _ _ _ _ _ _ _ _ _ h0 0 0 (mkF m 52 #[.val (.ref b), .val (.int (1 : Int32)), .val (.int (0 : Int32)), .unset] [(.int (10 : Int32)), (.ref b)]) _
  refine newArrR K (N := 10) (wd73 hw) (wd74 hw) (by decide) (by decide) d_jdk_38_method_6_52 (Nat.le_of_ble_eq_true rfl) (Nat.le_of_ble_eq_true rfl) (pc' := 55) rfl ?_
  intro h10 b10 g10 E10 A10
  have ne_b_b10 : b ≠ b10 := Nat.ne_of_lt (Nat.lt_of_lt_of_eq (Exa.lt E) g10.symm)
  have lt_b10 : h0.size ≤ b10 := Nat.le_trans P0.1 (Nat.le_of_eq g10.symm)
  have ge_b10 : n0 ≤ b10 := Nat.le_trans Z0 lt_b10
  have F10_modCount_b := (Fld.ext E10 F_modCount)
  have F10_elementData_b := (Fld.ext E10 F_elementData)
  have F10_size_b := (Fld.ext E10 F_size)
  have X10_b := (Exa.ext E10 E)
  have O10 := (O0.ext E10)
  have P10 := (P0.ext E10)
  refine Jvm.OwnWp.dupX1 K d_jdk_38_method_6_55 rfl rfl (pc' := 56) rfl ?_
  refine putf K (wd24 hw) Via.refl F10_elementData_b X10_b (Or.inl (wd25 hw)) (wd1 hw) (ty := (.array (.object "java/lang/Object"))) (by decide) rfl rfl ge_b d_jdk_38_method_6_56 (pc' := 59) rfl ?_
  intro h11 W11
  have F11_modCount_b := (Fld.other W11 F10_modCount_b (Or.inr (sn_ArrayList_modCount_elementData hw)))
  have F11_size_b := (Fld.other W11 F10_size_b (Or.inr (sn_ArrayList_size_elementData hw)))
  have X11_b := (Exa.wr W11 X10_b)
  have V11_b10 := (A10.other W11 (Ne.symm ne_b_b10))
  have O11 := (O10.wr W11 ge_b)
  have P11 := (P10.wr W11 (Or.inl (List.mem_of_getElem? (i := 0) rfl)))
  have F11_elementData_b := Fld.same W11 F10_elementData_b
  refine retA K (t := (.array (.object "java/lang/Object"))) rfl rfl rfl d_jdk_38_method_6_59 (Nat.le_of_ble_eq_true rfl) (Nat.le_of_ble_eq_true rfl) ?_
  exact ⟨P11, _, rfl, lt_b10, V11_b10, F11_modCount_b, F11_elementData_b, F11_size_b⟩
set_option maxRecDepth 65536 in
set_option maxHeartbeats 40000000 in
theorem c_grow (l : Launch) (Z : State) (a0 : Array Value) (hw : ∀ d ∈ tables_1, d.before a0 Z = true) (ws : List Jvm.Cond) (b u : Addr) (mc : Int32) (h0 : Heap) (n0 : Nat) (Z0 : n0 ≤ h0.size) (E : Exa Z h0 b "java/util/ArrayList") (ge_b : n0 ≤ b) (F_modCount : Fld Z h0 b "java/util/AbstractList" "modCount" "I" (.int mc)) (F_elementData : Fld Z h0 b "java/util/ArrayList" "elementData" "[Ljava/lang/Object;" (.ref u)) (F_size : Fld Z h0 b "java/util/ArrayList" "size" "I" (.int 0)) (S_u : Sta Z Z.heap "java/util/ArrayList" "DEFAULTCAPACITY_EMPTY_ELEMENTDATA" "[Ljava/lang/Object;" (.ref u)) (V0 : Vec Z Z.heap u (.object "java/lang/Object") []) (O0 : Old Z n0 h0) :
    Ctr l Z (⟨"java/util/ArrayList", "grow", "()[Ljava/lang/Object;"⟩ : MethodName) jdk_38_method_7_code 1 (some (.array (.object "java/lang/Object"))) ws ({ frames := 2, cells := 1, slots := 10, locals := 29 } : Room) n0 #[(.ref b)] h0 (fun v h => Keep h0 h [b] ∧ ∃ ea : Addr, v = some (.ref ea) ∧ h0.size ≤ ea ∧ VecR Z h ea "java/lang/Object" (List.replicate 10 .null) ∧ Fld Z h b "java/util/AbstractList" "modCount" "I" (.int mc) ∧ Fld Z h b "java/util/ArrayList" "elementData" "[Ljava/lang/Object;" (.ref ea) ∧ Fld Z h b "java/util/ArrayList" "size" "I" (.int 0)) := by
  refine ctr (own := "java/util/ArrayList") (nm := "grow") rfl rfl (Ls := #[.val (.ref b)]) (plainFor_of_name pn4) (fun m => by first | (simp [entryFrame, mkF, argsToLocals, Value.category]; done) | rfl) ?_
  intro p e s m below meth c K eh
  have P0 := Keep.refl h0 [b]
  refine Jvm.OwnWp.aloadN K d_jdk_38_method_7_0 rfl rfl (pc' := 1) rfl ?_
  refine Jvm.OwnWp.aloadN K d_jdk_38_method_7_1 rfl rfl (pc' := 2) rfl ?_
  refine Jvm.OwnWp.getf K (wd52 hw) Via.refl F_size d_jdk_38_method_7_2 (pc' := 5) rfl ?_
  refine Jvm.OwnWp.iconst K (1 : Int32) d_jdk_38_method_7_5 (by decide) (pc' := 6) rfl ?_
  refine Jvm.OwnWp.iadd K d_jdk_38_method_7_6 (pc' := 7) rfl ?_
  show Go _ _ _ _ _ _ _ _ _ _ _ h0 0 0 (mkF m 7 #[.val (.ref b)] [(.int 1), (.ref b)]) _
  refine callPriv K (y := (⟨"java/util/ArrayList", "grow", "(I)[Ljava/lang/Object;"⟩ : MethodName)) (b := b) (argsL := [(.int 1)]) (S := []) (wd64 hw) (wd65 hw) (wd66 hw) (wd1 hw) (wd2 hw) (wd68 hw) (by decide) E (c_growI l Z a0 hw [] b u mc h0 n0 Z0 E ge_b F_modCount F_elementData F_size S_u V0 O0) (lenOf pd3 rfl) d_jdk_38_method_7_7 rfl (Nat.le_of_ble_eq_true rfl) (Nat.le_of_ble_eq_true rfl) (Nat.le_of_ble_eq_true rfl) (Nat.le_of_ble_eq_true rfl) rfl (pc' := 10) rfl ?_
  rintro v12 h12 ⟨K12, ea12, rfl, lt12, V12, Q12_F_modCount, Q12_F_elementData, Q12_F_size⟩
  have ne_b_ea12 : b ≠ ea12 := Nat.ne_of_lt (Nat.lt_of_lt_of_le (Exa.lt E) lt12)
  have lt_ea12 : h0.size ≤ ea12 := Nat.le_trans P0.1 lt12
  have ge_ea12 : n0 ≤ ea12 := Nat.le_trans Z0 lt_ea12
  have X12_b := (Exa.keep E K12)
  have O12 := (O0.keep K12 (allS ge_b (all0)))
  have P12 := (P0.trans K12 (allS (Or.inl (List.mem_of_getElem? (i := 0) rfl)) (all0)))
  show Go _ _ _ _ _ _ _ _ _ _ _ h12 1 10 (mkF m 10 #[.val (.ref b)] [(.ref ea12)]) _
  refine retA K (t := (.array (.object "java/lang/Object"))) rfl rfl rfl d_jdk_38_method_7_10 (Nat.le_of_ble_eq_true rfl) (Nat.le_of_ble_eq_true rfl) ?_
  exact ⟨P12, _, rfl, lt_ea12, V12, Q12_F_modCount, Q12_F_elementData, Q12_F_size⟩
set_option maxRecDepth 65536 in
set_option maxHeartbeats 40000000 in
theorem c_add3a (l : Launch) (Z : State) (a0 : Array Value) (hw : ∀ d ∈ tables_1, d.before a0 Z = true) (ws : List Jvm.Cond) (b x u : Addr) (mc : Int32) (h0 : Heap) (n0 : Nat) (Z0 : n0 ≤ h0.size) (E : Exa Z h0 b "java/util/ArrayList") (ge_b : n0 ≤ b) (X : Exa Z h0 x "java/lang/Double") (ne_x_b : x ≠ b) (F_modCount : Fld Z h0 b "java/util/AbstractList" "modCount" "I" (.int mc)) (F_elementData : Fld Z h0 b "java/util/ArrayList" "elementData" "[Ljava/lang/Object;" (.ref u)) (F_size : Fld Z h0 b "java/util/ArrayList" "size" "I" (.int 0)) (S_u : Sta Z Z.heap "java/util/ArrayList" "DEFAULTCAPACITY_EMPTY_ELEMENTDATA" "[Ljava/lang/Object;" (.ref u)) (V0 : Vec Z Z.heap u (.object "java/lang/Object") []) (O0 : Old Z n0 h0) :
    Ctr l Z (⟨"java/util/ArrayList", "add", "(Ljava/lang/Object;[Ljava/lang/Object;I)V"⟩ : MethodName) jdk_38_method_24_code 4 none ws ({ frames := 3, cells := 1, slots := 10, locals := 41 } : Room) n0 #[(.ref b), (.ref x), (.ref u), (.int (0 : Int32))] h0 (fun v h => v = none ∧ Keep h0 h [b] ∧ ∃ ea : Addr, h0.size ≤ ea ∧ VecR Z h ea "java/lang/Object" ((List.replicate 10 .null).set 0 (.ref x)) ∧ Fld Z h b "java/util/AbstractList" "modCount" "I" (.int mc) ∧ Fld Z h b "java/util/ArrayList" "elementData" "[Ljava/lang/Object;" (.ref ea) ∧ Fld Z h b "java/util/ArrayList" "size" "I" (.int 1)) := by
  refine ctr (own := "java/util/ArrayList") (nm := "add") rfl rfl (Ls := #[.val (.ref b), .val (.ref x), .val (.ref u), .val (.int (0 : Int32))]) (plainFor_of_name pn4) (fun m => by first | (simp [entryFrame, mkF, argsToLocals, Value.category]; done) | rfl) ?_
  intro p e s m below meth c K eh
  have P0 := Keep.refl h0 [b]
  refine Jvm.OwnWp.iloadN K d_jdk_38_method_24_0 rfl (pc' := 1) rfl ?_
  refine Jvm.OwnWp.aloadN K d_jdk_38_method_24_1 rfl rfl (pc' := 2) rfl ?_
  refine alen K (V0.ext O0.2) d_jdk_38_method_24_2 (pc' := 3) rfl ?_
  show Go _ _ _ _ _ _ _ _ _ _ _ h0 0 0 (mkF m 3 #[.val (.ref b), .val (.ref x), .val (.ref u), .val (.int (0 : Int32))] [(.int (0 : Int32)), (.int (0 : Int32))]) _
  refine icN K d_jdk_38_method_24_3 (by decide) (pc' := 6) rfl ?_
  refine Jvm.OwnWp.aloadN K d_jdk_38_method_24_6 rfl rfl (pc' := 7) rfl ?_
  refine callPriv K (y := (⟨"java/util/ArrayList", "grow", "()[Ljava/lang/Object;"⟩ : MethodName)) (b := b) (argsL := []) (S := []) (wd59 hw) (wd60 hw) (wd61 hw) (wd1 hw) (wd2 hw) (wd63 hw) (by decide) E (c_grow l Z a0 hw [] b u mc h0 n0 Z0 E ge_b F_modCount F_elementData F_size S_u V0 O0) (lenOf pd4 rfl) d_jdk_38_method_24_7 rfl (Nat.le_of_ble_eq_true rfl) (Nat.le_of_ble_eq_true rfl) (Nat.le_of_ble_eq_true rfl) (Nat.le_of_ble_eq_true rfl) rfl (pc' := 10) rfl ?_
  rintro v13 h13 ⟨K13, ea13, rfl, lt13, V13, Q13_F_modCount, Q13_F_elementData, Q13_F_size⟩
  have ne_b_ea13 : b ≠ ea13 := Nat.ne_of_lt (Nat.lt_of_lt_of_le (Exa.lt E) lt13)
  have ne_x_ea13 : x ≠ ea13 := Nat.ne_of_lt (Nat.lt_of_lt_of_le (Exa.lt X) lt13)
  have lt_ea13 : h0.size ≤ ea13 := Nat.le_trans P0.1 lt13
  have ge_ea13 : n0 ≤ ea13 := Nat.le_trans Z0 lt_ea13
  have X13_b := (Exa.keep E K13)
  have X13_x := (Exa.keep X K13)
  have O13 := (O0.keep K13 (allS ge_b (all0)))
  have P13 := (P0.trans K13 (allS (Or.inl (List.mem_of_getElem? (i := 0) rfl)) (all0)))
  show Go _ _ _ _ _ _ _ _ _ _ _ h13 1 10 (mkF m 10 #[.val (.ref b), .val (.ref x), .val (.ref u), .val (.int (0 : Int32))] [(.ref ea13)]) _
  refine Jvm.OwnWp.astoreN K d_jdk_38_method_24_10 rfl (Ls' := #[.val (.ref b), .val (.ref x), .val (.ref ea13), .val (.int (0 : Int32))]) rfl (pc' := 11) rfl ?_
  refine Jvm.OwnWp.aloadN K d_jdk_38_method_24_11 rfl rfl (pc' := 12) rfl ?_
  refine Jvm.OwnWp.iloadN K d_jdk_38_method_24_12 rfl (pc' := 13) rfl ?_
  refine Jvm.OwnWp.aloadN K d_jdk_38_method_24_13 rfl rfl (pc' := 14) rfl ?_
  refine aastore K (i := 0) V13 (Or.inr ⟨x, rfl, Ins.of_exa X13_x (wd75 hw)⟩) (by decide) (by simp) ge_ea13 d_jdk_38_method_24_14 (pc' := 15) rfl ?_
  intro h14 W14
  have F14_modCount_b := (Fld.other W14 Q13_F_modCount (Or.inl ne_b_ea13))
  have F14_elementData_b := (Fld.other W14 Q13_F_elementData (Or.inl ne_b_ea13))
  have F14_size_b := (Fld.other W14 Q13_F_size (Or.inl ne_b_ea13))
  have X14_b := (Exa.wr W14 X13_b)
  have X14_x := (Exa.wr W14 X13_x)
  have O14 := (O13.wr W14 ge_ea13)
  have P14 := (P13.wr W14 (Or.inr lt_ea13))
  have V14_ea13 := V13.set W14
  refine Jvm.OwnWp.aloadN K d_jdk_38_method_24_15 rfl rfl (pc' := 16) rfl ?_
  refine Jvm.OwnWp.iloadN K d_jdk_38_method_24_16 rfl (pc' := 17) rfl ?_
  refine Jvm.OwnWp.iconst K (1 : Int32) d_jdk_38_method_24_17 (by decide) (pc' := 18) rfl ?_
  refine Jvm.OwnWp.iadd K d_jdk_38_method_24_18 (pc' := 19) rfl ?_
  refine putf K (wd52 hw) Via.refl F14_size_b X14_b (Or.inl (wd53 hw)) (wd1 hw) (ty := .int) (by decide) rfl rfl ge_b d_jdk_38_method_24_19 (pc' := 22) rfl ?_
  intro h15 W15
  have F15_modCount_b := (Fld.other W15 F14_modCount_b (Or.inr (sn_ArrayList_modCount_size hw)))
  have F15_elementData_b := (Fld.other W15 F14_elementData_b (Or.inr (sn_ArrayList_elementData_size hw)))
  have X15_b := (Exa.wr W15 X14_b)
  have X15_x := (Exa.wr W15 X14_x)
  have V15_ea13 := (V14_ea13.other W15 (Ne.symm ne_b_ea13))
  have O15 := (O14.wr W15 ge_b)
  have P15 := (P14.wr W15 (Or.inl (List.mem_of_getElem? (i := 0) rfl)))
  have F15_size_b := Fld.same W15 F14_size_b
  refine retV K rfl d_jdk_38_method_24_22 (Nat.le_of_ble_eq_true rfl) (Nat.le_of_ble_eq_true rfl) ?_
  exact ⟨rfl, P15, _, lt_ea13, V15_ea13, F15_modCount_b, F15_elementData_b, F15_size_b⟩
set_option maxRecDepth 65536 in
set_option maxHeartbeats 40000000 in
theorem c_adda (l : Launch) (Z : State) (a0 : Array Value) (hw : ∀ d ∈ tables_1, d.before a0 Z = true) (ws : List Jvm.Cond) (b x u : Addr) (mc : Int32) (h0 : Heap) (n0 : Nat) (Z0 : n0 ≤ h0.size) (E : Exa Z h0 b "java/util/ArrayList") (ge_b : n0 ≤ b) (X : Exa Z h0 x "java/lang/Double") (ne_x_b : x ≠ b) (F_modCount : Fld Z h0 b "java/util/AbstractList" "modCount" "I" (.int mc)) (F_elementData : Fld Z h0 b "java/util/ArrayList" "elementData" "[Ljava/lang/Object;" (.ref u)) (F_size : Fld Z h0 b "java/util/ArrayList" "size" "I" (.int 0)) (S_u : Sta Z Z.heap "java/util/ArrayList" "DEFAULTCAPACITY_EMPTY_ELEMENTDATA" "[Ljava/lang/Object;" (.ref u)) (V0 : Vec Z Z.heap u (.object "java/lang/Object") []) (O0 : Old Z n0 h0) :
    Ctr l Z (⟨"java/util/ArrayList", "add", "(Ljava/lang/Object;)Z"⟩ : MethodName) jdk_38_method_25_code 2 (some .boolean) ws ({ frames := 4, cells := 1, slots := 10, locals := 56 } : Room) n0 #[(.ref b), (.ref x)] h0 (fun v h => v = some (.int 1) ∧ Keep h0 h [b] ∧ ∃ ea : Addr, h0.size ≤ ea ∧ VecR Z h ea "java/lang/Object" ((List.replicate 10 .null).set 0 (.ref x)) ∧ Fld Z h b "java/util/AbstractList" "modCount" "I" (.int (mc + 1)) ∧ Fld Z h b "java/util/ArrayList" "elementData" "[Ljava/lang/Object;" (.ref ea) ∧ Fld Z h b "java/util/ArrayList" "size" "I" (.int 1)) := by
  refine ctr (own := "java/util/ArrayList") (nm := "add") rfl rfl (Ls := #[.val (.ref b), .val (.ref x)]) (plainFor_of_name pn4) (fun m => by first | (simp [entryFrame, mkF, argsToLocals, Value.category]; done) | rfl) ?_
  intro p e s m below meth c K eh
  have P0 := Keep.refl h0 [b]
  refine Jvm.OwnWp.aloadN K d_jdk_38_method_25_0 rfl rfl (pc' := 1) rfl ?_
  refine Jvm.OwnWp.dup K d_jdk_38_method_25_1 rfl (pc' := 2) rfl ?_
  refine Jvm.OwnWp.getf K (wd50 hw) (Via.of (wd51 hw)) F_modCount d_jdk_38_method_25_2 (pc' := 5) rfl ?_
  refine Jvm.OwnWp.iconst K (1 : Int32) d_jdk_38_method_25_5 (by decide) (pc' := 6) rfl ?_
  refine Jvm.OwnWp.iadd K d_jdk_38_method_25_6 (pc' := 7) rfl ?_
  refine putf K (wd50 hw) (Via.of (wd51 hw)) F_modCount E (Or.inl (wd22 hw)) (wd1 hw) (ty := .int) (by decide) rfl rfl ge_b d_jdk_38_method_25_7 (pc' := 10) rfl ?_
  intro h16 W16
  have F16_elementData_b := (Fld.other W16 F_elementData (Or.inr (sn_ArrayList_elementData_modCount hw)))
  have F16_size_b := (Fld.other W16 F_size (Or.inr (sn_ArrayList_size_modCount hw)))
  have X16_b := (Exa.wr W16 E)
  have X16_x := (Exa.wr W16 X)
  have O16 := (O0.wr W16 ge_b)
  have P16 := (P0.wr W16 (Or.inl (List.mem_of_getElem? (i := 0) rfl)))
  have F16_modCount_b := Fld.same W16 F_modCount
  refine Jvm.OwnWp.aloadN K d_jdk_38_method_25_10 rfl rfl (pc' := 11) rfl ?_
  refine Jvm.OwnWp.aloadN K d_jdk_38_method_25_11 rfl rfl (pc' := 12) rfl ?_
  refine Jvm.OwnWp.aloadN K d_jdk_38_method_25_12 rfl rfl (pc' := 13) rfl ?_
  refine Jvm.OwnWp.getf K (wd24 hw) Via.refl F16_elementData_b d_jdk_38_method_25_13 (pc' := 16) rfl ?_
  refine Jvm.OwnWp.aloadN K d_jdk_38_method_25_16 rfl rfl (pc' := 17) rfl ?_
  refine Jvm.OwnWp.getf K (wd52 hw) Via.refl F16_size_b d_jdk_38_method_25_17 (pc' := 20) rfl ?_
  refine callPriv K (y := (⟨"java/util/ArrayList", "add", "(Ljava/lang/Object;[Ljava/lang/Object;I)V"⟩ : MethodName)) (b := b) (argsL := [(.ref x), (.ref u), (.int (0 : Int32))]) (S := []) (wd54 hw) (wd55 hw) (wd56 hw) (wd1 hw) (wd2 hw) (wd58 hw) (by decide) X16_b (c_add3a l Z a0 hw [] b x u (mc + 1) h16 n0 (Nat.le_trans Z0 P16.1) X16_b ge_b X16_x ne_x_b F16_modCount_b F16_elementData_b F16_size_b S_u V0 O16) (lenOf pd5 rfl) d_jdk_38_method_25_20 rfl (Nat.le_of_ble_eq_true rfl) (Nat.le_of_ble_eq_true rfl) (Nat.le_of_ble_eq_true rfl) (Nat.le_of_ble_eq_true rfl) rfl (pc' := 23) rfl ?_
  rintro v17 h17 ⟨rfl, K17, ea17, lt17, V17, Q17_F_modCount, Q17_F_elementData, Q17_F_size⟩
  have ne_b_ea17 : b ≠ ea17 := Nat.ne_of_lt (Nat.lt_of_lt_of_le (Exa.lt X16_b) lt17)
  have ne_x_ea17 : x ≠ ea17 := Nat.ne_of_lt (Nat.lt_of_lt_of_le (Exa.lt X16_x) lt17)
  have lt_ea17 : h0.size ≤ ea17 := Nat.le_trans P16.1 lt17
  have ge_ea17 : n0 ≤ ea17 := Nat.le_trans Z0 lt_ea17
  have X17_b := (Exa.keep X16_b K17)
  have X17_x := (Exa.keep X16_x K17)
  have O17 := (O16.keep K17 (allS ge_b (all0)))
  have P17 := (P16.trans K17 (allS (Or.inl (List.mem_of_getElem? (i := 0) rfl)) (all0)))
  show Go _ _ _ _ _ _ _ _ _ _ _ h17 1 10 (mkF m 23 #[.val (.ref b), .val (.ref x)] []) _
  refine Jvm.OwnWp.iconst K (1 : Int32) d_jdk_38_method_25_23 (by decide) (pc' := 24) rfl ?_
  refine retB K (t := .boolean) rfl (by simp) d_jdk_38_method_25_24 (Nat.le_of_ble_eq_true rfl) (Nat.le_of_ble_eq_true rfl) ?_
  exact ⟨rfl, P17, _, lt_ea17, V17, Q17_F_modCount, Q17_F_elementData, Q17_F_size⟩
theorem own_k {k : Nat} (h : k < 10) : (Int32.ofNat k).toInt = (k : Int) := Int32.toInt_ofNat_of_lt (by omega)
theorem own_k1 {k : Nat} (h : k < 10) : Int32.ofNat k + 1 = Int32.ofNat (k + 1) := by
  apply Int32.toInt_inj.mp
  rw [Int32.toInt_add, own_k h, Int32.toInt_ofNat_of_lt (by omega)]; have := Int.bmod_eq_of_le (n := (k : Int) + (1 : Int32).toInt) (m := 2 ^ 32) (by simp; omega) (by simp; omega); rw [this]; simp
theorem own_k10 {k : Nat} (h : k < 10) : ¬ Int32.ofNat k = (10 : Int32) := fun q => by have := own_k h; rw [q] at this; simp at this; omega
theorem own_four (x : Int32) : (x &&& 3) = 0 ∨ (x &&& 3) = 1 ∨ (x &&& 3) = 2 ∨ (x &&& 3) = 3 := by
  obtain ⟨a1, a2⟩ := c_and x 3 (by decide)
  simp only [Int32.reduceToInt] at a2
  have h : (x &&& 3).toInt = 0 ∨ (x &&& 3).toInt = 1 ∨ (x &&& 3).toInt = 2 ∨ (x &&& 3).toInt = 3 := by omega
  rcases h with h | h | h | h
  · exact Or.inl (Int32.toInt_inj.mp (by rw [h]; rfl))
  · exact Or.inr (Or.inl (Int32.toInt_inj.mp (by rw [h]; rfl)))
  · exact Or.inr (Or.inr (Or.inl (Int32.toInt_inj.mp (by rw [h]; rfl))))
  · exact Or.inr (Or.inr (Or.inr (Int32.toInt_inj.mp (by rw [h]; rfl))))
theorem own_arr0 {Z : State} {args : Array Value} {t : Term} {u : Addr} {ty : FieldType} (ev : t.eval args Z none [] Z = some (.ref u)) (h1 : (Jvm.Cond.arrayOf t ty).value args Z none Z [] = some true) (h2 : (Jvm.Cond.eq (Jvm.Term.length t) (Jvm.Term.int (0 : Int32))).value args Z none Z [] = some true) : Vec Z Z.heap u ty [] := by
  obtain ⟨cl, A⟩ := Arr.start ev h1
  have e := eqI h2 (Term.int_eval 0)
  obtain ⟨x, cell, e1, e2, e3⟩ := Term.length_spec e
  cases ev.symm.trans e1
  have e4 := Arr.fin (Z := Z) (U := Z) (Vm.Alike.refl _) A
  cases e4.symm.trans e2
  have e5 : (Term.length t).eval args Z none [] Z = some (.int 0) := e
  refine ⟨cl, A, ?_, by simp⟩
  have hb : cl.slots.size < 2 ^ 31 := by
    by_cases q : cl.slots.size < 2 ^ 31
    · exact q
    · simp [Term.eval, ev, e4, q] at e5
  have e6 : cl.slots.size.toInt32.toInt = cl.slots.size := len_toInt hb
  rw [← Value.int.inj e3] at e6
  have : cl.slots.size = 0 := by simpa using e6.symm
  have h0 : cl.slots = #[] := Array.eq_empty_of_size_eq_zero this
  rw [h0]
set_option maxRecDepth 65536 in
set_option maxHeartbeats 40000000 in
theorem c_add3b (l : Launch) (Z : State) (a0 : Array Value) (hw : ∀ d ∈ tables_1, d.before a0 Z = true) (ws : List Jvm.Cond) (b x ea : Addr) (mc : Int32) (k : Nat) (xs : List Value) (h0 : Heap) (n0 : Nat) (Z0 : n0 ≤ h0.size) (hl : xs.length = 10) (hk : k < 10) (E : Exa Z h0 b "java/util/ArrayList") (ge_b : n0 ≤ b) (X : Exa Z h0 x "java/lang/Double") (ne_x_b : x ≠ b) (ge_ea : n0 ≤ ea) (ne_ea_b : ea ≠ b) (ne_x_ea : x ≠ ea) (F_modCount : Fld Z h0 b "java/util/AbstractList" "modCount" "I" (.int mc)) (F_elementData : Fld Z h0 b "java/util/ArrayList" "elementData" "[Ljava/lang/Object;" (.ref ea)) (F_size : Fld Z h0 b "java/util/ArrayList" "size" "I" (.int (Int32.ofNat k))) (V : VecR Z h0 ea "java/lang/Object" xs) :
    Ctr l Z (⟨"java/util/ArrayList", "add", "(Ljava/lang/Object;[Ljava/lang/Object;I)V"⟩ : MethodName) jdk_38_method_24_code 4 none ws ({ frames := 0, cells := 0, slots := 0, locals := 0 } : Room) n0 #[(.ref b), (.ref x), (.ref ea), (.int (Int32.ofNat k))] h0 (fun v h => v = none ∧ Keep h0 h [b, ea] ∧ VecR Z h ea "java/lang/Object" (xs.set k (.ref x)) ∧ Fld Z h b "java/util/AbstractList" "modCount" "I" (.int mc) ∧ Fld Z h b "java/util/ArrayList" "elementData" "[Ljava/lang/Object;" (.ref ea) ∧ Fld Z h b "java/util/ArrayList" "size" "I" (.int (Int32.ofNat (k + 1)))) := by
  refine ctr (own := "java/util/ArrayList") (nm := "add") rfl rfl (Ls := #[.val (.ref b), .val (.ref x), .val (.ref ea), .val (.int (Int32.ofNat k))]) (plainFor_of_name pn4) (fun m => by first | (simp [entryFrame, mkF, argsToLocals, Value.category]; done) | rfl) ?_
  intro p e s m below meth c K eh
  have P0 := Keep.refl h0 [b, ea]
  refine Jvm.OwnWp.iloadN K d_jdk_38_method_24_0 rfl (pc' := 1) rfl ?_
  refine Jvm.OwnWp.aloadN K d_jdk_38_method_24_1 rfl rfl (pc' := 2) rfl ?_
  refine alen K V.vec d_jdk_38_method_24_2 (pc' := 3) rfl ?_
  rw [hl]
  show Go _ _ _ _ _ _ _ _ _ _ _ h0 0 0 (mkF m 3 #[.val (.ref b), .val (.ref x), .val (.ref ea), .val (.int (Int32.ofNat k))] [(.int (10 : Int32)), (.int (Int32.ofNat k))]) _
  refine icY K d_jdk_38_method_24_3 (XT.ii_ne_t (own_k10 hk)) (pc' := 11) (by decide) (by decide) ?_
  refine Jvm.OwnWp.aloadN K d_jdk_38_method_24_11 rfl rfl (pc' := 12) rfl ?_
  refine Jvm.OwnWp.iloadN K d_jdk_38_method_24_12 rfl (pc' := 13) rfl ?_
  refine Jvm.OwnWp.aloadN K d_jdk_38_method_24_13 rfl rfl (pc' := 14) rfl ?_
  refine aastore K (i := k) V (Or.inr ⟨x, rfl, Ins.of_exa X (wd75 hw)⟩) (own_k hk) (by omega) ge_ea d_jdk_38_method_24_14 (pc' := 15) rfl ?_
  intro h18 W18
  have F18_modCount_b := (Fld.other W18 F_modCount (Or.inl (Ne.symm ne_ea_b)))
  have F18_elementData_b := (Fld.other W18 F_elementData (Or.inl (Ne.symm ne_ea_b)))
  have F18_size_b := (Fld.other W18 F_size (Or.inl (Ne.symm ne_ea_b)))
  have X18_b := (Exa.wr W18 E)
  have X18_x := (Exa.wr W18 X)
  have P18 := (P0.wr W18 (Or.inl (List.mem_of_getElem? (i := 1) rfl)))
  have V18_ea := V.set W18
  refine Jvm.OwnWp.aloadN K d_jdk_38_method_24_15 rfl rfl (pc' := 16) rfl ?_
  refine Jvm.OwnWp.iloadN K d_jdk_38_method_24_16 rfl (pc' := 17) rfl ?_
  refine Jvm.OwnWp.iconst K (1 : Int32) d_jdk_38_method_24_17 (by decide) (pc' := 18) rfl ?_
  refine Jvm.OwnWp.iadd K d_jdk_38_method_24_18 (pc' := 19) rfl ?_
  rw [show (Int32.ofNat k) + (1 : Int32) = Int32.ofNat (k + 1) from own_k1 hk]
  refine putf K (wd52 hw) Via.refl F18_size_b X18_b (Or.inl (wd53 hw)) (wd1 hw) (ty := .int) (by decide) rfl rfl ge_b d_jdk_38_method_24_19 (pc' := 22) rfl ?_
  intro h19 W19
  have F19_modCount_b := (Fld.other W19 F18_modCount_b (Or.inr (sn_ArrayList_modCount_size hw)))
  have F19_elementData_b := (Fld.other W19 F18_elementData_b (Or.inr (sn_ArrayList_elementData_size hw)))
  have X19_b := (Exa.wr W19 X18_b)
  have X19_x := (Exa.wr W19 X18_x)
  have V19_ea := (V18_ea.other W19 ne_ea_b)
  have P19 := (P18.wr W19 (Or.inl (List.mem_of_getElem? (i := 0) rfl)))
  have F19_size_b := Fld.same W19 F18_size_b
  refine retV K rfl d_jdk_38_method_24_22 (Nat.le_of_ble_eq_true rfl) (Nat.le_of_ble_eq_true rfl) ?_
  exact ⟨rfl, P19, V19_ea, F19_modCount_b, F19_elementData_b, F19_size_b⟩
set_option maxRecDepth 65536 in
set_option maxHeartbeats 40000000 in
theorem c_addb (l : Launch) (Z : State) (a0 : Array Value) (hw : ∀ d ∈ tables_1, d.before a0 Z = true) (ws : List Jvm.Cond) (b x ea : Addr) (mc : Int32) (k : Nat) (xs : List Value) (h0 : Heap) (n0 : Nat) (Z0 : n0 ≤ h0.size) (hl : xs.length = 10) (hk : k < 10) (E : Exa Z h0 b "java/util/ArrayList") (ge_b : n0 ≤ b) (X : Exa Z h0 x "java/lang/Double") (ne_x_b : x ≠ b) (ge_ea : n0 ≤ ea) (ne_ea_b : ea ≠ b) (ne_x_ea : x ≠ ea) (F_modCount : Fld Z h0 b "java/util/AbstractList" "modCount" "I" (.int mc)) (F_elementData : Fld Z h0 b "java/util/ArrayList" "elementData" "[Ljava/lang/Object;" (.ref ea)) (F_size : Fld Z h0 b "java/util/ArrayList" "size" "I" (.int (Int32.ofNat k))) (V : VecR Z h0 ea "java/lang/Object" xs) :
    Ctr l Z (⟨"java/util/ArrayList", "add", "(Ljava/lang/Object;)Z"⟩ : MethodName) jdk_38_method_25_code 2 (some .boolean) ws ({ frames := 1, cells := 0, slots := 0, locals := 15 } : Room) n0 #[(.ref b), (.ref x)] h0 (fun v h => v = some (.int 1) ∧ Keep h0 h [b, ea] ∧ VecR Z h ea "java/lang/Object" (xs.set k (.ref x)) ∧ Fld Z h b "java/util/AbstractList" "modCount" "I" (.int (mc + 1)) ∧ Fld Z h b "java/util/ArrayList" "elementData" "[Ljava/lang/Object;" (.ref ea) ∧ Fld Z h b "java/util/ArrayList" "size" "I" (.int (Int32.ofNat (k + 1)))) := by
  refine ctr (own := "java/util/ArrayList") (nm := "add") rfl rfl (Ls := #[.val (.ref b), .val (.ref x)]) (plainFor_of_name pn4) (fun m => by first | (simp [entryFrame, mkF, argsToLocals, Value.category]; done) | rfl) ?_
  intro p e s m below meth c K eh
  have P0 := Keep.refl h0 [b, ea]
  refine Jvm.OwnWp.aloadN K d_jdk_38_method_25_0 rfl rfl (pc' := 1) rfl ?_
  refine Jvm.OwnWp.dup K d_jdk_38_method_25_1 rfl (pc' := 2) rfl ?_
  refine Jvm.OwnWp.getf K (wd50 hw) (Via.of (wd51 hw)) F_modCount d_jdk_38_method_25_2 (pc' := 5) rfl ?_
  refine Jvm.OwnWp.iconst K (1 : Int32) d_jdk_38_method_25_5 (by decide) (pc' := 6) rfl ?_
  refine Jvm.OwnWp.iadd K d_jdk_38_method_25_6 (pc' := 7) rfl ?_
  refine putf K (wd50 hw) (Via.of (wd51 hw)) F_modCount E (Or.inl (wd22 hw)) (wd1 hw) (ty := .int) (by decide) rfl rfl ge_b d_jdk_38_method_25_7 (pc' := 10) rfl ?_
  intro h20 W20
  have F20_elementData_b := (Fld.other W20 F_elementData (Or.inr (sn_ArrayList_elementData_modCount hw)))
  have F20_size_b := (Fld.other W20 F_size (Or.inr (sn_ArrayList_size_modCount hw)))
  have X20_b := (Exa.wr W20 E)
  have X20_x := (Exa.wr W20 X)
  have V20_ea := (V.other W20 ne_ea_b)
  have P20 := (P0.wr W20 (Or.inl (List.mem_of_getElem? (i := 0) rfl)))
  have F20_modCount_b := Fld.same W20 F_modCount
  refine Jvm.OwnWp.aloadN K d_jdk_38_method_25_10 rfl rfl (pc' := 11) rfl ?_
  refine Jvm.OwnWp.aloadN K d_jdk_38_method_25_11 rfl rfl (pc' := 12) rfl ?_
  refine Jvm.OwnWp.aloadN K d_jdk_38_method_25_12 rfl rfl (pc' := 13) rfl ?_
  refine Jvm.OwnWp.getf K (wd24 hw) Via.refl F20_elementData_b d_jdk_38_method_25_13 (pc' := 16) rfl ?_
  refine Jvm.OwnWp.aloadN K d_jdk_38_method_25_16 rfl rfl (pc' := 17) rfl ?_
  refine Jvm.OwnWp.getf K (wd52 hw) Via.refl F20_size_b d_jdk_38_method_25_17 (pc' := 20) rfl ?_
  refine callPriv K (y := (⟨"java/util/ArrayList", "add", "(Ljava/lang/Object;[Ljava/lang/Object;I)V"⟩ : MethodName)) (b := b) (argsL := [(.ref x), (.ref ea), (.int (Int32.ofNat k))]) (S := []) (wd54 hw) (wd55 hw) (wd56 hw) (wd1 hw) (wd2 hw) (wd58 hw) (by decide) X20_b (c_add3b l Z a0 hw [] b x ea (mc + 1) k xs h20 n0 (Nat.le_trans Z0 P20.1) hl hk X20_b ge_b X20_x ne_x_b ge_ea ne_ea_b ne_x_ea F20_modCount_b F20_elementData_b F20_size_b V20_ea) (lenOf pd5 rfl) d_jdk_38_method_25_20 rfl (Nat.le_of_ble_eq_true rfl) (Nat.le_of_ble_eq_true rfl) (Nat.le_of_ble_eq_true rfl) (Nat.le_of_ble_eq_true rfl) rfl (pc' := 23) rfl ?_
  rintro v21 h21 ⟨rfl, K21, V21, Q21_F_modCount, Q21_F_elementData, Q21_F_size⟩
  have X21_b := (Exa.keep X20_b K21)
  have X21_x := (Exa.keep X20_x K21)
  have P21 := (P20.trans K21 (allS (Or.inl (List.mem_of_getElem? (i := 0) rfl)) (allS (Or.inl (List.mem_of_getElem? (i := 1) rfl)) (all0))))
  show Go _ _ _ _ _ _ _ _ _ _ _ h21 0 0 (mkF m 23 #[.val (.ref b), .val (.ref x)] []) _
  refine Jvm.OwnWp.iconst K (1 : Int32) d_jdk_38_method_25_23 (by decide) (pc' := 24) rfl ?_
  refine retB K (t := .boolean) rfl (by simp) d_jdk_38_method_25_24 (Nat.le_of_ble_eq_true rfl) (Nat.le_of_ble_eq_true rfl) ?_
  exact ⟨rfl, P21, V21, Q21_F_modCount, Q21_F_elementData, Q21_F_size⟩
set_option maxRecDepth 65536 in
set_option maxHeartbeats 40000000 in
theorem c_size (l : Launch) (Z : State) (a0 : Array Value) (hw : ∀ d ∈ tables_1, d.before a0 Z = true) (ws : List Jvm.Cond) (b : Addr) (z : Int32) (h0 : Heap) (n0 : Nat) (Z0 : n0 ≤ h0.size) (G : Fld Z h0 b "java/util/ArrayList" "size" "I" (.int z)) :
    Ctr l Z (⟨"java/util/ArrayList", "size", "()I"⟩ : MethodName) jdk_38_method_8_code 1 (some .int) ws ({ frames := 0, cells := 0, slots := 0, locals := 0 } : Room) n0 #[(.ref b)] h0 (fun v h => v = some (.int z) ∧ h0 = h) := by
  refine ctr (own := "java/util/ArrayList") (nm := "size") rfl rfl (Ls := #[.val (.ref b)]) (plainFor_of_name pn4) (fun m => by first | (simp [entryFrame, mkF, argsToLocals, Value.category]; done) | rfl) ?_
  intro p e s m below meth c K eh
  refine Jvm.OwnWp.aloadN K d_jdk_38_method_8_0 rfl rfl (pc' := 1) rfl ?_
  refine Jvm.OwnWp.getf K (wd52 hw) Via.refl G d_jdk_38_method_8_1 (pc' := 4) rfl ?_
  refine retI K rfl d_jdk_38_method_8_4 (Nat.le_of_ble_eq_true rfl) (Nat.le_of_ble_eq_true rfl) ?_
  exact ⟨rfl, rfl⟩
set_option maxRecDepth 65536 in
set_option maxHeartbeats 40000000 in
theorem c_pci (l : Launch) (Z : State) (a0 : Array Value) (hw : ∀ d ∈ tables_1, d.before a0 Z = true) (ws : List Jvm.Cond) (i z : Int32) (h0 : Heap) (n0 : Nat) (Z0 : n0 ≤ h0.size) (h1 : ¬ i < 0) (h2 : i < z) :
    Ctr l Z (⟨"jdk/internal/util/Preconditions", "checkIndex", "(IILjava/util/function/BiFunction;)I"⟩ : MethodName) jdk_41_method_11_code 3 (some .int) ws ({ frames := 0, cells := 0, slots := 0, locals := 0 } : Room) n0 #[(.int i), (.int z), .null] h0 (fun v h => v = some (.int i) ∧ h0 = h) := by
  refine ctr (own := "jdk/internal/util/Preconditions") (nm := "checkIndex") rfl rfl (Ls := #[.val (.int i), .val (.int z), .val .null]) (plainFor_of_name pn6) (fun m => by first | (simp [entryFrame, mkF, argsToLocals, Value.category]; done) | rfl) ?_
  intro p e s m below meth c K eh
  refine Jvm.OwnWp.iloadN K d_jdk_41_method_11_0 rfl (pc' := 1) rfl ?_
  refine ifN K d_jdk_41_method_11_1 (XT.i0_lt_f h1) (pc' := 4) rfl ?_
  refine Jvm.OwnWp.iloadN K d_jdk_41_method_11_4 rfl (pc' := 5) rfl ?_
  refine Jvm.OwnWp.iloadN K d_jdk_41_method_11_5 rfl (pc' := 6) rfl ?_
  refine icY K d_jdk_41_method_11_6 (XT.ii_lt_t h2) (pc' := 16) (by decide) (by decide) ?_
  refine Jvm.OwnWp.iloadN K d_jdk_41_method_11_16 rfl (pc' := 17) rfl ?_
  refine retI K rfl d_jdk_41_method_11_17 (Nat.le_of_ble_eq_true rfl) (Nat.le_of_ble_eq_true rfl) ?_
  exact ⟨rfl, rfl⟩
set_option maxRecDepth 65536 in
set_option maxHeartbeats 40000000 in
theorem c_oci (l : Launch) (Z : State) (a0 : Array Value) (hw : ∀ d ∈ tables_1, d.before a0 Z = true) (ws : List Jvm.Cond) (i z : Int32) (h0 : Heap) (n0 : Nat) (Z0 : n0 ≤ h0.size) (h1 : ¬ i < 0) (h2 : i < z) :
    Ctr l Z (⟨"java/util/Objects", "checkIndex", "(II)I"⟩ : MethodName) jdk_31_method_17_code 2 (some .int) ws ({ frames := 1, cells := 0, slots := 0, locals := 14 } : Room) n0 #[(.int i), (.int z)] h0 (fun v h => v = some (.int i) ∧ h0 = h) := by
  refine ctr (own := "java/util/Objects") (nm := "checkIndex") rfl rfl (Ls := #[.val (.int i), .val (.int z)]) (plainFor_of_name pn7) (fun m => by first | (simp [entryFrame, mkF, argsToLocals, Value.category]; done) | rfl) ?_
  intro p e s m below meth c K eh
  refine Jvm.OwnWp.iloadN K d_jdk_31_method_17_0 rfl (pc' := 1) rfl ?_
  refine Jvm.OwnWp.iloadN K d_jdk_31_method_17_1 rfl (pc' := 2) rfl ?_
  refine Jvm.OwnWp.anull K d_jdk_31_method_17_2 (pc' := 3) rfl ?_
  refine callStatic K (y := (⟨"jdk/internal/util/Preconditions", "checkIndex", "(IILjava/util/function/BiFunction;)I"⟩ : MethodName)) (argsL := [(.int i), (.int z), .null]) (S := []) (wd122 hw) (wd123 hw) (wd124 hw) (wd125 hw) (by decide) (c_pci l Z a0 hw [] i z h0 n0 Z0 h1 h2) (lenOf pd6 rfl) d_jdk_31_method_17_3 rfl (Nat.le_of_ble_eq_true rfl) (Nat.le_of_ble_eq_true rfl) (Nat.le_of_ble_eq_true rfl) (Nat.le_of_ble_eq_true rfl) rfl (pc' := 6) rfl ?_
  rintro v22 h22 ⟨rfl, rfl⟩
  show Go _ _ _ _ _ _ _ _ _ _ _ h0 0 0 (mkF m 6 #[.val (.int i), .val (.int z)] [(.int i)]) _
  refine retI K rfl d_jdk_31_method_17_6 (Nat.le_of_ble_eq_true rfl) (Nat.le_of_ble_eq_true rfl) ?_
  exact ⟨rfl, rfl⟩
set_option maxRecDepth 65536 in
set_option maxHeartbeats 40000000 in
theorem c_eld (l : Launch) (Z : State) (a0 : Array Value) (hw : ∀ d ∈ tables_1, d.before a0 Z = true) (ws : List Jvm.Cond) (b ea x : Addr) (i : Int32) (k : Nat) (xs : List Value) (h0 : Heap) (n0 : Nat) (Z0 : n0 ≤ h0.size) (hi : i.toInt = k) (hx : xs[k]? = some (.ref x)) (G : Fld Z h0 b "java/util/ArrayList" "elementData" "[Ljava/lang/Object;" (.ref ea)) (V : VecR Z h0 ea "java/lang/Object" xs) :
    Ctr l Z (⟨"java/util/ArrayList", "elementData", "(I)Ljava/lang/Object;"⟩ : MethodName) jdk_38_method_18_code 2 (some (.object "java/lang/Object")) ws ({ frames := 0, cells := 0, slots := 0, locals := 0 } : Room) n0 #[(.ref b), (.int i)] h0 (fun v h => v = some (.ref x) ∧ h0 = h) := by
  refine ctr (own := "java/util/ArrayList") (nm := "elementData") rfl rfl (Ls := #[.val (.ref b), .val (.int i)]) (plainFor_of_name pn4) (fun m => by first | (simp [entryFrame, mkF, argsToLocals, Value.category]; done) | rfl) ?_
  intro p e s m below meth c K eh
  refine Jvm.OwnWp.aloadN K d_jdk_38_method_18_0 rfl rfl (pc' := 1) rfl ?_
  refine Jvm.OwnWp.getf K (wd24 hw) Via.refl G d_jdk_38_method_18_1 (pc' := 4) rfl ?_
  refine Jvm.OwnWp.iloadN K d_jdk_38_method_18_4 rfl (pc' := 5) rfl ?_
  refine aaload K (i := k) V.vec rfl hi hx d_jdk_38_method_18_5 (pc' := 6) rfl ?_
  refine retA K (t := (.object "java/lang/Object")) rfl rfl rfl d_jdk_38_method_18_6 (Nat.le_of_ble_eq_true rfl) (Nat.le_of_ble_eq_true rfl) ?_
  exact ⟨rfl, rfl⟩
set_option maxRecDepth 65536 in
set_option maxHeartbeats 40000000 in
theorem c_get (l : Launch) (Z : State) (a0 : Array Value) (hw : ∀ d ∈ tables_1, d.before a0 Z = true) (ws : List Jvm.Cond) (b ea x : Addr) (i z mc : Int32) (k : Nat) (xs : List Value) (h0 : Heap) (n0 : Nat) (Z0 : n0 ≤ h0.size) (E : Exa Z h0 b "java/util/ArrayList") (h1 : ¬ i < 0) (h2 : i < z) (hi : i.toInt = k) (hx : xs[k]? = some (.ref x)) (G : Fld Z h0 b "java/util/ArrayList" "elementData" "[Ljava/lang/Object;" (.ref ea)) (G2 : Fld Z h0 b "java/util/ArrayList" "size" "I" (.int z)) (V : VecR Z h0 ea "java/lang/Object" xs) :
    Ctr l Z (⟨"java/util/ArrayList", "get", "(I)Ljava/lang/Object;"⟩ : MethodName) jdk_38_method_20_code 2 (some (.object "java/lang/Object")) ws ({ frames := 2, cells := 0, slots := 0, locals := 27 } : Room) n0 #[(.ref b), (.int i)] h0 (fun v h => v = some (.ref x) ∧ h0 = h) := by
  refine ctr (own := "java/util/ArrayList") (nm := "get") rfl rfl (Ls := #[.val (.ref b), .val (.int i)]) (plainFor_of_name pn4) (fun m => by first | (simp [entryFrame, mkF, argsToLocals, Value.category]; done) | rfl) ?_
  intro p e s m below meth c K eh
  refine Jvm.OwnWp.iloadN K d_jdk_38_method_20_0 rfl (pc' := 1) rfl ?_
  refine Jvm.OwnWp.aloadN K d_jdk_38_method_20_1 rfl rfl (pc' := 2) rfl ?_
  refine Jvm.OwnWp.getf K (wd52 hw) Via.refl G2 d_jdk_38_method_20_2 (pc' := 5) rfl ?_
  refine callStatic K (y := (⟨"java/util/Objects", "checkIndex", "(II)I"⟩ : MethodName)) (argsL := [(.int i), (.int z)]) (S := []) (wd118 hw) (wd119 hw) (wd120 hw) (wd121 hw) (by decide) (c_oci l Z a0 hw [] i z h0 n0 Z0 h1 h2) (lenOf pd2 rfl) d_jdk_38_method_20_5 rfl (Nat.le_of_ble_eq_true rfl) (Nat.le_of_ble_eq_true rfl) (Nat.le_of_ble_eq_true rfl) (Nat.le_of_ble_eq_true rfl) rfl (pc' := 8) rfl ?_
  rintro v23 h23 ⟨rfl, rfl⟩
  show Go _ _ _ _ _ _ _ _ _ _ _ h0 0 0 (mkF m 8 #[.val (.ref b), .val (.int i)] [(.int i)]) _
  refine Jvm.OwnWp.pop K d_jdk_38_method_20_8 rfl (pc' := 9) rfl ?_
  refine Jvm.OwnWp.aloadN K d_jdk_38_method_20_9 rfl rfl (pc' := 10) rfl ?_
  refine Jvm.OwnWp.iloadN K d_jdk_38_method_20_10 rfl (pc' := 11) rfl ?_
  refine callVirt K (y := (⟨"java/util/ArrayList", "elementData", "(I)Ljava/lang/Object;"⟩ : MethodName)) (b := b) (argsL := [(.int i)]) (S := []) (wd126 hw) (wd127 hw) (wd129 hw) (wd128 hw) (wd2 hw) (wd130 hw) (by decide) E (c_eld l Z a0 hw [] b ea x i k xs h0 n0 Z0 hi hx G V) (lenOf pd7 rfl) d_jdk_38_method_20_11 rfl (Nat.le_of_ble_eq_true rfl) (Nat.le_of_ble_eq_true rfl) (Nat.le_of_ble_eq_true rfl) (Nat.le_of_ble_eq_true rfl) rfl (pc' := 14) rfl ?_
  rintro v24 h24 ⟨rfl, rfl⟩
  show Go _ _ _ _ _ _ _ _ _ _ _ h0 0 0 (mkF m 14 #[.val (.ref b), .val (.int i)] [(.ref x)]) _
  refine retA K (t := (.object "java/lang/Object")) rfl rfl rfl d_jdk_38_method_20_14 (Nat.le_of_ble_eq_true rfl) (Nat.le_of_ble_eq_true rfl) ?_
  exact ⟨rfl, rfl⟩
set_option maxRecDepth 65536 in
set_option maxHeartbeats 40000000 in
theorem c_smi (l : Launch) (Z : State) (a0 : Array Value) (hw : ∀ d ∈ tables_1, d.before a0 Z = true) (ws : List Jvm.Cond) (b x1 x2 x3 : Addr) (d : UInt64) (h0 : Heap) (n0 : Nat) (Z0 : n0 ≤ h0.size) (E : Exa Z h0 b "com/example/tarifa/tarifa/pricing/SessionMenu") (ge_b : n0 ≤ b) (G_prices : Fld Z h0 b "com/example/tarifa/tarifa/pricing/SessionMenu" "prices" "Ljava/util/List;" .null) (G_acceptanceRates : Fld Z h0 b "com/example/tarifa/tarifa/pricing/SessionMenu" "acceptanceRates" "Ljava/util/List;" .null) (G_stateProbabilities : Fld Z h0 b "com/example/tarifa/tarifa/pricing/SessionMenu" "stateProbabilities" "Ljava/util/List;" .null) (G_revenue : Fld Z h0 b "com/example/tarifa/tarifa/pricing/SessionMenu" "revenue" "D" (.double 0)) :
    Ctr l Z (⟨"com/example/tarifa/tarifa/pricing/SessionMenu", "<init>", "(Ljava/util/List;Ljava/util/List;Ljava/util/List;D)V"⟩ : MethodName) prog_16_method_1_code 6 none ws ({ frames := 2, cells := 0, slots := 0, locals := 24 } : Room) n0 #[(.ref b), (.ref x1), (.ref x2), (.ref x3), (.double d)] h0 (fun v h => v = none ∧ Keep h0 h [b] ∧ Fld Z h b "com/example/tarifa/tarifa/pricing/SessionMenu" "stateProbabilities" "Ljava/util/List;" (.ref x3)) := by
  refine ctr (own := "com/example/tarifa/tarifa/pricing/SessionMenu") (nm := "<init>") rfl rfl (Ls := #[.val (.ref b), .val (.ref x1), .val (.ref x2), .val (.ref x3), .val (.double d), .second]) (plainFor_of_name pn8) (fun m => by first | (simp [entryFrame, mkF, argsToLocals, Value.category]; done) | rfl) ?_
  intro p e s m below meth c K eh
  have P0 := Keep.refl h0 [b]
  refine Jvm.OwnWp.aloadN K d_prog_16_method_1_0 rfl rfl (pc' := 1) rfl ?_
  refine callInit K (y := (⟨"java/lang/Record", "<init>", "()V"⟩ : MethodName)) (b := b) (argsL := []) (S := []) rfl (wd82 hw) (wd83 hw) (wd85 hw) (wd86 hw) rfl (by decide) (c_rec l Z a0 hw [] b h0 n0 Z0) (lenOf pd0 rfl) d_prog_16_method_1_1 rfl (Nat.le_of_ble_eq_true rfl) (Nat.le_of_ble_eq_true rfl) (Nat.le_of_ble_eq_true rfl) (Nat.le_of_ble_eq_true rfl) rfl (pc' := 4) rfl ?_
  rintro v25 h25 ⟨rfl, rfl⟩
  show Go _ _ _ _ _ _ _ _ _ _ _ h0 0 0 (mkF m 4 #[.val (.ref b), .val (.ref x1), .val (.ref x2), .val (.ref x3), .val (.double d), .second] []) _
  refine Jvm.OwnWp.aloadN K d_prog_16_method_1_4 rfl rfl (pc' := 5) rfl ?_
  refine Jvm.OwnWp.aloadN K d_prog_16_method_1_5 rfl rfl (pc' := 6) rfl ?_
  refine putf K (wd88 hw) Via.refl G_prices E (Or.inr ⟨(wd89 hw), rfl, rfl⟩) (wd77 hw) (ty := (.object "java/util/List")) (by decide) rfl rfl ge_b d_prog_16_method_1_6 (pc' := 9) rfl ?_
  intro h26 W26
  have F26_acceptanceRates_b := (Fld.other W26 G_acceptanceRates (Or.inr (sn_SessionMenu_acceptanceRates_prices hw)))
  have F26_stateProbabilities_b := (Fld.other W26 G_stateProbabilities (Or.inr (sn_SessionMenu_stateProbabilities_prices hw)))
  have F26_revenue_b := (Fld.other W26 G_revenue (Or.inr (sn_SessionMenu_revenue_prices hw)))
  have X26_b := (Exa.wr W26 E)
  have P26 := (P0.wr W26 (Or.inl (List.mem_of_getElem? (i := 0) rfl)))
  have F26_prices_b := Fld.same W26 G_prices
  refine Jvm.OwnWp.aloadN K d_prog_16_method_1_9 rfl rfl (pc' := 10) rfl ?_
  refine Jvm.OwnWp.aloadN K d_prog_16_method_1_10 rfl rfl (pc' := 11) rfl ?_
  refine putf K (wd90 hw) Via.refl F26_acceptanceRates_b X26_b (Or.inr ⟨(wd91 hw), rfl, rfl⟩) (wd77 hw) (ty := (.object "java/util/List")) (by decide) rfl rfl ge_b d_prog_16_method_1_11 (pc' := 14) rfl ?_
  intro h27 W27
  have F27_prices_b := (Fld.other W27 F26_prices_b (Or.inr (sn_SessionMenu_prices_acceptanceRates hw)))
  have F27_stateProbabilities_b := (Fld.other W27 F26_stateProbabilities_b (Or.inr (sn_SessionMenu_stateProbabilities_acceptanceRates hw)))
  have F27_revenue_b := (Fld.other W27 F26_revenue_b (Or.inr (sn_SessionMenu_revenue_acceptanceRates hw)))
  have X27_b := (Exa.wr W27 X26_b)
  have P27 := (P26.wr W27 (Or.inl (List.mem_of_getElem? (i := 0) rfl)))
  have F27_acceptanceRates_b := Fld.same W27 F26_acceptanceRates_b
  refine Jvm.OwnWp.aloadN K d_prog_16_method_1_14 rfl rfl (pc' := 15) rfl ?_
  refine Jvm.OwnWp.aloadN K d_prog_16_method_1_15 rfl rfl (pc' := 16) rfl ?_
  refine putf K (wd92 hw) Via.refl F27_stateProbabilities_b X27_b (Or.inr ⟨(wd93 hw), rfl, rfl⟩) (wd77 hw) (ty := (.object "java/util/List")) (by decide) rfl rfl ge_b d_prog_16_method_1_16 (pc' := 19) rfl ?_
  intro h28 W28
  have F28_prices_b := (Fld.other W28 F27_prices_b (Or.inr (sn_SessionMenu_prices_stateProbabilities hw)))
  have F28_acceptanceRates_b := (Fld.other W28 F27_acceptanceRates_b (Or.inr (sn_SessionMenu_acceptanceRates_stateProbabilities hw)))
  have F28_revenue_b := (Fld.other W28 F27_revenue_b (Or.inr (sn_SessionMenu_revenue_stateProbabilities hw)))
  have X28_b := (Exa.wr W28 X27_b)
  have P28 := (P27.wr W28 (Or.inl (List.mem_of_getElem? (i := 0) rfl)))
  have F28_stateProbabilities_b := Fld.same W28 F27_stateProbabilities_b
  refine Jvm.OwnWp.aloadN K d_prog_16_method_1_19 rfl rfl (pc' := 20) rfl ?_
  refine Jvm.OwnWp.dload K d_prog_16_method_1_20 rfl (pc' := 22) rfl ?_
  refine putf K (wd94 hw) Via.refl F28_revenue_b X28_b (Or.inr ⟨(wd95 hw), rfl, rfl⟩) (wd77 hw) (ty := .double) (by decide) rfl rfl ge_b d_prog_16_method_1_22 (pc' := 25) rfl ?_
  intro h29 W29
  have F29_prices_b := (Fld.other W29 F28_prices_b (Or.inr (sn_SessionMenu_prices_revenue hw)))
  have F29_acceptanceRates_b := (Fld.other W29 F28_acceptanceRates_b (Or.inr (sn_SessionMenu_acceptanceRates_revenue hw)))
  have F29_stateProbabilities_b := (Fld.other W29 F28_stateProbabilities_b (Or.inr (sn_SessionMenu_stateProbabilities_revenue hw)))
  have X29_b := (Exa.wr W29 X28_b)
  have P29 := (P28.wr W29 (Or.inl (List.mem_of_getElem? (i := 0) rfl)))
  have F29_revenue_b := Fld.same W29 F28_revenue_b
  refine retV K rfl d_prog_16_method_1_25 (Nat.le_of_ble_eq_true rfl) (Nat.le_of_ble_eq_true rfl) ?_
  exact ⟨rfl, P29, F29_stateProbabilities_b⟩
set_option maxRecDepth 65536 in
set_option maxHeartbeats 40000000 in
theorem c_bp (l : Launch) (Z : State) (a0 : Array Value) (hw : ∀ d ∈ tables_1, d.before a0 Z = true) (ws : List Jvm.Cond) (b q ea x : Addr) (d : UInt64) (k : Nat) (z : Int32) (xs : List Value) (h0 : Heap) (n0 : Nat) (Z0 : n0 ≤ h0.size) (E : Exa Z h0 q "java/util/ArrayList") (h1 : ¬ z - 1 < 0) (h2 : z - 1 < z) (hi : (z - 1).toInt = k) (hx : xs[k]? = some (.ref x)) (X : Exa Z h0 x "java/lang/Double") (D : Fld Z h0 x "java/lang/Double" "value" "D" (.double d)) (G0 : Fld Z h0 b "com/example/tarifa/tarifa/pricing/SessionMenu" "stateProbabilities" "Ljava/util/List;" (.ref q)) (G : Fld Z h0 q "java/util/ArrayList" "elementData" "[Ljava/lang/Object;" (.ref ea)) (G2 : Fld Z h0 q "java/util/ArrayList" "size" "I" (.int z)) (V : VecR Z h0 ea "java/lang/Object" xs) :
    Ctr l Z (⟨"com/example/tarifa/tarifa/pricing/SessionMenu", "blockingProbability", "()D"⟩ : MethodName) prog_16_method_5_code 1 (some .double) ws ({ frames := 3, cells := 0, slots := 0, locals := 40 } : Room) n0 #[(.ref b)] h0 (fun v h => v = some (.double d) ∧ h0 = h) := by
  refine ctr (own := "com/example/tarifa/tarifa/pricing/SessionMenu") (nm := "blockingProbability") rfl rfl (Ls := #[.val (.ref b)]) (plainFor_of_name pn8) (fun m => by first | (simp [entryFrame, mkF, argsToLocals, Value.category]; done) | rfl) ?_
  intro p e s m below meth c K eh
  refine Jvm.OwnWp.aloadN K d_prog_16_method_5_0 rfl rfl (pc' := 1) rfl ?_
  refine Jvm.OwnWp.getf K (wd92 hw) Via.refl G0 d_prog_16_method_5_1 (pc' := 4) rfl ?_
  refine Jvm.OwnWp.aloadN K d_prog_16_method_5_4 rfl rfl (pc' := 5) rfl ?_
  refine Jvm.OwnWp.getf K (wd92 hw) Via.refl G0 d_prog_16_method_5_5 (pc' := 8) rfl ?_
  refine callFace K (y := (⟨"java/util/List", "size", "()I"⟩ : MethodName)) (z := (⟨"java/util/ArrayList", "size", "()I"⟩ : MethodName)) (b := q) (argsL := []) (S := [(.ref q)]) (wd101 hw) (wd102 hw) (wd103 hw) (by first | rfl | simp [Cond.onTables, Cond.keepsFace, Cond.keeps, Cond.steady, Cond.faceAtom]) (wd104 hw) (wd105 hw) (wd106 hw) (wd107 hw) (wd108 hw) (wd2 hw) (wd109 hw) (by decide) E (c_size l Z a0 hw [] q z h0 n0 Z0 G2) (lenOf pd8 rfl) d_prog_16_method_5_8 rfl (Nat.le_of_ble_eq_true rfl) (Nat.le_of_ble_eq_true rfl) (Nat.le_of_ble_eq_true rfl) (Nat.le_of_ble_eq_true rfl) rfl (pc' := 13) rfl ?_
  rintro v30 h30 ⟨rfl, rfl⟩
  show Go _ _ _ _ _ _ _ _ _ _ _ h0 0 0 (mkF m 13 #[.val (.ref b)] [(.int z), (.ref q)]) _
  refine Jvm.OwnWp.iconst K (1 : Int32) d_prog_16_method_5_13 (by decide) (pc' := 14) rfl ?_
  refine Jvm.OwnWp.isub K d_prog_16_method_5_14 (pc' := 15) rfl ?_
  refine callFace K (y := (⟨"java/util/List", "get", "(I)Ljava/lang/Object;"⟩ : MethodName)) (z := (⟨"java/util/ArrayList", "get", "(I)Ljava/lang/Object;"⟩ : MethodName)) (b := q) (argsL := [(.int (z - (1 : Int32)))]) (S := []) (wd110 hw) (wd111 hw) (wd112 hw) (by first | rfl | simp [Cond.onTables, Cond.keepsFace, Cond.keeps, Cond.steady, Cond.faceAtom]) (wd113 hw) (wd114 hw) (wd115 hw) (wd116 hw) (wd108 hw) (wd2 hw) (wd117 hw) (by decide) E (c_get l Z a0 hw [] q ea x (z - 1) z 0 k xs h0 n0 Z0 E h1 h2 hi hx G G2 V) (lenOf pd7 rfl) d_prog_16_method_5_15 rfl (Nat.le_of_ble_eq_true rfl) (Nat.le_of_ble_eq_true rfl) (Nat.le_of_ble_eq_true rfl) (Nat.le_of_ble_eq_true rfl) rfl (pc' := 20) rfl ?_
  rintro v31 h31 ⟨rfl, rfl⟩
  show Go _ _ _ _ _ _ _ _ _ _ _ h0 0 0 (mkF m 20 #[.val (.ref b)] [(.ref x)]) _
  refine cast' K (wd131 hw) (Ins.self X) d_prog_16_method_5_20 (pc' := 23) rfl ?_
  refine callVirt K (y := (⟨"java/lang/Double", "doubleValue", "()D"⟩ : MethodName)) (b := x) (argsL := []) (S := []) (wd132 hw) (wd133 hw) (wd135 hw) (wd134 hw) (wd28 hw) (wd136 hw) (by decide) X (c_dval l Z a0 hw [] x d h0 n0 Z0 D) (lenOf pd9 rfl) d_prog_16_method_5_23 rfl (Nat.le_of_ble_eq_true rfl) (Nat.le_of_ble_eq_true rfl) (Nat.le_of_ble_eq_true rfl) (Nat.le_of_ble_eq_true rfl) rfl (pc' := 26) rfl ?_
  rintro v32 h32 ⟨rfl, rfl⟩
  show Go _ _ _ _ _ _ _ _ _ _ _ h0 0 0 (mkF m 26 #[.val (.ref b)] [(.double d)]) _
  refine retD K rfl d_prog_16_method_5_26 (Nat.le_of_ble_eq_true rfl) (Nat.le_of_ble_eq_true rfl) ?_
  exact ⟨rfl, rfl⟩
set_option maxRecDepth 65536 in
set_option maxHeartbeats 40000000 in
theorem c_law (l : Launch) (Z : State) (a0 : Array Value) (hw : ∀ d ∈ tables_1, d.before a0 Z = true) (ws : List Jvm.Cond) (p0 p1 p2 p3 p4 p5 : Int32) (u : Addr) (h0 : Heap) (n0 : Nat) (Z0 : n0 ≤ h0.size) (S_u : Sta Z Z.heap "java/util/ArrayList" "DEFAULTCAPACITY_EMPTY_ELEMENTDATA" "[Ljava/lang/Object;" (.ref u)) (V0 : Vec Z Z.heap u (.object "java/lang/Object") []) (O0 : Old Z n0 h0) :
    Ctr l Z x code maxLocals ret ws room_1 n0 #[(.int p0), (.int p1), (.int p2), (.int p3), (.int p4), (.int p5)] h0 (fun v h => v = some (.int 1)) := by
  refine ctr (own := "com/example/tarifa/tarifa/pricing/SessionMenuBlockingProbabilityPinLaw") (nm := "law") rfl rfl (Ls := #[.val (.int p0), .val (.int p1), .val (.int p2), .val (.int p3), .val (.int p4), .val (.int p5), .unset, .unset, .unset, .unset]) (plainFor_of_name pn9) (fun m => by first | (simp [entryFrame, mkF, argsToLocals, Value.category, maxLocals]; done) | rfl) ?_
  intro p e s m below meth c K eh
  have P0 := Keep.refl h0 []
  refine Jvm.OwnWp.iloadN K at_0 rfl (pc' := 1) rfl ?_
  refine Jvm.OwnWp.iconst K (3 : Int32) at_1 (by decide) (pc' := 2) rfl ?_
  refine Jvm.OwnWp.iand K at_2 (pc' := 3) rfl ?_
  rcases own_four p0 with hb | hb | hb | hb
  · rw [hb]
    refine Jvm.OwnWp.iconst K (1 : Int32) at_3 (by decide) (pc' := 4) rfl ?_
    refine Jvm.OwnWp.iadd K at_4 (pc' := 5) rfl ?_
    refine Jvm.OwnWp.istore K at_5 (Ls' := #[.val (.int p0), .val (.int p1), .val (.int p2), .val (.int p3), .val (.int p4), .val (.int p5), .val (.int ((0 : Int32) + (1 : Int32))), .unset, .unset, .unset]) rfl (pc' := 7) rfl ?_
    refine newObj K (wd0 hw) (wd1 hw) (wd2 hw) at_7 (by decide) (by decide) (pc' := 10) rfl ?_
    intro h33 b33 g33 E33 A33 D33
    have lt_b33 : h0.size ≤ b33 := Nat.le_trans P0.1 (Nat.le_of_eq g33.symm)
    have ge_b33 : n0 ≤ b33 := Nat.le_trans Z0 lt_b33
    have O33 := (O0.ext E33)
    have P33 := (P0.ext E33)
    have F33_modCount_b33 : Fld Z h33 b33 "java/util/AbstractList" "modCount" "I" (.int (0 : Int32)) := D33 (Or.inl (wd22 hw)) (ty := .int) (by decide)
    have F33_elementData_b33 : Fld Z h33 b33 "java/util/ArrayList" "elementData" "[Ljava/lang/Object;" .null := D33 (Or.inl (wd25 hw)) (ty := (.array (.object "java/lang/Object"))) (by decide)
    have F33_size_b33 : Fld Z h33 b33 "java/util/ArrayList" "size" "I" (.int (0 : Int32)) := D33 (Or.inl (wd53 hw)) (ty := .int) (by decide)
    refine Jvm.OwnWp.dup K at_10 rfl (pc' := 11) rfl ?_
    refine callInit K (y := (⟨"java/util/ArrayList", "<init>", "()V"⟩ : MethodName)) (b := b33) (argsL := []) (S := [(.ref b33)]) rfl (wd3 hw) (wd4 hw) (wd2 hw) (wd5 hw) rfl (by decide) (c_ali l Z a0 hw [] b33 u h33 n0 (Nat.le_trans Z0 P33.1) A33 ge_b33 F33_modCount_b33 F33_elementData_b33 F33_size_b33 S_u V0 O33) (lenOf pd0 rfl) at_11 rfl (Nat.le_of_ble_eq_true rfl) (Nat.le_of_ble_eq_true rfl) (Nat.le_of_ble_eq_true rfl) (Nat.le_of_ble_eq_true rfl) rfl (pc' := 14) rfl ?_
    rintro v34 h34 ⟨rfl, K34, Q34_F_modCount, Q34_F_elementData, Q34_F_size⟩
    have X34_b33 := (Exa.keep A33 K34)
    have O34 := (O33.keep K34 (allS ge_b33 (all0)))
    have P34 := (P33.trans K34 (allS (Or.inr lt_b33) (all0)))
    show Go _ _ _ _ _ _ _ _ _ _ _ h34 1 3 (mkF m 14 #[.val (.int p0), .val (.int p1), .val (.int p2), .val (.int p3), .val (.int p4), .val (.int p5), .val (.int ((0 : Int32) + (1 : Int32))), .unset, .unset, .unset] [(.ref b33)]) _
    refine Jvm.OwnWp.astore K at_14 rfl (Ls' := #[.val (.int p0), .val (.int p1), .val (.int p2), .val (.int p3), .val (.int p4), .val (.int p5), .val (.int ((0 : Int32) + (1 : Int32))), .val (.ref b33), .unset, .unset]) rfl (pc' := 16) rfl ?_
    refine Jvm.OwnWp.aload K at_16 rfl rfl (pc' := 18) rfl ?_
    refine Jvm.OwnWp.iloadN K at_18 rfl (pc' := 19) rfl ?_
    refine Jvm.OwnWp.i2d K at_19 (pc' := 20) rfl ?_
    refine callStatic K (y := (⟨"java/lang/Double", "valueOf", "(D)Ljava/lang/Double;"⟩ : MethodName)) (argsL := [(.double (FP.i2d p1))]) (S := [(.ref b33)]) (wd26 hw) (wd27 hw) (wd28 hw) (wd29 hw) (by decide) (c_dv l Z a0 hw [] (FP.i2d p1) h34 n0 (Nat.le_trans Z0 P34.1)) (lenOf pd10 rfl) at_20 rfl (Nat.le_of_ble_eq_true rfl) (Nat.le_of_ble_eq_true rfl) (Nat.le_of_ble_eq_true rfl) (Nat.le_of_ble_eq_true rfl) rfl (pc' := 23) rfl ?_
    rintro v35 h35 ⟨K35, x35, rfl, lt35, X35, D35⟩
    have ne_b33_x35 : b33 ≠ x35 := Nat.ne_of_lt (Nat.lt_of_lt_of_le (Exa.lt X34_b33) lt35)
    have lt_x35 : h0.size ≤ x35 := Nat.le_trans P34.1 lt35
    have ge_x35 : n0 ≤ x35 := Nat.le_trans Z0 lt_x35
    have F35_modCount_b33 := (Fld.keep Q34_F_modCount K35 (nin0))
    have F35_elementData_b33 := (Fld.keep Q34_F_elementData K35 (nin0))
    have F35_size_b33 := (Fld.keep Q34_F_size K35 (nin0))
    have X35_b33 := (Exa.keep X34_b33 K35)
    have O35 := (O34.keep K35 (all0))
    have P35 := (P34.trans K35 (all0))
    show Go _ _ _ _ _ _ _ _ _ _ _ h35 2 4 (mkF m 23 #[.val (.int p0), .val (.int p1), .val (.int p2), .val (.int p3), .val (.int p4), .val (.int p5), .val (.int ((0 : Int32) + (1 : Int32))), .val (.ref b33), .unset, .unset] [(.ref x35), (.ref b33)]) _
    refine callVirt K (y := (⟨"java/util/ArrayList", "add", "(Ljava/lang/Object;)Z"⟩ : MethodName)) (b := b33) (argsL := [(.ref x35)]) (S := []) (wd45 hw) (wd46 hw) (wd48 hw) (wd47 hw) (wd2 hw) (wd49 hw) (by decide) X35_b33 (c_adda l Z a0 hw [] b33 x35 u (0 : Int32) h35 n0 (Nat.le_trans Z0 P35.1) X35_b33 ge_b33 X35 (Ne.symm ne_b33_x35) F35_modCount_b33 F35_elementData_b33 F35_size_b33 S_u V0 O35) (lenOf pd11 rfl) at_23 rfl (Nat.le_of_ble_eq_true rfl) (Nat.le_of_ble_eq_true rfl) (Nat.le_of_ble_eq_true rfl) (Nat.le_of_ble_eq_true rfl) rfl (pc' := 26) rfl ?_
    rintro v36 h36 ⟨rfl, K36, ea, lt36, V36, Q36_F_modCount, Q36_F_elementData, Q36_F_size⟩
    have ne_b33_ea : b33 ≠ ea := Nat.ne_of_lt (Nat.lt_of_lt_of_le (Exa.lt X35_b33) lt36)
    have ne_x35_ea : x35 ≠ ea := Nat.ne_of_lt (Nat.lt_of_lt_of_le (Exa.lt X35) lt36)
    have lt_ea : h0.size ≤ ea := Nat.le_trans P35.1 lt36
    have ge_ea : n0 ≤ ea := Nat.le_trans Z0 lt_ea
    have F36_value_x35 := (Fld.keep D35 K36 (ninS (Ne.symm ne_b33_x35) (nin0)))
    have X36_b33 := (Exa.keep X35_b33 K36)
    have X36_x35 := (Exa.keep X35 K36)
    have O36 := (O35.keep K36 (allS ge_b33 (all0)))
    have P36 := (P35.trans K36 (allS (Or.inr lt_b33) (all0)))
    show Go _ _ _ _ _ _ _ _ _ _ _ h36 3 14 (mkF m 26 #[.val (.int p0), .val (.int p1), .val (.int p2), .val (.int p3), .val (.int p4), .val (.int p5), .val (.int ((0 : Int32) + (1 : Int32))), .val (.ref b33), .unset, .unset] [(.int (1 : Int32))]) _
    have Q36_F_size : Fld Z h36 b33 "java/util/ArrayList" "size" "I" (.int (Int32.ofNat 1)) := Q36_F_size
    refine Jvm.OwnWp.pop K at_26 rfl (pc' := 27) rfl ?_
    refine Jvm.OwnWp.iload K at_27 rfl (pc' := 29) rfl ?_
    refine Jvm.OwnWp.iconst K (2 : Int32) at_29 (by decide) (pc' := 30) rfl ?_
    refine icY K at_30 (by decide) (pc' := 44) (by decide) (by decide) ?_
    refine Jvm.OwnWp.iload K at_44 rfl (pc' := 46) rfl ?_
    refine Jvm.OwnWp.iconst K (3 : Int32) at_46 (by decide) (pc' := 47) rfl ?_
    refine icY K at_47 (by decide) (pc' := 61) (by decide) (by decide) ?_
    refine Jvm.OwnWp.iload K at_61 rfl (pc' := 63) rfl ?_
    refine Jvm.OwnWp.iconst K (4 : Int32) at_63 (by decide) (pc' := 64) rfl ?_
    refine icY K at_64 (by decide) (pc' := 79) (by decide) (by decide) ?_
    refine Jvm.OwnWp.iload K at_79 rfl (pc' := 81) rfl ?_
    refine Jvm.OwnWp.iconst K (1 : Int32) at_81 (by decide) (pc' := 82) rfl ?_
    refine icN K at_82 (by decide) (pc' := 85) rfl ?_
    refine Jvm.OwnWp.iloadN K at_85 rfl (pc' := 86) rfl ?_
    refine Jvm.OwnWp.istore K at_86 (Ls' := #[.val (.int p0), .val (.int p1), .val (.int p2), .val (.int p3), .val (.int p4), .val (.int p5), .val (.int ((0 : Int32) + (1 : Int32))), .val (.ref b33), .val (.int p1), .unset]) rfl (pc' := 88) rfl ?_
    refine goto' K at_88 (pc' := 119) (by decide) (by decide) ?_
    refine newObj K (wd76 hw) (wd77 hw) (wd78 hw) at_119 (by decide) (by decide) (pc' := 122) rfl ?_
    intro h37 b37 g37 E37 A37 D37
    have ne_x35_b37 : x35 ≠ b37 := Nat.ne_of_lt (Nat.lt_of_lt_of_eq (Exa.lt X36_x35) g37.symm)
    have ne_b33_b37 : b33 ≠ b37 := Nat.ne_of_lt (Nat.lt_of_lt_of_eq (Exa.lt X36_b33) g37.symm)
    have ne_ea_b37 : ea ≠ b37 := Nat.ne_of_lt (Nat.lt_of_lt_of_eq (V36.lt) g37.symm)
    have lt_b37 : h0.size ≤ b37 := Nat.le_trans P36.1 (Nat.le_of_eq g37.symm)
    have ge_b37 : n0 ≤ b37 := Nat.le_trans Z0 lt_b37
    have F37_value_x35 := (Fld.ext E37 F36_value_x35)
    have F37_modCount_b33 := (Fld.ext E37 Q36_F_modCount)
    have F37_elementData_b33 := (Fld.ext E37 Q36_F_elementData)
    have F37_size_b33 := (Fld.ext E37 Q36_F_size)
    have X37_b33 := (Exa.ext E37 X36_b33)
    have X37_x35 := (Exa.ext E37 X36_x35)
    have V37_ea := (V36.ext E37)
    have O37 := (O36.ext E37)
    have P37 := (P36.ext E37)
    have F37_prices_b37 : Fld Z h37 b37 "com/example/tarifa/tarifa/pricing/SessionMenu" "prices" "Ljava/util/List;" .null := D37 (Or.inr (wd89 hw)) (ty := (.object "java/util/List")) (by decide)
    have F37_acceptanceRates_b37 : Fld Z h37 b37 "com/example/tarifa/tarifa/pricing/SessionMenu" "acceptanceRates" "Ljava/util/List;" .null := D37 (Or.inr (wd91 hw)) (ty := (.object "java/util/List")) (by decide)
    have F37_stateProbabilities_b37 : Fld Z h37 b37 "com/example/tarifa/tarifa/pricing/SessionMenu" "stateProbabilities" "Ljava/util/List;" .null := D37 (Or.inr (wd93 hw)) (ty := (.object "java/util/List")) (by decide)
    have F37_revenue_b37 : Fld Z h37 b37 "com/example/tarifa/tarifa/pricing/SessionMenu" "revenue" "D" (.double (0 : UInt64)) := D37 (Or.inr (wd95 hw)) (ty := .double) (by decide)
    refine Jvm.OwnWp.dup K at_122 rfl (pc' := 123) rfl ?_
    refine newObj K (wd0 hw) (wd1 hw) (wd2 hw) at_123 (by decide) (by decide) (pc' := 126) rfl ?_
    intro h38 b38 g38 E38 A38 D38
    have ne_x35_b38 : x35 ≠ b38 := Nat.ne_of_lt (Nat.lt_of_lt_of_eq (Exa.lt X37_x35) g38.symm)
    have ne_b33_b38 : b33 ≠ b38 := Nat.ne_of_lt (Nat.lt_of_lt_of_eq (Exa.lt X37_b33) g38.symm)
    have ne_b37_b38 : b37 ≠ b38 := Nat.ne_of_lt (Nat.lt_of_lt_of_eq (Exa.lt A37) g38.symm)
    have ne_ea_b38 : ea ≠ b38 := Nat.ne_of_lt (Nat.lt_of_lt_of_eq (V37_ea.lt) g38.symm)
    have lt_b38 : h0.size ≤ b38 := Nat.le_trans P37.1 (Nat.le_of_eq g38.symm)
    have ge_b38 : n0 ≤ b38 := Nat.le_trans Z0 lt_b38
    have F38_value_x35 := (Fld.ext E38 F37_value_x35)
    have F38_modCount_b33 := (Fld.ext E38 F37_modCount_b33)
    have F38_elementData_b33 := (Fld.ext E38 F37_elementData_b33)
    have F38_size_b33 := (Fld.ext E38 F37_size_b33)
    have F38_prices_b37 := (Fld.ext E38 F37_prices_b37)
    have F38_acceptanceRates_b37 := (Fld.ext E38 F37_acceptanceRates_b37)
    have F38_stateProbabilities_b37 := (Fld.ext E38 F37_stateProbabilities_b37)
    have F38_revenue_b37 := (Fld.ext E38 F37_revenue_b37)
    have X38_b33 := (Exa.ext E38 X37_b33)
    have X38_x35 := (Exa.ext E38 X37_x35)
    have X38_b37 := (Exa.ext E38 A37)
    have V38_ea := (V37_ea.ext E38)
    have O38 := (O37.ext E38)
    have P38 := (P37.ext E38)
    have F38_modCount_b38 : Fld Z h38 b38 "java/util/AbstractList" "modCount" "I" (.int (0 : Int32)) := D38 (Or.inl (wd22 hw)) (ty := .int) (by decide)
    have F38_elementData_b38 : Fld Z h38 b38 "java/util/ArrayList" "elementData" "[Ljava/lang/Object;" .null := D38 (Or.inl (wd25 hw)) (ty := (.array (.object "java/lang/Object"))) (by decide)
    have F38_size_b38 : Fld Z h38 b38 "java/util/ArrayList" "size" "I" (.int (0 : Int32)) := D38 (Or.inl (wd53 hw)) (ty := .int) (by decide)
    refine Jvm.OwnWp.dup K at_126 rfl (pc' := 127) rfl ?_
    refine callInit K (y := (⟨"java/util/ArrayList", "<init>", "()V"⟩ : MethodName)) (b := b38) (argsL := []) (S := [(.ref b38), (.ref b37), (.ref b37)]) rfl (wd3 hw) (wd4 hw) (wd2 hw) (wd5 hw) rfl (by decide) (c_ali l Z a0 hw [] b38 u h38 n0 (Nat.le_trans Z0 P38.1) A38 ge_b38 F38_modCount_b38 F38_elementData_b38 F38_size_b38 S_u V0 O38) (lenOf pd0 rfl) at_127 rfl (Nat.le_of_ble_eq_true rfl) (Nat.le_of_ble_eq_true rfl) (Nat.le_of_ble_eq_true rfl) (Nat.le_of_ble_eq_true rfl) rfl (pc' := 130) rfl ?_
    rintro v39 h39 ⟨rfl, K39, Q39_F_modCount, Q39_F_elementData, Q39_F_size⟩
    have F39_value_x35 := (Fld.keep F38_value_x35 K39 (ninS ne_x35_b38 (nin0)))
    have F39_modCount_b33 := (Fld.keep F38_modCount_b33 K39 (ninS ne_b33_b38 (nin0)))
    have F39_elementData_b33 := (Fld.keep F38_elementData_b33 K39 (ninS ne_b33_b38 (nin0)))
    have F39_size_b33 := (Fld.keep F38_size_b33 K39 (ninS ne_b33_b38 (nin0)))
    have F39_prices_b37 := (Fld.keep F38_prices_b37 K39 (ninS ne_b37_b38 (nin0)))
    have F39_acceptanceRates_b37 := (Fld.keep F38_acceptanceRates_b37 K39 (ninS ne_b37_b38 (nin0)))
    have F39_stateProbabilities_b37 := (Fld.keep F38_stateProbabilities_b37 K39 (ninS ne_b37_b38 (nin0)))
    have F39_revenue_b37 := (Fld.keep F38_revenue_b37 K39 (ninS ne_b37_b38 (nin0)))
    have X39_b33 := (Exa.keep X38_b33 K39)
    have X39_x35 := (Exa.keep X38_x35 K39)
    have X39_b37 := (Exa.keep X38_b37 K39)
    have X39_b38 := (Exa.keep A38 K39)
    have V39_ea := (V38_ea.keep K39 (ninS ne_ea_b38 (nin0)))
    have O39 := (O38.keep K39 (allS ge_b38 (all0)))
    have P39 := (P38.trans K39 (allS (Or.inr lt_b38) (all0)))
    show Go _ _ _ _ _ _ _ _ _ _ _ h39 5 21 (mkF m 130 #[.val (.int p0), .val (.int p1), .val (.int p2), .val (.int p3), .val (.int p4), .val (.int p5), .val (.int ((0 : Int32) + (1 : Int32))), .val (.ref b33), .val (.int p1), .unset] [(.ref b38), (.ref b37), (.ref b37)]) _
    refine newObj K (wd0 hw) (wd1 hw) (wd2 hw) at_130 (by decide) (by decide) (pc' := 133) rfl ?_
    intro h40 b40 g40 E40 A40 D40
    have ne_x35_b40 : x35 ≠ b40 := Nat.ne_of_lt (Nat.lt_of_lt_of_eq (Exa.lt X39_x35) g40.symm)
    have ne_b33_b40 : b33 ≠ b40 := Nat.ne_of_lt (Nat.lt_of_lt_of_eq (Exa.lt X39_b33) g40.symm)
    have ne_b37_b40 : b37 ≠ b40 := Nat.ne_of_lt (Nat.lt_of_lt_of_eq (Exa.lt X39_b37) g40.symm)
    have ne_b38_b40 : b38 ≠ b40 := Nat.ne_of_lt (Nat.lt_of_lt_of_eq (Exa.lt X39_b38) g40.symm)
    have ne_ea_b40 : ea ≠ b40 := Nat.ne_of_lt (Nat.lt_of_lt_of_eq (V39_ea.lt) g40.symm)
    have lt_b40 : h0.size ≤ b40 := Nat.le_trans P39.1 (Nat.le_of_eq g40.symm)
    have ge_b40 : n0 ≤ b40 := Nat.le_trans Z0 lt_b40
    have F40_value_x35 := (Fld.ext E40 F39_value_x35)
    have F40_modCount_b33 := (Fld.ext E40 F39_modCount_b33)
    have F40_elementData_b33 := (Fld.ext E40 F39_elementData_b33)
    have F40_size_b33 := (Fld.ext E40 F39_size_b33)
    have F40_prices_b37 := (Fld.ext E40 F39_prices_b37)
    have F40_acceptanceRates_b37 := (Fld.ext E40 F39_acceptanceRates_b37)
    have F40_stateProbabilities_b37 := (Fld.ext E40 F39_stateProbabilities_b37)
    have F40_revenue_b37 := (Fld.ext E40 F39_revenue_b37)
    have F40_modCount_b38 := (Fld.ext E40 Q39_F_modCount)
    have F40_elementData_b38 := (Fld.ext E40 Q39_F_elementData)
    have F40_size_b38 := (Fld.ext E40 Q39_F_size)
    have X40_b33 := (Exa.ext E40 X39_b33)
    have X40_x35 := (Exa.ext E40 X39_x35)
    have X40_b37 := (Exa.ext E40 X39_b37)
    have X40_b38 := (Exa.ext E40 X39_b38)
    have V40_ea := (V39_ea.ext E40)
    have O40 := (O39.ext E40)
    have P40 := (P39.ext E40)
    have F40_modCount_b40 : Fld Z h40 b40 "java/util/AbstractList" "modCount" "I" (.int (0 : Int32)) := D40 (Or.inl (wd22 hw)) (ty := .int) (by decide)
    have F40_elementData_b40 : Fld Z h40 b40 "java/util/ArrayList" "elementData" "[Ljava/lang/Object;" .null := D40 (Or.inl (wd25 hw)) (ty := (.array (.object "java/lang/Object"))) (by decide)
    have F40_size_b40 : Fld Z h40 b40 "java/util/ArrayList" "size" "I" (.int (0 : Int32)) := D40 (Or.inl (wd53 hw)) (ty := .int) (by decide)
    refine Jvm.OwnWp.dup K at_133 rfl (pc' := 134) rfl ?_
    refine callInit K (y := (⟨"java/util/ArrayList", "<init>", "()V"⟩ : MethodName)) (b := b40) (argsL := []) (S := [(.ref b40), (.ref b38), (.ref b37), (.ref b37)]) rfl (wd3 hw) (wd4 hw) (wd2 hw) (wd5 hw) rfl (by decide) (c_ali l Z a0 hw [] b40 u h40 n0 (Nat.le_trans Z0 P40.1) A40 ge_b40 F40_modCount_b40 F40_elementData_b40 F40_size_b40 S_u V0 O40) (lenOf pd0 rfl) at_134 rfl (Nat.le_of_ble_eq_true rfl) (Nat.le_of_ble_eq_true rfl) (Nat.le_of_ble_eq_true rfl) (Nat.le_of_ble_eq_true rfl) rfl (pc' := 137) rfl ?_
    rintro v41 h41 ⟨rfl, K41, Q41_F_modCount, Q41_F_elementData, Q41_F_size⟩
    have F41_value_x35 := (Fld.keep F40_value_x35 K41 (ninS ne_x35_b40 (nin0)))
    have F41_modCount_b33 := (Fld.keep F40_modCount_b33 K41 (ninS ne_b33_b40 (nin0)))
    have F41_elementData_b33 := (Fld.keep F40_elementData_b33 K41 (ninS ne_b33_b40 (nin0)))
    have F41_size_b33 := (Fld.keep F40_size_b33 K41 (ninS ne_b33_b40 (nin0)))
    have F41_prices_b37 := (Fld.keep F40_prices_b37 K41 (ninS ne_b37_b40 (nin0)))
    have F41_acceptanceRates_b37 := (Fld.keep F40_acceptanceRates_b37 K41 (ninS ne_b37_b40 (nin0)))
    have F41_stateProbabilities_b37 := (Fld.keep F40_stateProbabilities_b37 K41 (ninS ne_b37_b40 (nin0)))
    have F41_revenue_b37 := (Fld.keep F40_revenue_b37 K41 (ninS ne_b37_b40 (nin0)))
    have F41_modCount_b38 := (Fld.keep F40_modCount_b38 K41 (ninS ne_b38_b40 (nin0)))
    have F41_elementData_b38 := (Fld.keep F40_elementData_b38 K41 (ninS ne_b38_b40 (nin0)))
    have F41_size_b38 := (Fld.keep F40_size_b38 K41 (ninS ne_b38_b40 (nin0)))
    have X41_b33 := (Exa.keep X40_b33 K41)
    have X41_x35 := (Exa.keep X40_x35 K41)
    have X41_b37 := (Exa.keep X40_b37 K41)
    have X41_b38 := (Exa.keep X40_b38 K41)
    have X41_b40 := (Exa.keep A40 K41)
    have V41_ea := (V40_ea.keep K41 (ninS ne_ea_b40 (nin0)))
    have O41 := (O40.keep K41 (allS ge_b40 (all0)))
    have P41 := (P40.trans K41 (allS (Or.inr lt_b40) (all0)))
    show Go _ _ _ _ _ _ _ _ _ _ _ h41 6 24 (mkF m 137 #[.val (.int p0), .val (.int p1), .val (.int p2), .val (.int p3), .val (.int p4), .val (.int p5), .val (.int ((0 : Int32) + (1 : Int32))), .val (.ref b33), .val (.int p1), .unset] [(.ref b40), (.ref b38), (.ref b37), (.ref b37)]) _
    refine Jvm.OwnWp.aload K at_137 rfl rfl (pc' := 139) rfl ?_
    refine Jvm.OwnWp.iload K at_139 rfl (pc' := 141) rfl ?_
    refine Jvm.OwnWp.i2d K at_141 (pc' := 142) rfl ?_
    refine callInit K (y := (⟨"com/example/tarifa/tarifa/pricing/SessionMenu", "<init>", "(Ljava/util/List;Ljava/util/List;Ljava/util/List;D)V"⟩ : MethodName)) (b := b37) (argsL := [(.ref b38), (.ref b40), (.ref b33), (.double (FP.i2d p5))]) (S := [(.ref b37)]) rfl (wd79 hw) (wd80 hw) (wd78 hw) (wd81 hw) rfl (by decide) (c_smi l Z a0 hw [] b37 b38 b40 b33 (FP.i2d p5) h41 n0 (Nat.le_trans Z0 P41.1) X41_b37 ge_b37 F41_prices_b37 F41_acceptanceRates_b37 F41_stateProbabilities_b37 F41_revenue_b37) (lenOf pd12 rfl) at_142 rfl (Nat.le_of_ble_eq_true rfl) (Nat.le_of_ble_eq_true rfl) (Nat.le_of_ble_eq_true rfl) (Nat.le_of_ble_eq_true rfl) rfl (pc' := 145) rfl ?_
    rintro v42 h42 ⟨rfl, K42, Q42⟩
    have F42_value_x35 := (Fld.keep F41_value_x35 K42 (ninS ne_x35_b37 (nin0)))
    have F42_modCount_b33 := (Fld.keep F41_modCount_b33 K42 (ninS ne_b33_b37 (nin0)))
    have F42_elementData_b33 := (Fld.keep F41_elementData_b33 K42 (ninS ne_b33_b37 (nin0)))
    have F42_size_b33 := (Fld.keep F41_size_b33 K42 (ninS ne_b33_b37 (nin0)))
    have F42_modCount_b38 := (Fld.keep F41_modCount_b38 K42 (ninS (Ne.symm ne_b37_b38) (nin0)))
    have F42_elementData_b38 := (Fld.keep F41_elementData_b38 K42 (ninS (Ne.symm ne_b37_b38) (nin0)))
    have F42_size_b38 := (Fld.keep F41_size_b38 K42 (ninS (Ne.symm ne_b37_b38) (nin0)))
    have F42_modCount_b40 := (Fld.keep Q41_F_modCount K42 (ninS (Ne.symm ne_b37_b40) (nin0)))
    have F42_elementData_b40 := (Fld.keep Q41_F_elementData K42 (ninS (Ne.symm ne_b37_b40) (nin0)))
    have F42_size_b40 := (Fld.keep Q41_F_size K42 (ninS (Ne.symm ne_b37_b40) (nin0)))
    have X42_b33 := (Exa.keep X41_b33 K42)
    have X42_x35 := (Exa.keep X41_x35 K42)
    have X42_b37 := (Exa.keep X41_b37 K42)
    have X42_b38 := (Exa.keep X41_b38 K42)
    have X42_b40 := (Exa.keep X41_b40 K42)
    have V42_ea := (V41_ea.keep K42 (ninS ne_ea_b37 (nin0)))
    have O42 := (O41.keep K42 (allS ge_b37 (all0)))
    have P42 := (P41.trans K42 (allS (Or.inr lt_b37) (all0)))
    show Go _ _ _ _ _ _ _ _ _ _ _ h42 6 24 (mkF m 145 #[.val (.int p0), .val (.int p1), .val (.int p2), .val (.int p3), .val (.int p4), .val (.int p5), .val (.int ((0 : Int32) + (1 : Int32))), .val (.ref b33), .val (.int p1), .unset] [(.ref b37)]) _
    refine Jvm.OwnWp.astore K at_145 rfl (Ls' := #[.val (.int p0), .val (.int p1), .val (.int p2), .val (.int p3), .val (.int p4), .val (.int p5), .val (.int ((0 : Int32) + (1 : Int32))), .val (.ref b33), .val (.int p1), .val (.ref b37)]) rfl (pc' := 147) rfl ?_
    refine Jvm.OwnWp.aload K at_147 rfl rfl (pc' := 149) rfl ?_
    refine callVirt K (y := (⟨"com/example/tarifa/tarifa/pricing/SessionMenu", "blockingProbability", "()D"⟩ : MethodName)) (b := b37) (argsL := []) (S := []) (wd96 hw) (wd97 hw) (wd99 hw) (wd98 hw) (wd78 hw) (wd100 hw) (by decide) X42_b37 (c_bp l Z a0 hw [] b37 b33 ea x35 (FP.i2d p1) 0 (Int32.ofNat 1) ((List.replicate 10 .null).set 0 (.ref x35)) h42 n0 (Nat.le_trans Z0 P42.1) X42_b33 (by decide) (by decide) (by decide) (by simp) X42_x35 F42_value_x35 Q42 F42_elementData_b33 F42_size_b33 V42_ea) (lenOf pd9 rfl) at_149 rfl (Nat.le_of_ble_eq_true rfl) (Nat.le_of_ble_eq_true rfl) (Nat.le_of_ble_eq_true rfl) (Nat.le_of_ble_eq_true rfl) rfl (pc' := 152) rfl ?_
    rintro v43 h43 ⟨rfl, rfl⟩
    show Go _ _ _ _ _ _ _ _ _ _ _ h42 6 24 (mkF m 152 #[.val (.int p0), .val (.int p1), .val (.int p2), .val (.int p3), .val (.int p4), .val (.int p5), .val (.int ((0 : Int32) + (1 : Int32))), .val (.ref b33), .val (.int p1), .val (.ref b37)] [(.double (FP.i2d p1))]) _
    refine Jvm.OwnWp.iload K at_152 rfl (pc' := 154) rfl ?_
    refine Jvm.OwnWp.i2d K at_154 (pc' := 155) rfl ?_
    refine Jvm.OwnWp.dcmp K at_155 (pc' := 156) rfl ?_
    refine ifN K at_156 (dd_l_ne_f (show FP.dcmp _ _ = some .eq from Jvm.FP.Core.dcmp_eq.mpr ⟨Jvm.FP.Core.DInt_ne_nan (Jvm.FP.Core.i2d_int _), Jvm.FP.Core.DInt_ne_nan (Jvm.FP.Core.i2d_int _), rfl⟩)) (pc' := 159) rfl ?_
    refine Jvm.OwnWp.iconst K (1 : Int32) at_159 (by decide) (pc' := 160) rfl ?_
    refine goto' K at_160 (pc' := 164) (by decide) (by decide) ?_
    refine retB K (t := .boolean) rfl (by simp) at_164 (Nat.le_of_ble_eq_true rfl) (Nat.le_of_ble_eq_true rfl) ?_
    rfl
  · rw [hb]
    refine Jvm.OwnWp.iconst K (1 : Int32) at_3 (by decide) (pc' := 4) rfl ?_
    refine Jvm.OwnWp.iadd K at_4 (pc' := 5) rfl ?_
    refine Jvm.OwnWp.istore K at_5 (Ls' := #[.val (.int p0), .val (.int p1), .val (.int p2), .val (.int p3), .val (.int p4), .val (.int p5), .val (.int ((1 : Int32) + (1 : Int32))), .unset, .unset, .unset]) rfl (pc' := 7) rfl ?_
    refine newObj K (wd0 hw) (wd1 hw) (wd2 hw) at_7 (by decide) (by decide) (pc' := 10) rfl ?_
    intro h44 b44 g44 E44 A44 D44
    have lt_b44 : h0.size ≤ b44 := Nat.le_trans P0.1 (Nat.le_of_eq g44.symm)
    have ge_b44 : n0 ≤ b44 := Nat.le_trans Z0 lt_b44
    have O44 := (O0.ext E44)
    have P44 := (P0.ext E44)
    have F44_modCount_b44 : Fld Z h44 b44 "java/util/AbstractList" "modCount" "I" (.int (0 : Int32)) := D44 (Or.inl (wd22 hw)) (ty := .int) (by decide)
    have F44_elementData_b44 : Fld Z h44 b44 "java/util/ArrayList" "elementData" "[Ljava/lang/Object;" .null := D44 (Or.inl (wd25 hw)) (ty := (.array (.object "java/lang/Object"))) (by decide)
    have F44_size_b44 : Fld Z h44 b44 "java/util/ArrayList" "size" "I" (.int (0 : Int32)) := D44 (Or.inl (wd53 hw)) (ty := .int) (by decide)
    refine Jvm.OwnWp.dup K at_10 rfl (pc' := 11) rfl ?_
    refine callInit K (y := (⟨"java/util/ArrayList", "<init>", "()V"⟩ : MethodName)) (b := b44) (argsL := []) (S := [(.ref b44)]) rfl (wd3 hw) (wd4 hw) (wd2 hw) (wd5 hw) rfl (by decide) (c_ali l Z a0 hw [] b44 u h44 n0 (Nat.le_trans Z0 P44.1) A44 ge_b44 F44_modCount_b44 F44_elementData_b44 F44_size_b44 S_u V0 O44) (lenOf pd0 rfl) at_11 rfl (Nat.le_of_ble_eq_true rfl) (Nat.le_of_ble_eq_true rfl) (Nat.le_of_ble_eq_true rfl) (Nat.le_of_ble_eq_true rfl) rfl (pc' := 14) rfl ?_
    rintro v45 h45 ⟨rfl, K45, Q45_F_modCount, Q45_F_elementData, Q45_F_size⟩
    have X45_b44 := (Exa.keep A44 K45)
    have O45 := (O44.keep K45 (allS ge_b44 (all0)))
    have P45 := (P44.trans K45 (allS (Or.inr lt_b44) (all0)))
    show Go _ _ _ _ _ _ _ _ _ _ _ h45 1 3 (mkF m 14 #[.val (.int p0), .val (.int p1), .val (.int p2), .val (.int p3), .val (.int p4), .val (.int p5), .val (.int ((1 : Int32) + (1 : Int32))), .unset, .unset, .unset] [(.ref b44)]) _
    refine Jvm.OwnWp.astore K at_14 rfl (Ls' := #[.val (.int p0), .val (.int p1), .val (.int p2), .val (.int p3), .val (.int p4), .val (.int p5), .val (.int ((1 : Int32) + (1 : Int32))), .val (.ref b44), .unset, .unset]) rfl (pc' := 16) rfl ?_
    refine Jvm.OwnWp.aload K at_16 rfl rfl (pc' := 18) rfl ?_
    refine Jvm.OwnWp.iloadN K at_18 rfl (pc' := 19) rfl ?_
    refine Jvm.OwnWp.i2d K at_19 (pc' := 20) rfl ?_
    refine callStatic K (y := (⟨"java/lang/Double", "valueOf", "(D)Ljava/lang/Double;"⟩ : MethodName)) (argsL := [(.double (FP.i2d p1))]) (S := [(.ref b44)]) (wd26 hw) (wd27 hw) (wd28 hw) (wd29 hw) (by decide) (c_dv l Z a0 hw [] (FP.i2d p1) h45 n0 (Nat.le_trans Z0 P45.1)) (lenOf pd10 rfl) at_20 rfl (Nat.le_of_ble_eq_true rfl) (Nat.le_of_ble_eq_true rfl) (Nat.le_of_ble_eq_true rfl) (Nat.le_of_ble_eq_true rfl) rfl (pc' := 23) rfl ?_
    rintro v46 h46 ⟨K46, x46, rfl, lt46, X46, D46⟩
    have ne_b44_x46 : b44 ≠ x46 := Nat.ne_of_lt (Nat.lt_of_lt_of_le (Exa.lt X45_b44) lt46)
    have lt_x46 : h0.size ≤ x46 := Nat.le_trans P45.1 lt46
    have ge_x46 : n0 ≤ x46 := Nat.le_trans Z0 lt_x46
    have F46_modCount_b44 := (Fld.keep Q45_F_modCount K46 (nin0))
    have F46_elementData_b44 := (Fld.keep Q45_F_elementData K46 (nin0))
    have F46_size_b44 := (Fld.keep Q45_F_size K46 (nin0))
    have X46_b44 := (Exa.keep X45_b44 K46)
    have O46 := (O45.keep K46 (all0))
    have P46 := (P45.trans K46 (all0))
    show Go _ _ _ _ _ _ _ _ _ _ _ h46 2 4 (mkF m 23 #[.val (.int p0), .val (.int p1), .val (.int p2), .val (.int p3), .val (.int p4), .val (.int p5), .val (.int ((1 : Int32) + (1 : Int32))), .val (.ref b44), .unset, .unset] [(.ref x46), (.ref b44)]) _
    refine callVirt K (y := (⟨"java/util/ArrayList", "add", "(Ljava/lang/Object;)Z"⟩ : MethodName)) (b := b44) (argsL := [(.ref x46)]) (S := []) (wd45 hw) (wd46 hw) (wd48 hw) (wd47 hw) (wd2 hw) (wd49 hw) (by decide) X46_b44 (c_adda l Z a0 hw [] b44 x46 u (0 : Int32) h46 n0 (Nat.le_trans Z0 P46.1) X46_b44 ge_b44 X46 (Ne.symm ne_b44_x46) F46_modCount_b44 F46_elementData_b44 F46_size_b44 S_u V0 O46) (lenOf pd11 rfl) at_23 rfl (Nat.le_of_ble_eq_true rfl) (Nat.le_of_ble_eq_true rfl) (Nat.le_of_ble_eq_true rfl) (Nat.le_of_ble_eq_true rfl) rfl (pc' := 26) rfl ?_
    rintro v47 h47 ⟨rfl, K47, ea, lt47, V47, Q47_F_modCount, Q47_F_elementData, Q47_F_size⟩
    have ne_b44_ea : b44 ≠ ea := Nat.ne_of_lt (Nat.lt_of_lt_of_le (Exa.lt X46_b44) lt47)
    have ne_x46_ea : x46 ≠ ea := Nat.ne_of_lt (Nat.lt_of_lt_of_le (Exa.lt X46) lt47)
    have lt_ea : h0.size ≤ ea := Nat.le_trans P46.1 lt47
    have ge_ea : n0 ≤ ea := Nat.le_trans Z0 lt_ea
    have F47_value_x46 := (Fld.keep D46 K47 (ninS (Ne.symm ne_b44_x46) (nin0)))
    have X47_b44 := (Exa.keep X46_b44 K47)
    have X47_x46 := (Exa.keep X46 K47)
    have O47 := (O46.keep K47 (allS ge_b44 (all0)))
    have P47 := (P46.trans K47 (allS (Or.inr lt_b44) (all0)))
    show Go _ _ _ _ _ _ _ _ _ _ _ h47 3 14 (mkF m 26 #[.val (.int p0), .val (.int p1), .val (.int p2), .val (.int p3), .val (.int p4), .val (.int p5), .val (.int ((1 : Int32) + (1 : Int32))), .val (.ref b44), .unset, .unset] [(.int (1 : Int32))]) _
    have Q47_F_size : Fld Z h47 b44 "java/util/ArrayList" "size" "I" (.int (Int32.ofNat 1)) := Q47_F_size
    refine Jvm.OwnWp.pop K at_26 rfl (pc' := 27) rfl ?_
    refine Jvm.OwnWp.iload K at_27 rfl (pc' := 29) rfl ?_
    refine Jvm.OwnWp.iconst K (2 : Int32) at_29 (by decide) (pc' := 30) rfl ?_
    refine icN K at_30 (by decide) (pc' := 33) rfl ?_
    refine Jvm.OwnWp.aload K at_33 rfl rfl (pc' := 35) rfl ?_
    refine Jvm.OwnWp.iloadN K at_35 rfl (pc' := 36) rfl ?_
    refine Jvm.OwnWp.i2d K at_36 (pc' := 37) rfl ?_
    refine callStatic K (y := (⟨"java/lang/Double", "valueOf", "(D)Ljava/lang/Double;"⟩ : MethodName)) (argsL := [(.double (FP.i2d p2))]) (S := [(.ref b44)]) (wd26 hw) (wd27 hw) (wd28 hw) (wd29 hw) (by decide) (c_dv l Z a0 hw [] (FP.i2d p2) h47 n0 (Nat.le_trans Z0 P47.1)) (lenOf pd10 rfl) at_37 rfl (Nat.le_of_ble_eq_true rfl) (Nat.le_of_ble_eq_true rfl) (Nat.le_of_ble_eq_true rfl) (Nat.le_of_ble_eq_true rfl) rfl (pc' := 40) rfl ?_
    rintro v48 h48 ⟨K48, x48, rfl, lt48, X48, D48⟩
    have ne_x46_x48 : x46 ≠ x48 := Nat.ne_of_lt (Nat.lt_of_lt_of_le (Exa.lt X47_x46) lt48)
    have ne_b44_x48 : b44 ≠ x48 := Nat.ne_of_lt (Nat.lt_of_lt_of_le (Exa.lt X47_b44) lt48)
    have ne_ea_x48 : ea ≠ x48 := Nat.ne_of_lt (Nat.lt_of_lt_of_le (V47.lt) lt48)
    have lt_x48 : h0.size ≤ x48 := Nat.le_trans P47.1 lt48
    have ge_x48 : n0 ≤ x48 := Nat.le_trans Z0 lt_x48
    have F48_value_x46 := (Fld.keep F47_value_x46 K48 (nin0))
    have F48_modCount_b44 := (Fld.keep Q47_F_modCount K48 (nin0))
    have F48_elementData_b44 := (Fld.keep Q47_F_elementData K48 (nin0))
    have F48_size_b44 := (Fld.keep Q47_F_size K48 (nin0))
    have X48_b44 := (Exa.keep X47_b44 K48)
    have X48_x46 := (Exa.keep X47_x46 K48)
    have V48_ea := (V47.keep K48 (nin0))
    have O48 := (O47.keep K48 (all0))
    have P48 := (P47.trans K48 (all0))
    show Go _ _ _ _ _ _ _ _ _ _ _ h48 4 15 (mkF m 40 #[.val (.int p0), .val (.int p1), .val (.int p2), .val (.int p3), .val (.int p4), .val (.int p5), .val (.int ((1 : Int32) + (1 : Int32))), .val (.ref b44), .unset, .unset] [(.ref x48), (.ref b44)]) _
    refine callVirt K (y := (⟨"java/util/ArrayList", "add", "(Ljava/lang/Object;)Z"⟩ : MethodName)) (b := b44) (argsL := [(.ref x48)]) (S := []) (wd45 hw) (wd46 hw) (wd48 hw) (wd47 hw) (wd2 hw) (wd49 hw) (by decide) X48_b44 (c_addb l Z a0 hw [] b44 x48 ea ((0 : Int32) + 1) 1 ((List.replicate 10 .null).set 0 (.ref x46)) h48 n0 (Nat.le_trans Z0 P48.1) (by simp) (by decide) X48_b44 ge_b44 X48 (Ne.symm ne_b44_x48) ge_ea (Ne.symm ne_b44_ea) (Ne.symm ne_ea_x48) F48_modCount_b44 F48_elementData_b44 F48_size_b44 V48_ea) (lenOf pd11 rfl) at_40 rfl (Nat.le_of_ble_eq_true rfl) (Nat.le_of_ble_eq_true rfl) (Nat.le_of_ble_eq_true rfl) (Nat.le_of_ble_eq_true rfl) rfl (pc' := 43) rfl ?_
    rintro v49 h49 ⟨rfl, K49, V49, Q49_F_modCount, Q49_F_elementData, Q49_F_size⟩
    have F49_value_x46 := (Fld.keep F48_value_x46 K49 (ninS (Ne.symm ne_b44_x46) (ninS ne_x46_ea (nin0))))
    have F49_value_x48 := (Fld.keep D48 K49 (ninS (Ne.symm ne_b44_x48) (ninS (Ne.symm ne_ea_x48) (nin0))))
    have X49_b44 := (Exa.keep X48_b44 K49)
    have X49_x46 := (Exa.keep X48_x46 K49)
    have X49_x48 := (Exa.keep X48 K49)
    have O49 := (O48.keep K49 (allS ge_b44 (allS ge_ea (all0))))
    have P49 := (P48.trans K49 (allS (Or.inr lt_b44) (allS (Or.inr lt_ea) (all0))))
    show Go _ _ _ _ _ _ _ _ _ _ _ h49 4 15 (mkF m 43 #[.val (.int p0), .val (.int p1), .val (.int p2), .val (.int p3), .val (.int p4), .val (.int p5), .val (.int ((1 : Int32) + (1 : Int32))), .val (.ref b44), .unset, .unset] [(.int (1 : Int32))]) _
    have Q49_F_size : Fld Z h49 b44 "java/util/ArrayList" "size" "I" (.int (Int32.ofNat 2)) := Q49_F_size
    refine Jvm.OwnWp.pop K at_43 rfl (pc' := 44) rfl ?_
    refine Jvm.OwnWp.iload K at_44 rfl (pc' := 46) rfl ?_
    refine Jvm.OwnWp.iconst K (3 : Int32) at_46 (by decide) (pc' := 47) rfl ?_
    refine icY K at_47 (by decide) (pc' := 61) (by decide) (by decide) ?_
    refine Jvm.OwnWp.iload K at_61 rfl (pc' := 63) rfl ?_
    refine Jvm.OwnWp.iconst K (4 : Int32) at_63 (by decide) (pc' := 64) rfl ?_
    refine icY K at_64 (by decide) (pc' := 79) (by decide) (by decide) ?_
    refine Jvm.OwnWp.iload K at_79 rfl (pc' := 81) rfl ?_
    refine Jvm.OwnWp.iconst K (1 : Int32) at_81 (by decide) (pc' := 82) rfl ?_
    refine icY K at_82 (by decide) (pc' := 91) (by decide) (by decide) ?_
    refine Jvm.OwnWp.iload K at_91 rfl (pc' := 93) rfl ?_
    refine Jvm.OwnWp.iconst K (2 : Int32) at_93 (by decide) (pc' := 94) rfl ?_
    refine icN K at_94 (by decide) (pc' := 97) rfl ?_
    refine Jvm.OwnWp.iloadN K at_97 rfl (pc' := 98) rfl ?_
    refine Jvm.OwnWp.istore K at_98 (Ls' := #[.val (.int p0), .val (.int p1), .val (.int p2), .val (.int p3), .val (.int p4), .val (.int p5), .val (.int ((1 : Int32) + (1 : Int32))), .val (.ref b44), .val (.int p2), .unset]) rfl (pc' := 100) rfl ?_
    refine goto' K at_100 (pc' := 119) (by decide) (by decide) ?_
    refine newObj K (wd76 hw) (wd77 hw) (wd78 hw) at_119 (by decide) (by decide) (pc' := 122) rfl ?_
    intro h50 b50 g50 E50 A50 D50
    have ne_x46_b50 : x46 ≠ b50 := Nat.ne_of_lt (Nat.lt_of_lt_of_eq (Exa.lt X49_x46) g50.symm)
    have ne_x48_b50 : x48 ≠ b50 := Nat.ne_of_lt (Nat.lt_of_lt_of_eq (Exa.lt X49_x48) g50.symm)
    have ne_b44_b50 : b44 ≠ b50 := Nat.ne_of_lt (Nat.lt_of_lt_of_eq (Exa.lt X49_b44) g50.symm)
    have ne_ea_b50 : ea ≠ b50 := Nat.ne_of_lt (Nat.lt_of_lt_of_eq (V49.lt) g50.symm)
    have lt_b50 : h0.size ≤ b50 := Nat.le_trans P49.1 (Nat.le_of_eq g50.symm)
    have ge_b50 : n0 ≤ b50 := Nat.le_trans Z0 lt_b50
    have F50_value_x46 := (Fld.ext E50 F49_value_x46)
    have F50_value_x48 := (Fld.ext E50 F49_value_x48)
    have F50_modCount_b44 := (Fld.ext E50 Q49_F_modCount)
    have F50_elementData_b44 := (Fld.ext E50 Q49_F_elementData)
    have F50_size_b44 := (Fld.ext E50 Q49_F_size)
    have X50_b44 := (Exa.ext E50 X49_b44)
    have X50_x46 := (Exa.ext E50 X49_x46)
    have X50_x48 := (Exa.ext E50 X49_x48)
    have V50_ea := (V49.ext E50)
    have O50 := (O49.ext E50)
    have P50 := (P49.ext E50)
    have F50_prices_b50 : Fld Z h50 b50 "com/example/tarifa/tarifa/pricing/SessionMenu" "prices" "Ljava/util/List;" .null := D50 (Or.inr (wd89 hw)) (ty := (.object "java/util/List")) (by decide)
    have F50_acceptanceRates_b50 : Fld Z h50 b50 "com/example/tarifa/tarifa/pricing/SessionMenu" "acceptanceRates" "Ljava/util/List;" .null := D50 (Or.inr (wd91 hw)) (ty := (.object "java/util/List")) (by decide)
    have F50_stateProbabilities_b50 : Fld Z h50 b50 "com/example/tarifa/tarifa/pricing/SessionMenu" "stateProbabilities" "Ljava/util/List;" .null := D50 (Or.inr (wd93 hw)) (ty := (.object "java/util/List")) (by decide)
    have F50_revenue_b50 : Fld Z h50 b50 "com/example/tarifa/tarifa/pricing/SessionMenu" "revenue" "D" (.double (0 : UInt64)) := D50 (Or.inr (wd95 hw)) (ty := .double) (by decide)
    refine Jvm.OwnWp.dup K at_122 rfl (pc' := 123) rfl ?_
    refine newObj K (wd0 hw) (wd1 hw) (wd2 hw) at_123 (by decide) (by decide) (pc' := 126) rfl ?_
    intro h51 b51 g51 E51 A51 D51
    have ne_x46_b51 : x46 ≠ b51 := Nat.ne_of_lt (Nat.lt_of_lt_of_eq (Exa.lt X50_x46) g51.symm)
    have ne_x48_b51 : x48 ≠ b51 := Nat.ne_of_lt (Nat.lt_of_lt_of_eq (Exa.lt X50_x48) g51.symm)
    have ne_b44_b51 : b44 ≠ b51 := Nat.ne_of_lt (Nat.lt_of_lt_of_eq (Exa.lt X50_b44) g51.symm)
    have ne_b50_b51 : b50 ≠ b51 := Nat.ne_of_lt (Nat.lt_of_lt_of_eq (Exa.lt A50) g51.symm)
    have ne_ea_b51 : ea ≠ b51 := Nat.ne_of_lt (Nat.lt_of_lt_of_eq (V50_ea.lt) g51.symm)
    have lt_b51 : h0.size ≤ b51 := Nat.le_trans P50.1 (Nat.le_of_eq g51.symm)
    have ge_b51 : n0 ≤ b51 := Nat.le_trans Z0 lt_b51
    have F51_value_x46 := (Fld.ext E51 F50_value_x46)
    have F51_value_x48 := (Fld.ext E51 F50_value_x48)
    have F51_modCount_b44 := (Fld.ext E51 F50_modCount_b44)
    have F51_elementData_b44 := (Fld.ext E51 F50_elementData_b44)
    have F51_size_b44 := (Fld.ext E51 F50_size_b44)
    have F51_prices_b50 := (Fld.ext E51 F50_prices_b50)
    have F51_acceptanceRates_b50 := (Fld.ext E51 F50_acceptanceRates_b50)
    have F51_stateProbabilities_b50 := (Fld.ext E51 F50_stateProbabilities_b50)
    have F51_revenue_b50 := (Fld.ext E51 F50_revenue_b50)
    have X51_b44 := (Exa.ext E51 X50_b44)
    have X51_x46 := (Exa.ext E51 X50_x46)
    have X51_x48 := (Exa.ext E51 X50_x48)
    have X51_b50 := (Exa.ext E51 A50)
    have V51_ea := (V50_ea.ext E51)
    have O51 := (O50.ext E51)
    have P51 := (P50.ext E51)
    have F51_modCount_b51 : Fld Z h51 b51 "java/util/AbstractList" "modCount" "I" (.int (0 : Int32)) := D51 (Or.inl (wd22 hw)) (ty := .int) (by decide)
    have F51_elementData_b51 : Fld Z h51 b51 "java/util/ArrayList" "elementData" "[Ljava/lang/Object;" .null := D51 (Or.inl (wd25 hw)) (ty := (.array (.object "java/lang/Object"))) (by decide)
    have F51_size_b51 : Fld Z h51 b51 "java/util/ArrayList" "size" "I" (.int (0 : Int32)) := D51 (Or.inl (wd53 hw)) (ty := .int) (by decide)
    refine Jvm.OwnWp.dup K at_126 rfl (pc' := 127) rfl ?_
    refine callInit K (y := (⟨"java/util/ArrayList", "<init>", "()V"⟩ : MethodName)) (b := b51) (argsL := []) (S := [(.ref b51), (.ref b50), (.ref b50)]) rfl (wd3 hw) (wd4 hw) (wd2 hw) (wd5 hw) rfl (by decide) (c_ali l Z a0 hw [] b51 u h51 n0 (Nat.le_trans Z0 P51.1) A51 ge_b51 F51_modCount_b51 F51_elementData_b51 F51_size_b51 S_u V0 O51) (lenOf pd0 rfl) at_127 rfl (Nat.le_of_ble_eq_true rfl) (Nat.le_of_ble_eq_true rfl) (Nat.le_of_ble_eq_true rfl) (Nat.le_of_ble_eq_true rfl) rfl (pc' := 130) rfl ?_
    rintro v52 h52 ⟨rfl, K52, Q52_F_modCount, Q52_F_elementData, Q52_F_size⟩
    have F52_value_x46 := (Fld.keep F51_value_x46 K52 (ninS ne_x46_b51 (nin0)))
    have F52_value_x48 := (Fld.keep F51_value_x48 K52 (ninS ne_x48_b51 (nin0)))
    have F52_modCount_b44 := (Fld.keep F51_modCount_b44 K52 (ninS ne_b44_b51 (nin0)))
    have F52_elementData_b44 := (Fld.keep F51_elementData_b44 K52 (ninS ne_b44_b51 (nin0)))
    have F52_size_b44 := (Fld.keep F51_size_b44 K52 (ninS ne_b44_b51 (nin0)))
    have F52_prices_b50 := (Fld.keep F51_prices_b50 K52 (ninS ne_b50_b51 (nin0)))
    have F52_acceptanceRates_b50 := (Fld.keep F51_acceptanceRates_b50 K52 (ninS ne_b50_b51 (nin0)))
    have F52_stateProbabilities_b50 := (Fld.keep F51_stateProbabilities_b50 K52 (ninS ne_b50_b51 (nin0)))
    have F52_revenue_b50 := (Fld.keep F51_revenue_b50 K52 (ninS ne_b50_b51 (nin0)))
    have X52_b44 := (Exa.keep X51_b44 K52)
    have X52_x46 := (Exa.keep X51_x46 K52)
    have X52_x48 := (Exa.keep X51_x48 K52)
    have X52_b50 := (Exa.keep X51_b50 K52)
    have X52_b51 := (Exa.keep A51 K52)
    have V52_ea := (V51_ea.keep K52 (ninS ne_ea_b51 (nin0)))
    have O52 := (O51.keep K52 (allS ge_b51 (all0)))
    have P52 := (P51.trans K52 (allS (Or.inr lt_b51) (all0)))
    show Go _ _ _ _ _ _ _ _ _ _ _ h52 6 22 (mkF m 130 #[.val (.int p0), .val (.int p1), .val (.int p2), .val (.int p3), .val (.int p4), .val (.int p5), .val (.int ((1 : Int32) + (1 : Int32))), .val (.ref b44), .val (.int p2), .unset] [(.ref b51), (.ref b50), (.ref b50)]) _
    refine newObj K (wd0 hw) (wd1 hw) (wd2 hw) at_130 (by decide) (by decide) (pc' := 133) rfl ?_
    intro h53 b53 g53 E53 A53 D53
    have ne_x46_b53 : x46 ≠ b53 := Nat.ne_of_lt (Nat.lt_of_lt_of_eq (Exa.lt X52_x46) g53.symm)
    have ne_x48_b53 : x48 ≠ b53 := Nat.ne_of_lt (Nat.lt_of_lt_of_eq (Exa.lt X52_x48) g53.symm)
    have ne_b44_b53 : b44 ≠ b53 := Nat.ne_of_lt (Nat.lt_of_lt_of_eq (Exa.lt X52_b44) g53.symm)
    have ne_b50_b53 : b50 ≠ b53 := Nat.ne_of_lt (Nat.lt_of_lt_of_eq (Exa.lt X52_b50) g53.symm)
    have ne_b51_b53 : b51 ≠ b53 := Nat.ne_of_lt (Nat.lt_of_lt_of_eq (Exa.lt X52_b51) g53.symm)
    have ne_ea_b53 : ea ≠ b53 := Nat.ne_of_lt (Nat.lt_of_lt_of_eq (V52_ea.lt) g53.symm)
    have lt_b53 : h0.size ≤ b53 := Nat.le_trans P52.1 (Nat.le_of_eq g53.symm)
    have ge_b53 : n0 ≤ b53 := Nat.le_trans Z0 lt_b53
    have F53_value_x46 := (Fld.ext E53 F52_value_x46)
    have F53_value_x48 := (Fld.ext E53 F52_value_x48)
    have F53_modCount_b44 := (Fld.ext E53 F52_modCount_b44)
    have F53_elementData_b44 := (Fld.ext E53 F52_elementData_b44)
    have F53_size_b44 := (Fld.ext E53 F52_size_b44)
    have F53_prices_b50 := (Fld.ext E53 F52_prices_b50)
    have F53_acceptanceRates_b50 := (Fld.ext E53 F52_acceptanceRates_b50)
    have F53_stateProbabilities_b50 := (Fld.ext E53 F52_stateProbabilities_b50)
    have F53_revenue_b50 := (Fld.ext E53 F52_revenue_b50)
    have F53_modCount_b51 := (Fld.ext E53 Q52_F_modCount)
    have F53_elementData_b51 := (Fld.ext E53 Q52_F_elementData)
    have F53_size_b51 := (Fld.ext E53 Q52_F_size)
    have X53_b44 := (Exa.ext E53 X52_b44)
    have X53_x46 := (Exa.ext E53 X52_x46)
    have X53_x48 := (Exa.ext E53 X52_x48)
    have X53_b50 := (Exa.ext E53 X52_b50)
    have X53_b51 := (Exa.ext E53 X52_b51)
    have V53_ea := (V52_ea.ext E53)
    have O53 := (O52.ext E53)
    have P53 := (P52.ext E53)
    have F53_modCount_b53 : Fld Z h53 b53 "java/util/AbstractList" "modCount" "I" (.int (0 : Int32)) := D53 (Or.inl (wd22 hw)) (ty := .int) (by decide)
    have F53_elementData_b53 : Fld Z h53 b53 "java/util/ArrayList" "elementData" "[Ljava/lang/Object;" .null := D53 (Or.inl (wd25 hw)) (ty := (.array (.object "java/lang/Object"))) (by decide)
    have F53_size_b53 : Fld Z h53 b53 "java/util/ArrayList" "size" "I" (.int (0 : Int32)) := D53 (Or.inl (wd53 hw)) (ty := .int) (by decide)
    refine Jvm.OwnWp.dup K at_133 rfl (pc' := 134) rfl ?_
    refine callInit K (y := (⟨"java/util/ArrayList", "<init>", "()V"⟩ : MethodName)) (b := b53) (argsL := []) (S := [(.ref b53), (.ref b51), (.ref b50), (.ref b50)]) rfl (wd3 hw) (wd4 hw) (wd2 hw) (wd5 hw) rfl (by decide) (c_ali l Z a0 hw [] b53 u h53 n0 (Nat.le_trans Z0 P53.1) A53 ge_b53 F53_modCount_b53 F53_elementData_b53 F53_size_b53 S_u V0 O53) (lenOf pd0 rfl) at_134 rfl (Nat.le_of_ble_eq_true rfl) (Nat.le_of_ble_eq_true rfl) (Nat.le_of_ble_eq_true rfl) (Nat.le_of_ble_eq_true rfl) rfl (pc' := 137) rfl ?_
    rintro v54 h54 ⟨rfl, K54, Q54_F_modCount, Q54_F_elementData, Q54_F_size⟩
    have F54_value_x46 := (Fld.keep F53_value_x46 K54 (ninS ne_x46_b53 (nin0)))
    have F54_value_x48 := (Fld.keep F53_value_x48 K54 (ninS ne_x48_b53 (nin0)))
    have F54_modCount_b44 := (Fld.keep F53_modCount_b44 K54 (ninS ne_b44_b53 (nin0)))
    have F54_elementData_b44 := (Fld.keep F53_elementData_b44 K54 (ninS ne_b44_b53 (nin0)))
    have F54_size_b44 := (Fld.keep F53_size_b44 K54 (ninS ne_b44_b53 (nin0)))
    have F54_prices_b50 := (Fld.keep F53_prices_b50 K54 (ninS ne_b50_b53 (nin0)))
    have F54_acceptanceRates_b50 := (Fld.keep F53_acceptanceRates_b50 K54 (ninS ne_b50_b53 (nin0)))
    have F54_stateProbabilities_b50 := (Fld.keep F53_stateProbabilities_b50 K54 (ninS ne_b50_b53 (nin0)))
    have F54_revenue_b50 := (Fld.keep F53_revenue_b50 K54 (ninS ne_b50_b53 (nin0)))
    have F54_modCount_b51 := (Fld.keep F53_modCount_b51 K54 (ninS ne_b51_b53 (nin0)))
    have F54_elementData_b51 := (Fld.keep F53_elementData_b51 K54 (ninS ne_b51_b53 (nin0)))
    have F54_size_b51 := (Fld.keep F53_size_b51 K54 (ninS ne_b51_b53 (nin0)))
    have X54_b44 := (Exa.keep X53_b44 K54)
    have X54_x46 := (Exa.keep X53_x46 K54)
    have X54_x48 := (Exa.keep X53_x48 K54)
    have X54_b50 := (Exa.keep X53_b50 K54)
    have X54_b51 := (Exa.keep X53_b51 K54)
    have X54_b53 := (Exa.keep A53 K54)
    have V54_ea := (V53_ea.keep K54 (ninS ne_ea_b53 (nin0)))
    have O54 := (O53.keep K54 (allS ge_b53 (all0)))
    have P54 := (P53.trans K54 (allS (Or.inr lt_b53) (all0)))
    show Go _ _ _ _ _ _ _ _ _ _ _ h54 7 25 (mkF m 137 #[.val (.int p0), .val (.int p1), .val (.int p2), .val (.int p3), .val (.int p4), .val (.int p5), .val (.int ((1 : Int32) + (1 : Int32))), .val (.ref b44), .val (.int p2), .unset] [(.ref b53), (.ref b51), (.ref b50), (.ref b50)]) _
    refine Jvm.OwnWp.aload K at_137 rfl rfl (pc' := 139) rfl ?_
    refine Jvm.OwnWp.iload K at_139 rfl (pc' := 141) rfl ?_
    refine Jvm.OwnWp.i2d K at_141 (pc' := 142) rfl ?_
    refine callInit K (y := (⟨"com/example/tarifa/tarifa/pricing/SessionMenu", "<init>", "(Ljava/util/List;Ljava/util/List;Ljava/util/List;D)V"⟩ : MethodName)) (b := b50) (argsL := [(.ref b51), (.ref b53), (.ref b44), (.double (FP.i2d p5))]) (S := [(.ref b50)]) rfl (wd79 hw) (wd80 hw) (wd78 hw) (wd81 hw) rfl (by decide) (c_smi l Z a0 hw [] b50 b51 b53 b44 (FP.i2d p5) h54 n0 (Nat.le_trans Z0 P54.1) X54_b50 ge_b50 F54_prices_b50 F54_acceptanceRates_b50 F54_stateProbabilities_b50 F54_revenue_b50) (lenOf pd12 rfl) at_142 rfl (Nat.le_of_ble_eq_true rfl) (Nat.le_of_ble_eq_true rfl) (Nat.le_of_ble_eq_true rfl) (Nat.le_of_ble_eq_true rfl) rfl (pc' := 145) rfl ?_
    rintro v55 h55 ⟨rfl, K55, Q55⟩
    have F55_value_x46 := (Fld.keep F54_value_x46 K55 (ninS ne_x46_b50 (nin0)))
    have F55_value_x48 := (Fld.keep F54_value_x48 K55 (ninS ne_x48_b50 (nin0)))
    have F55_modCount_b44 := (Fld.keep F54_modCount_b44 K55 (ninS ne_b44_b50 (nin0)))
    have F55_elementData_b44 := (Fld.keep F54_elementData_b44 K55 (ninS ne_b44_b50 (nin0)))
    have F55_size_b44 := (Fld.keep F54_size_b44 K55 (ninS ne_b44_b50 (nin0)))
    have F55_modCount_b51 := (Fld.keep F54_modCount_b51 K55 (ninS (Ne.symm ne_b50_b51) (nin0)))
    have F55_elementData_b51 := (Fld.keep F54_elementData_b51 K55 (ninS (Ne.symm ne_b50_b51) (nin0)))
    have F55_size_b51 := (Fld.keep F54_size_b51 K55 (ninS (Ne.symm ne_b50_b51) (nin0)))
    have F55_modCount_b53 := (Fld.keep Q54_F_modCount K55 (ninS (Ne.symm ne_b50_b53) (nin0)))
    have F55_elementData_b53 := (Fld.keep Q54_F_elementData K55 (ninS (Ne.symm ne_b50_b53) (nin0)))
    have F55_size_b53 := (Fld.keep Q54_F_size K55 (ninS (Ne.symm ne_b50_b53) (nin0)))
    have X55_b44 := (Exa.keep X54_b44 K55)
    have X55_x46 := (Exa.keep X54_x46 K55)
    have X55_x48 := (Exa.keep X54_x48 K55)
    have X55_b50 := (Exa.keep X54_b50 K55)
    have X55_b51 := (Exa.keep X54_b51 K55)
    have X55_b53 := (Exa.keep X54_b53 K55)
    have V55_ea := (V54_ea.keep K55 (ninS ne_ea_b50 (nin0)))
    have O55 := (O54.keep K55 (allS ge_b50 (all0)))
    have P55 := (P54.trans K55 (allS (Or.inr lt_b50) (all0)))
    show Go _ _ _ _ _ _ _ _ _ _ _ h55 7 25 (mkF m 145 #[.val (.int p0), .val (.int p1), .val (.int p2), .val (.int p3), .val (.int p4), .val (.int p5), .val (.int ((1 : Int32) + (1 : Int32))), .val (.ref b44), .val (.int p2), .unset] [(.ref b50)]) _
    refine Jvm.OwnWp.astore K at_145 rfl (Ls' := #[.val (.int p0), .val (.int p1), .val (.int p2), .val (.int p3), .val (.int p4), .val (.int p5), .val (.int ((1 : Int32) + (1 : Int32))), .val (.ref b44), .val (.int p2), .val (.ref b50)]) rfl (pc' := 147) rfl ?_
    refine Jvm.OwnWp.aload K at_147 rfl rfl (pc' := 149) rfl ?_
    refine callVirt K (y := (⟨"com/example/tarifa/tarifa/pricing/SessionMenu", "blockingProbability", "()D"⟩ : MethodName)) (b := b50) (argsL := []) (S := []) (wd96 hw) (wd97 hw) (wd99 hw) (wd98 hw) (wd78 hw) (wd100 hw) (by decide) X55_b50 (c_bp l Z a0 hw [] b50 b44 ea x48 (FP.i2d p2) 1 (Int32.ofNat 2) (((List.replicate 10 .null).set 0 (.ref x46)).set 1 (.ref x48)) h55 n0 (Nat.le_trans Z0 P55.1) X55_b44 (by decide) (by decide) (by decide) (by simp) X55_x48 F55_value_x48 Q55 F55_elementData_b44 F55_size_b44 V55_ea) (lenOf pd9 rfl) at_149 rfl (Nat.le_of_ble_eq_true rfl) (Nat.le_of_ble_eq_true rfl) (Nat.le_of_ble_eq_true rfl) (Nat.le_of_ble_eq_true rfl) rfl (pc' := 152) rfl ?_
    rintro v56 h56 ⟨rfl, rfl⟩
    show Go _ _ _ _ _ _ _ _ _ _ _ h55 7 25 (mkF m 152 #[.val (.int p0), .val (.int p1), .val (.int p2), .val (.int p3), .val (.int p4), .val (.int p5), .val (.int ((1 : Int32) + (1 : Int32))), .val (.ref b44), .val (.int p2), .val (.ref b50)] [(.double (FP.i2d p2))]) _
    refine Jvm.OwnWp.iload K at_152 rfl (pc' := 154) rfl ?_
    refine Jvm.OwnWp.i2d K at_154 (pc' := 155) rfl ?_
    refine Jvm.OwnWp.dcmp K at_155 (pc' := 156) rfl ?_
    refine ifN K at_156 (dd_l_ne_f (show FP.dcmp _ _ = some .eq from Jvm.FP.Core.dcmp_eq.mpr ⟨Jvm.FP.Core.DInt_ne_nan (Jvm.FP.Core.i2d_int _), Jvm.FP.Core.DInt_ne_nan (Jvm.FP.Core.i2d_int _), rfl⟩)) (pc' := 159) rfl ?_
    refine Jvm.OwnWp.iconst K (1 : Int32) at_159 (by decide) (pc' := 160) rfl ?_
    refine goto' K at_160 (pc' := 164) (by decide) (by decide) ?_
    refine retB K (t := .boolean) rfl (by simp) at_164 (Nat.le_of_ble_eq_true rfl) (Nat.le_of_ble_eq_true rfl) ?_
    rfl
  · rw [hb]
    refine Jvm.OwnWp.iconst K (1 : Int32) at_3 (by decide) (pc' := 4) rfl ?_
    refine Jvm.OwnWp.iadd K at_4 (pc' := 5) rfl ?_
    refine Jvm.OwnWp.istore K at_5 (Ls' := #[.val (.int p0), .val (.int p1), .val (.int p2), .val (.int p3), .val (.int p4), .val (.int p5), .val (.int ((2 : Int32) + (1 : Int32))), .unset, .unset, .unset]) rfl (pc' := 7) rfl ?_
    refine newObj K (wd0 hw) (wd1 hw) (wd2 hw) at_7 (by decide) (by decide) (pc' := 10) rfl ?_
    intro h57 b57 g57 E57 A57 D57
    have lt_b57 : h0.size ≤ b57 := Nat.le_trans P0.1 (Nat.le_of_eq g57.symm)
    have ge_b57 : n0 ≤ b57 := Nat.le_trans Z0 lt_b57
    have O57 := (O0.ext E57)
    have P57 := (P0.ext E57)
    have F57_modCount_b57 : Fld Z h57 b57 "java/util/AbstractList" "modCount" "I" (.int (0 : Int32)) := D57 (Or.inl (wd22 hw)) (ty := .int) (by decide)
    have F57_elementData_b57 : Fld Z h57 b57 "java/util/ArrayList" "elementData" "[Ljava/lang/Object;" .null := D57 (Or.inl (wd25 hw)) (ty := (.array (.object "java/lang/Object"))) (by decide)
    have F57_size_b57 : Fld Z h57 b57 "java/util/ArrayList" "size" "I" (.int (0 : Int32)) := D57 (Or.inl (wd53 hw)) (ty := .int) (by decide)
    refine Jvm.OwnWp.dup K at_10 rfl (pc' := 11) rfl ?_
    refine callInit K (y := (⟨"java/util/ArrayList", "<init>", "()V"⟩ : MethodName)) (b := b57) (argsL := []) (S := [(.ref b57)]) rfl (wd3 hw) (wd4 hw) (wd2 hw) (wd5 hw) rfl (by decide) (c_ali l Z a0 hw [] b57 u h57 n0 (Nat.le_trans Z0 P57.1) A57 ge_b57 F57_modCount_b57 F57_elementData_b57 F57_size_b57 S_u V0 O57) (lenOf pd0 rfl) at_11 rfl (Nat.le_of_ble_eq_true rfl) (Nat.le_of_ble_eq_true rfl) (Nat.le_of_ble_eq_true rfl) (Nat.le_of_ble_eq_true rfl) rfl (pc' := 14) rfl ?_
    rintro v58 h58 ⟨rfl, K58, Q58_F_modCount, Q58_F_elementData, Q58_F_size⟩
    have X58_b57 := (Exa.keep A57 K58)
    have O58 := (O57.keep K58 (allS ge_b57 (all0)))
    have P58 := (P57.trans K58 (allS (Or.inr lt_b57) (all0)))
    show Go _ _ _ _ _ _ _ _ _ _ _ h58 1 3 (mkF m 14 #[.val (.int p0), .val (.int p1), .val (.int p2), .val (.int p3), .val (.int p4), .val (.int p5), .val (.int ((2 : Int32) + (1 : Int32))), .unset, .unset, .unset] [(.ref b57)]) _
    refine Jvm.OwnWp.astore K at_14 rfl (Ls' := #[.val (.int p0), .val (.int p1), .val (.int p2), .val (.int p3), .val (.int p4), .val (.int p5), .val (.int ((2 : Int32) + (1 : Int32))), .val (.ref b57), .unset, .unset]) rfl (pc' := 16) rfl ?_
    refine Jvm.OwnWp.aload K at_16 rfl rfl (pc' := 18) rfl ?_
    refine Jvm.OwnWp.iloadN K at_18 rfl (pc' := 19) rfl ?_
    refine Jvm.OwnWp.i2d K at_19 (pc' := 20) rfl ?_
    refine callStatic K (y := (⟨"java/lang/Double", "valueOf", "(D)Ljava/lang/Double;"⟩ : MethodName)) (argsL := [(.double (FP.i2d p1))]) (S := [(.ref b57)]) (wd26 hw) (wd27 hw) (wd28 hw) (wd29 hw) (by decide) (c_dv l Z a0 hw [] (FP.i2d p1) h58 n0 (Nat.le_trans Z0 P58.1)) (lenOf pd10 rfl) at_20 rfl (Nat.le_of_ble_eq_true rfl) (Nat.le_of_ble_eq_true rfl) (Nat.le_of_ble_eq_true rfl) (Nat.le_of_ble_eq_true rfl) rfl (pc' := 23) rfl ?_
    rintro v59 h59 ⟨K59, x59, rfl, lt59, X59, D59⟩
    have ne_b57_x59 : b57 ≠ x59 := Nat.ne_of_lt (Nat.lt_of_lt_of_le (Exa.lt X58_b57) lt59)
    have lt_x59 : h0.size ≤ x59 := Nat.le_trans P58.1 lt59
    have ge_x59 : n0 ≤ x59 := Nat.le_trans Z0 lt_x59
    have F59_modCount_b57 := (Fld.keep Q58_F_modCount K59 (nin0))
    have F59_elementData_b57 := (Fld.keep Q58_F_elementData K59 (nin0))
    have F59_size_b57 := (Fld.keep Q58_F_size K59 (nin0))
    have X59_b57 := (Exa.keep X58_b57 K59)
    have O59 := (O58.keep K59 (all0))
    have P59 := (P58.trans K59 (all0))
    show Go _ _ _ _ _ _ _ _ _ _ _ h59 2 4 (mkF m 23 #[.val (.int p0), .val (.int p1), .val (.int p2), .val (.int p3), .val (.int p4), .val (.int p5), .val (.int ((2 : Int32) + (1 : Int32))), .val (.ref b57), .unset, .unset] [(.ref x59), (.ref b57)]) _
    refine callVirt K (y := (⟨"java/util/ArrayList", "add", "(Ljava/lang/Object;)Z"⟩ : MethodName)) (b := b57) (argsL := [(.ref x59)]) (S := []) (wd45 hw) (wd46 hw) (wd48 hw) (wd47 hw) (wd2 hw) (wd49 hw) (by decide) X59_b57 (c_adda l Z a0 hw [] b57 x59 u (0 : Int32) h59 n0 (Nat.le_trans Z0 P59.1) X59_b57 ge_b57 X59 (Ne.symm ne_b57_x59) F59_modCount_b57 F59_elementData_b57 F59_size_b57 S_u V0 O59) (lenOf pd11 rfl) at_23 rfl (Nat.le_of_ble_eq_true rfl) (Nat.le_of_ble_eq_true rfl) (Nat.le_of_ble_eq_true rfl) (Nat.le_of_ble_eq_true rfl) rfl (pc' := 26) rfl ?_
    rintro v60 h60 ⟨rfl, K60, ea, lt60, V60, Q60_F_modCount, Q60_F_elementData, Q60_F_size⟩
    have ne_b57_ea : b57 ≠ ea := Nat.ne_of_lt (Nat.lt_of_lt_of_le (Exa.lt X59_b57) lt60)
    have ne_x59_ea : x59 ≠ ea := Nat.ne_of_lt (Nat.lt_of_lt_of_le (Exa.lt X59) lt60)
    have lt_ea : h0.size ≤ ea := Nat.le_trans P59.1 lt60
    have ge_ea : n0 ≤ ea := Nat.le_trans Z0 lt_ea
    have F60_value_x59 := (Fld.keep D59 K60 (ninS (Ne.symm ne_b57_x59) (nin0)))
    have X60_b57 := (Exa.keep X59_b57 K60)
    have X60_x59 := (Exa.keep X59 K60)
    have O60 := (O59.keep K60 (allS ge_b57 (all0)))
    have P60 := (P59.trans K60 (allS (Or.inr lt_b57) (all0)))
    show Go _ _ _ _ _ _ _ _ _ _ _ h60 3 14 (mkF m 26 #[.val (.int p0), .val (.int p1), .val (.int p2), .val (.int p3), .val (.int p4), .val (.int p5), .val (.int ((2 : Int32) + (1 : Int32))), .val (.ref b57), .unset, .unset] [(.int (1 : Int32))]) _
    have Q60_F_size : Fld Z h60 b57 "java/util/ArrayList" "size" "I" (.int (Int32.ofNat 1)) := Q60_F_size
    refine Jvm.OwnWp.pop K at_26 rfl (pc' := 27) rfl ?_
    refine Jvm.OwnWp.iload K at_27 rfl (pc' := 29) rfl ?_
    refine Jvm.OwnWp.iconst K (2 : Int32) at_29 (by decide) (pc' := 30) rfl ?_
    refine icN K at_30 (by decide) (pc' := 33) rfl ?_
    refine Jvm.OwnWp.aload K at_33 rfl rfl (pc' := 35) rfl ?_
    refine Jvm.OwnWp.iloadN K at_35 rfl (pc' := 36) rfl ?_
    refine Jvm.OwnWp.i2d K at_36 (pc' := 37) rfl ?_
    refine callStatic K (y := (⟨"java/lang/Double", "valueOf", "(D)Ljava/lang/Double;"⟩ : MethodName)) (argsL := [(.double (FP.i2d p2))]) (S := [(.ref b57)]) (wd26 hw) (wd27 hw) (wd28 hw) (wd29 hw) (by decide) (c_dv l Z a0 hw [] (FP.i2d p2) h60 n0 (Nat.le_trans Z0 P60.1)) (lenOf pd10 rfl) at_37 rfl (Nat.le_of_ble_eq_true rfl) (Nat.le_of_ble_eq_true rfl) (Nat.le_of_ble_eq_true rfl) (Nat.le_of_ble_eq_true rfl) rfl (pc' := 40) rfl ?_
    rintro v61 h61 ⟨K61, x61, rfl, lt61, X61, D61⟩
    have ne_x59_x61 : x59 ≠ x61 := Nat.ne_of_lt (Nat.lt_of_lt_of_le (Exa.lt X60_x59) lt61)
    have ne_b57_x61 : b57 ≠ x61 := Nat.ne_of_lt (Nat.lt_of_lt_of_le (Exa.lt X60_b57) lt61)
    have ne_ea_x61 : ea ≠ x61 := Nat.ne_of_lt (Nat.lt_of_lt_of_le (V60.lt) lt61)
    have lt_x61 : h0.size ≤ x61 := Nat.le_trans P60.1 lt61
    have ge_x61 : n0 ≤ x61 := Nat.le_trans Z0 lt_x61
    have F61_value_x59 := (Fld.keep F60_value_x59 K61 (nin0))
    have F61_modCount_b57 := (Fld.keep Q60_F_modCount K61 (nin0))
    have F61_elementData_b57 := (Fld.keep Q60_F_elementData K61 (nin0))
    have F61_size_b57 := (Fld.keep Q60_F_size K61 (nin0))
    have X61_b57 := (Exa.keep X60_b57 K61)
    have X61_x59 := (Exa.keep X60_x59 K61)
    have V61_ea := (V60.keep K61 (nin0))
    have O61 := (O60.keep K61 (all0))
    have P61 := (P60.trans K61 (all0))
    show Go _ _ _ _ _ _ _ _ _ _ _ h61 4 15 (mkF m 40 #[.val (.int p0), .val (.int p1), .val (.int p2), .val (.int p3), .val (.int p4), .val (.int p5), .val (.int ((2 : Int32) + (1 : Int32))), .val (.ref b57), .unset, .unset] [(.ref x61), (.ref b57)]) _
    refine callVirt K (y := (⟨"java/util/ArrayList", "add", "(Ljava/lang/Object;)Z"⟩ : MethodName)) (b := b57) (argsL := [(.ref x61)]) (S := []) (wd45 hw) (wd46 hw) (wd48 hw) (wd47 hw) (wd2 hw) (wd49 hw) (by decide) X61_b57 (c_addb l Z a0 hw [] b57 x61 ea ((0 : Int32) + 1) 1 ((List.replicate 10 .null).set 0 (.ref x59)) h61 n0 (Nat.le_trans Z0 P61.1) (by simp) (by decide) X61_b57 ge_b57 X61 (Ne.symm ne_b57_x61) ge_ea (Ne.symm ne_b57_ea) (Ne.symm ne_ea_x61) F61_modCount_b57 F61_elementData_b57 F61_size_b57 V61_ea) (lenOf pd11 rfl) at_40 rfl (Nat.le_of_ble_eq_true rfl) (Nat.le_of_ble_eq_true rfl) (Nat.le_of_ble_eq_true rfl) (Nat.le_of_ble_eq_true rfl) rfl (pc' := 43) rfl ?_
    rintro v62 h62 ⟨rfl, K62, V62, Q62_F_modCount, Q62_F_elementData, Q62_F_size⟩
    have F62_value_x59 := (Fld.keep F61_value_x59 K62 (ninS (Ne.symm ne_b57_x59) (ninS ne_x59_ea (nin0))))
    have F62_value_x61 := (Fld.keep D61 K62 (ninS (Ne.symm ne_b57_x61) (ninS (Ne.symm ne_ea_x61) (nin0))))
    have X62_b57 := (Exa.keep X61_b57 K62)
    have X62_x59 := (Exa.keep X61_x59 K62)
    have X62_x61 := (Exa.keep X61 K62)
    have O62 := (O61.keep K62 (allS ge_b57 (allS ge_ea (all0))))
    have P62 := (P61.trans K62 (allS (Or.inr lt_b57) (allS (Or.inr lt_ea) (all0))))
    show Go _ _ _ _ _ _ _ _ _ _ _ h62 4 15 (mkF m 43 #[.val (.int p0), .val (.int p1), .val (.int p2), .val (.int p3), .val (.int p4), .val (.int p5), .val (.int ((2 : Int32) + (1 : Int32))), .val (.ref b57), .unset, .unset] [(.int (1 : Int32))]) _
    have Q62_F_size : Fld Z h62 b57 "java/util/ArrayList" "size" "I" (.int (Int32.ofNat 2)) := Q62_F_size
    refine Jvm.OwnWp.pop K at_43 rfl (pc' := 44) rfl ?_
    refine Jvm.OwnWp.iload K at_44 rfl (pc' := 46) rfl ?_
    refine Jvm.OwnWp.iconst K (3 : Int32) at_46 (by decide) (pc' := 47) rfl ?_
    refine icN K at_47 (by decide) (pc' := 50) rfl ?_
    refine Jvm.OwnWp.aload K at_50 rfl rfl (pc' := 52) rfl ?_
    refine Jvm.OwnWp.iloadN K at_52 rfl (pc' := 53) rfl ?_
    refine Jvm.OwnWp.i2d K at_53 (pc' := 54) rfl ?_
    refine callStatic K (y := (⟨"java/lang/Double", "valueOf", "(D)Ljava/lang/Double;"⟩ : MethodName)) (argsL := [(.double (FP.i2d p3))]) (S := [(.ref b57)]) (wd26 hw) (wd27 hw) (wd28 hw) (wd29 hw) (by decide) (c_dv l Z a0 hw [] (FP.i2d p3) h62 n0 (Nat.le_trans Z0 P62.1)) (lenOf pd10 rfl) at_54 rfl (Nat.le_of_ble_eq_true rfl) (Nat.le_of_ble_eq_true rfl) (Nat.le_of_ble_eq_true rfl) (Nat.le_of_ble_eq_true rfl) rfl (pc' := 57) rfl ?_
    rintro v63 h63 ⟨K63, x63, rfl, lt63, X63, D63⟩
    have ne_x59_x63 : x59 ≠ x63 := Nat.ne_of_lt (Nat.lt_of_lt_of_le (Exa.lt X62_x59) lt63)
    have ne_x61_x63 : x61 ≠ x63 := Nat.ne_of_lt (Nat.lt_of_lt_of_le (Exa.lt X62_x61) lt63)
    have ne_b57_x63 : b57 ≠ x63 := Nat.ne_of_lt (Nat.lt_of_lt_of_le (Exa.lt X62_b57) lt63)
    have ne_ea_x63 : ea ≠ x63 := Nat.ne_of_lt (Nat.lt_of_lt_of_le (V62.lt) lt63)
    have lt_x63 : h0.size ≤ x63 := Nat.le_trans P62.1 lt63
    have ge_x63 : n0 ≤ x63 := Nat.le_trans Z0 lt_x63
    have F63_value_x59 := (Fld.keep F62_value_x59 K63 (nin0))
    have F63_value_x61 := (Fld.keep F62_value_x61 K63 (nin0))
    have F63_modCount_b57 := (Fld.keep Q62_F_modCount K63 (nin0))
    have F63_elementData_b57 := (Fld.keep Q62_F_elementData K63 (nin0))
    have F63_size_b57 := (Fld.keep Q62_F_size K63 (nin0))
    have X63_b57 := (Exa.keep X62_b57 K63)
    have X63_x59 := (Exa.keep X62_x59 K63)
    have X63_x61 := (Exa.keep X62_x61 K63)
    have V63_ea := (V62.keep K63 (nin0))
    have O63 := (O62.keep K63 (all0))
    have P63 := (P62.trans K63 (all0))
    show Go _ _ _ _ _ _ _ _ _ _ _ h63 5 16 (mkF m 57 #[.val (.int p0), .val (.int p1), .val (.int p2), .val (.int p3), .val (.int p4), .val (.int p5), .val (.int ((2 : Int32) + (1 : Int32))), .val (.ref b57), .unset, .unset] [(.ref x63), (.ref b57)]) _
    refine callVirt K (y := (⟨"java/util/ArrayList", "add", "(Ljava/lang/Object;)Z"⟩ : MethodName)) (b := b57) (argsL := [(.ref x63)]) (S := []) (wd45 hw) (wd46 hw) (wd48 hw) (wd47 hw) (wd2 hw) (wd49 hw) (by decide) X63_b57 (c_addb l Z a0 hw [] b57 x63 ea (((0 : Int32) + 1) + 1) 2 (((List.replicate 10 .null).set 0 (.ref x59)).set 1 (.ref x61)) h63 n0 (Nat.le_trans Z0 P63.1) (by simp) (by decide) X63_b57 ge_b57 X63 (Ne.symm ne_b57_x63) ge_ea (Ne.symm ne_b57_ea) (Ne.symm ne_ea_x63) F63_modCount_b57 F63_elementData_b57 F63_size_b57 V63_ea) (lenOf pd11 rfl) at_57 rfl (Nat.le_of_ble_eq_true rfl) (Nat.le_of_ble_eq_true rfl) (Nat.le_of_ble_eq_true rfl) (Nat.le_of_ble_eq_true rfl) rfl (pc' := 60) rfl ?_
    rintro v64 h64 ⟨rfl, K64, V64, Q64_F_modCount, Q64_F_elementData, Q64_F_size⟩
    have F64_value_x59 := (Fld.keep F63_value_x59 K64 (ninS (Ne.symm ne_b57_x59) (ninS ne_x59_ea (nin0))))
    have F64_value_x61 := (Fld.keep F63_value_x61 K64 (ninS (Ne.symm ne_b57_x61) (ninS (Ne.symm ne_ea_x61) (nin0))))
    have F64_value_x63 := (Fld.keep D63 K64 (ninS (Ne.symm ne_b57_x63) (ninS (Ne.symm ne_ea_x63) (nin0))))
    have X64_b57 := (Exa.keep X63_b57 K64)
    have X64_x59 := (Exa.keep X63_x59 K64)
    have X64_x61 := (Exa.keep X63_x61 K64)
    have X64_x63 := (Exa.keep X63 K64)
    have O64 := (O63.keep K64 (allS ge_b57 (allS ge_ea (all0))))
    have P64 := (P63.trans K64 (allS (Or.inr lt_b57) (allS (Or.inr lt_ea) (all0))))
    show Go _ _ _ _ _ _ _ _ _ _ _ h64 5 16 (mkF m 60 #[.val (.int p0), .val (.int p1), .val (.int p2), .val (.int p3), .val (.int p4), .val (.int p5), .val (.int ((2 : Int32) + (1 : Int32))), .val (.ref b57), .unset, .unset] [(.int (1 : Int32))]) _
    have Q64_F_size : Fld Z h64 b57 "java/util/ArrayList" "size" "I" (.int (Int32.ofNat 3)) := Q64_F_size
    refine Jvm.OwnWp.pop K at_60 rfl (pc' := 61) rfl ?_
    refine Jvm.OwnWp.iload K at_61 rfl (pc' := 63) rfl ?_
    refine Jvm.OwnWp.iconst K (4 : Int32) at_63 (by decide) (pc' := 64) rfl ?_
    refine icY K at_64 (by decide) (pc' := 79) (by decide) (by decide) ?_
    refine Jvm.OwnWp.iload K at_79 rfl (pc' := 81) rfl ?_
    refine Jvm.OwnWp.iconst K (1 : Int32) at_81 (by decide) (pc' := 82) rfl ?_
    refine icY K at_82 (by decide) (pc' := 91) (by decide) (by decide) ?_
    refine Jvm.OwnWp.iload K at_91 rfl (pc' := 93) rfl ?_
    refine Jvm.OwnWp.iconst K (2 : Int32) at_93 (by decide) (pc' := 94) rfl ?_
    refine icY K at_94 (by decide) (pc' := 103) (by decide) (by decide) ?_
    refine Jvm.OwnWp.iload K at_103 rfl (pc' := 105) rfl ?_
    refine Jvm.OwnWp.iconst K (3 : Int32) at_105 (by decide) (pc' := 106) rfl ?_
    refine icN K at_106 (by decide) (pc' := 109) rfl ?_
    refine Jvm.OwnWp.iloadN K at_109 rfl (pc' := 110) rfl ?_
    refine Jvm.OwnWp.istore K at_110 (Ls' := #[.val (.int p0), .val (.int p1), .val (.int p2), .val (.int p3), .val (.int p4), .val (.int p5), .val (.int ((2 : Int32) + (1 : Int32))), .val (.ref b57), .val (.int p3), .unset]) rfl (pc' := 112) rfl ?_
    refine goto' K at_112 (pc' := 119) (by decide) (by decide) ?_
    refine newObj K (wd76 hw) (wd77 hw) (wd78 hw) at_119 (by decide) (by decide) (pc' := 122) rfl ?_
    intro h65 b65 g65 E65 A65 D65
    have ne_x59_b65 : x59 ≠ b65 := Nat.ne_of_lt (Nat.lt_of_lt_of_eq (Exa.lt X64_x59) g65.symm)
    have ne_x61_b65 : x61 ≠ b65 := Nat.ne_of_lt (Nat.lt_of_lt_of_eq (Exa.lt X64_x61) g65.symm)
    have ne_x63_b65 : x63 ≠ b65 := Nat.ne_of_lt (Nat.lt_of_lt_of_eq (Exa.lt X64_x63) g65.symm)
    have ne_b57_b65 : b57 ≠ b65 := Nat.ne_of_lt (Nat.lt_of_lt_of_eq (Exa.lt X64_b57) g65.symm)
    have ne_ea_b65 : ea ≠ b65 := Nat.ne_of_lt (Nat.lt_of_lt_of_eq (V64.lt) g65.symm)
    have lt_b65 : h0.size ≤ b65 := Nat.le_trans P64.1 (Nat.le_of_eq g65.symm)
    have ge_b65 : n0 ≤ b65 := Nat.le_trans Z0 lt_b65
    have F65_value_x59 := (Fld.ext E65 F64_value_x59)
    have F65_value_x61 := (Fld.ext E65 F64_value_x61)
    have F65_value_x63 := (Fld.ext E65 F64_value_x63)
    have F65_modCount_b57 := (Fld.ext E65 Q64_F_modCount)
    have F65_elementData_b57 := (Fld.ext E65 Q64_F_elementData)
    have F65_size_b57 := (Fld.ext E65 Q64_F_size)
    have X65_b57 := (Exa.ext E65 X64_b57)
    have X65_x59 := (Exa.ext E65 X64_x59)
    have X65_x61 := (Exa.ext E65 X64_x61)
    have X65_x63 := (Exa.ext E65 X64_x63)
    have V65_ea := (V64.ext E65)
    have O65 := (O64.ext E65)
    have P65 := (P64.ext E65)
    have F65_prices_b65 : Fld Z h65 b65 "com/example/tarifa/tarifa/pricing/SessionMenu" "prices" "Ljava/util/List;" .null := D65 (Or.inr (wd89 hw)) (ty := (.object "java/util/List")) (by decide)
    have F65_acceptanceRates_b65 : Fld Z h65 b65 "com/example/tarifa/tarifa/pricing/SessionMenu" "acceptanceRates" "Ljava/util/List;" .null := D65 (Or.inr (wd91 hw)) (ty := (.object "java/util/List")) (by decide)
    have F65_stateProbabilities_b65 : Fld Z h65 b65 "com/example/tarifa/tarifa/pricing/SessionMenu" "stateProbabilities" "Ljava/util/List;" .null := D65 (Or.inr (wd93 hw)) (ty := (.object "java/util/List")) (by decide)
    have F65_revenue_b65 : Fld Z h65 b65 "com/example/tarifa/tarifa/pricing/SessionMenu" "revenue" "D" (.double (0 : UInt64)) := D65 (Or.inr (wd95 hw)) (ty := .double) (by decide)
    refine Jvm.OwnWp.dup K at_122 rfl (pc' := 123) rfl ?_
    refine newObj K (wd0 hw) (wd1 hw) (wd2 hw) at_123 (by decide) (by decide) (pc' := 126) rfl ?_
    intro h66 b66 g66 E66 A66 D66
    have ne_x59_b66 : x59 ≠ b66 := Nat.ne_of_lt (Nat.lt_of_lt_of_eq (Exa.lt X65_x59) g66.symm)
    have ne_x61_b66 : x61 ≠ b66 := Nat.ne_of_lt (Nat.lt_of_lt_of_eq (Exa.lt X65_x61) g66.symm)
    have ne_x63_b66 : x63 ≠ b66 := Nat.ne_of_lt (Nat.lt_of_lt_of_eq (Exa.lt X65_x63) g66.symm)
    have ne_b57_b66 : b57 ≠ b66 := Nat.ne_of_lt (Nat.lt_of_lt_of_eq (Exa.lt X65_b57) g66.symm)
    have ne_b65_b66 : b65 ≠ b66 := Nat.ne_of_lt (Nat.lt_of_lt_of_eq (Exa.lt A65) g66.symm)
    have ne_ea_b66 : ea ≠ b66 := Nat.ne_of_lt (Nat.lt_of_lt_of_eq (V65_ea.lt) g66.symm)
    have lt_b66 : h0.size ≤ b66 := Nat.le_trans P65.1 (Nat.le_of_eq g66.symm)
    have ge_b66 : n0 ≤ b66 := Nat.le_trans Z0 lt_b66
    have F66_value_x59 := (Fld.ext E66 F65_value_x59)
    have F66_value_x61 := (Fld.ext E66 F65_value_x61)
    have F66_value_x63 := (Fld.ext E66 F65_value_x63)
    have F66_modCount_b57 := (Fld.ext E66 F65_modCount_b57)
    have F66_elementData_b57 := (Fld.ext E66 F65_elementData_b57)
    have F66_size_b57 := (Fld.ext E66 F65_size_b57)
    have F66_prices_b65 := (Fld.ext E66 F65_prices_b65)
    have F66_acceptanceRates_b65 := (Fld.ext E66 F65_acceptanceRates_b65)
    have F66_stateProbabilities_b65 := (Fld.ext E66 F65_stateProbabilities_b65)
    have F66_revenue_b65 := (Fld.ext E66 F65_revenue_b65)
    have X66_b57 := (Exa.ext E66 X65_b57)
    have X66_x59 := (Exa.ext E66 X65_x59)
    have X66_x61 := (Exa.ext E66 X65_x61)
    have X66_x63 := (Exa.ext E66 X65_x63)
    have X66_b65 := (Exa.ext E66 A65)
    have V66_ea := (V65_ea.ext E66)
    have O66 := (O65.ext E66)
    have P66 := (P65.ext E66)
    have F66_modCount_b66 : Fld Z h66 b66 "java/util/AbstractList" "modCount" "I" (.int (0 : Int32)) := D66 (Or.inl (wd22 hw)) (ty := .int) (by decide)
    have F66_elementData_b66 : Fld Z h66 b66 "java/util/ArrayList" "elementData" "[Ljava/lang/Object;" .null := D66 (Or.inl (wd25 hw)) (ty := (.array (.object "java/lang/Object"))) (by decide)
    have F66_size_b66 : Fld Z h66 b66 "java/util/ArrayList" "size" "I" (.int (0 : Int32)) := D66 (Or.inl (wd53 hw)) (ty := .int) (by decide)
    refine Jvm.OwnWp.dup K at_126 rfl (pc' := 127) rfl ?_
    refine callInit K (y := (⟨"java/util/ArrayList", "<init>", "()V"⟩ : MethodName)) (b := b66) (argsL := []) (S := [(.ref b66), (.ref b65), (.ref b65)]) rfl (wd3 hw) (wd4 hw) (wd2 hw) (wd5 hw) rfl (by decide) (c_ali l Z a0 hw [] b66 u h66 n0 (Nat.le_trans Z0 P66.1) A66 ge_b66 F66_modCount_b66 F66_elementData_b66 F66_size_b66 S_u V0 O66) (lenOf pd0 rfl) at_127 rfl (Nat.le_of_ble_eq_true rfl) (Nat.le_of_ble_eq_true rfl) (Nat.le_of_ble_eq_true rfl) (Nat.le_of_ble_eq_true rfl) rfl (pc' := 130) rfl ?_
    rintro v67 h67 ⟨rfl, K67, Q67_F_modCount, Q67_F_elementData, Q67_F_size⟩
    have F67_value_x59 := (Fld.keep F66_value_x59 K67 (ninS ne_x59_b66 (nin0)))
    have F67_value_x61 := (Fld.keep F66_value_x61 K67 (ninS ne_x61_b66 (nin0)))
    have F67_value_x63 := (Fld.keep F66_value_x63 K67 (ninS ne_x63_b66 (nin0)))
    have F67_modCount_b57 := (Fld.keep F66_modCount_b57 K67 (ninS ne_b57_b66 (nin0)))
    have F67_elementData_b57 := (Fld.keep F66_elementData_b57 K67 (ninS ne_b57_b66 (nin0)))
    have F67_size_b57 := (Fld.keep F66_size_b57 K67 (ninS ne_b57_b66 (nin0)))
    have F67_prices_b65 := (Fld.keep F66_prices_b65 K67 (ninS ne_b65_b66 (nin0)))
    have F67_acceptanceRates_b65 := (Fld.keep F66_acceptanceRates_b65 K67 (ninS ne_b65_b66 (nin0)))
    have F67_stateProbabilities_b65 := (Fld.keep F66_stateProbabilities_b65 K67 (ninS ne_b65_b66 (nin0)))
    have F67_revenue_b65 := (Fld.keep F66_revenue_b65 K67 (ninS ne_b65_b66 (nin0)))
    have X67_b57 := (Exa.keep X66_b57 K67)
    have X67_x59 := (Exa.keep X66_x59 K67)
    have X67_x61 := (Exa.keep X66_x61 K67)
    have X67_x63 := (Exa.keep X66_x63 K67)
    have X67_b65 := (Exa.keep X66_b65 K67)
    have X67_b66 := (Exa.keep A66 K67)
    have V67_ea := (V66_ea.keep K67 (ninS ne_ea_b66 (nin0)))
    have O67 := (O66.keep K67 (allS ge_b66 (all0)))
    have P67 := (P66.trans K67 (allS (Or.inr lt_b66) (all0)))
    show Go _ _ _ _ _ _ _ _ _ _ _ h67 7 23 (mkF m 130 #[.val (.int p0), .val (.int p1), .val (.int p2), .val (.int p3), .val (.int p4), .val (.int p5), .val (.int ((2 : Int32) + (1 : Int32))), .val (.ref b57), .val (.int p3), .unset] [(.ref b66), (.ref b65), (.ref b65)]) _
    refine newObj K (wd0 hw) (wd1 hw) (wd2 hw) at_130 (by decide) (by decide) (pc' := 133) rfl ?_
    intro h68 b68 g68 E68 A68 D68
    have ne_x59_b68 : x59 ≠ b68 := Nat.ne_of_lt (Nat.lt_of_lt_of_eq (Exa.lt X67_x59) g68.symm)
    have ne_x61_b68 : x61 ≠ b68 := Nat.ne_of_lt (Nat.lt_of_lt_of_eq (Exa.lt X67_x61) g68.symm)
    have ne_x63_b68 : x63 ≠ b68 := Nat.ne_of_lt (Nat.lt_of_lt_of_eq (Exa.lt X67_x63) g68.symm)
    have ne_b57_b68 : b57 ≠ b68 := Nat.ne_of_lt (Nat.lt_of_lt_of_eq (Exa.lt X67_b57) g68.symm)
    have ne_b65_b68 : b65 ≠ b68 := Nat.ne_of_lt (Nat.lt_of_lt_of_eq (Exa.lt X67_b65) g68.symm)
    have ne_b66_b68 : b66 ≠ b68 := Nat.ne_of_lt (Nat.lt_of_lt_of_eq (Exa.lt X67_b66) g68.symm)
    have ne_ea_b68 : ea ≠ b68 := Nat.ne_of_lt (Nat.lt_of_lt_of_eq (V67_ea.lt) g68.symm)
    have lt_b68 : h0.size ≤ b68 := Nat.le_trans P67.1 (Nat.le_of_eq g68.symm)
    have ge_b68 : n0 ≤ b68 := Nat.le_trans Z0 lt_b68
    have F68_value_x59 := (Fld.ext E68 F67_value_x59)
    have F68_value_x61 := (Fld.ext E68 F67_value_x61)
    have F68_value_x63 := (Fld.ext E68 F67_value_x63)
    have F68_modCount_b57 := (Fld.ext E68 F67_modCount_b57)
    have F68_elementData_b57 := (Fld.ext E68 F67_elementData_b57)
    have F68_size_b57 := (Fld.ext E68 F67_size_b57)
    have F68_prices_b65 := (Fld.ext E68 F67_prices_b65)
    have F68_acceptanceRates_b65 := (Fld.ext E68 F67_acceptanceRates_b65)
    have F68_stateProbabilities_b65 := (Fld.ext E68 F67_stateProbabilities_b65)
    have F68_revenue_b65 := (Fld.ext E68 F67_revenue_b65)
    have F68_modCount_b66 := (Fld.ext E68 Q67_F_modCount)
    have F68_elementData_b66 := (Fld.ext E68 Q67_F_elementData)
    have F68_size_b66 := (Fld.ext E68 Q67_F_size)
    have X68_b57 := (Exa.ext E68 X67_b57)
    have X68_x59 := (Exa.ext E68 X67_x59)
    have X68_x61 := (Exa.ext E68 X67_x61)
    have X68_x63 := (Exa.ext E68 X67_x63)
    have X68_b65 := (Exa.ext E68 X67_b65)
    have X68_b66 := (Exa.ext E68 X67_b66)
    have V68_ea := (V67_ea.ext E68)
    have O68 := (O67.ext E68)
    have P68 := (P67.ext E68)
    have F68_modCount_b68 : Fld Z h68 b68 "java/util/AbstractList" "modCount" "I" (.int (0 : Int32)) := D68 (Or.inl (wd22 hw)) (ty := .int) (by decide)
    have F68_elementData_b68 : Fld Z h68 b68 "java/util/ArrayList" "elementData" "[Ljava/lang/Object;" .null := D68 (Or.inl (wd25 hw)) (ty := (.array (.object "java/lang/Object"))) (by decide)
    have F68_size_b68 : Fld Z h68 b68 "java/util/ArrayList" "size" "I" (.int (0 : Int32)) := D68 (Or.inl (wd53 hw)) (ty := .int) (by decide)
    refine Jvm.OwnWp.dup K at_133 rfl (pc' := 134) rfl ?_
    refine callInit K (y := (⟨"java/util/ArrayList", "<init>", "()V"⟩ : MethodName)) (b := b68) (argsL := []) (S := [(.ref b68), (.ref b66), (.ref b65), (.ref b65)]) rfl (wd3 hw) (wd4 hw) (wd2 hw) (wd5 hw) rfl (by decide) (c_ali l Z a0 hw [] b68 u h68 n0 (Nat.le_trans Z0 P68.1) A68 ge_b68 F68_modCount_b68 F68_elementData_b68 F68_size_b68 S_u V0 O68) (lenOf pd0 rfl) at_134 rfl (Nat.le_of_ble_eq_true rfl) (Nat.le_of_ble_eq_true rfl) (Nat.le_of_ble_eq_true rfl) (Nat.le_of_ble_eq_true rfl) rfl (pc' := 137) rfl ?_
    rintro v69 h69 ⟨rfl, K69, Q69_F_modCount, Q69_F_elementData, Q69_F_size⟩
    have F69_value_x59 := (Fld.keep F68_value_x59 K69 (ninS ne_x59_b68 (nin0)))
    have F69_value_x61 := (Fld.keep F68_value_x61 K69 (ninS ne_x61_b68 (nin0)))
    have F69_value_x63 := (Fld.keep F68_value_x63 K69 (ninS ne_x63_b68 (nin0)))
    have F69_modCount_b57 := (Fld.keep F68_modCount_b57 K69 (ninS ne_b57_b68 (nin0)))
    have F69_elementData_b57 := (Fld.keep F68_elementData_b57 K69 (ninS ne_b57_b68 (nin0)))
    have F69_size_b57 := (Fld.keep F68_size_b57 K69 (ninS ne_b57_b68 (nin0)))
    have F69_prices_b65 := (Fld.keep F68_prices_b65 K69 (ninS ne_b65_b68 (nin0)))
    have F69_acceptanceRates_b65 := (Fld.keep F68_acceptanceRates_b65 K69 (ninS ne_b65_b68 (nin0)))
    have F69_stateProbabilities_b65 := (Fld.keep F68_stateProbabilities_b65 K69 (ninS ne_b65_b68 (nin0)))
    have F69_revenue_b65 := (Fld.keep F68_revenue_b65 K69 (ninS ne_b65_b68 (nin0)))
    have F69_modCount_b66 := (Fld.keep F68_modCount_b66 K69 (ninS ne_b66_b68 (nin0)))
    have F69_elementData_b66 := (Fld.keep F68_elementData_b66 K69 (ninS ne_b66_b68 (nin0)))
    have F69_size_b66 := (Fld.keep F68_size_b66 K69 (ninS ne_b66_b68 (nin0)))
    have X69_b57 := (Exa.keep X68_b57 K69)
    have X69_x59 := (Exa.keep X68_x59 K69)
    have X69_x61 := (Exa.keep X68_x61 K69)
    have X69_x63 := (Exa.keep X68_x63 K69)
    have X69_b65 := (Exa.keep X68_b65 K69)
    have X69_b66 := (Exa.keep X68_b66 K69)
    have X69_b68 := (Exa.keep A68 K69)
    have V69_ea := (V68_ea.keep K69 (ninS ne_ea_b68 (nin0)))
    have O69 := (O68.keep K69 (allS ge_b68 (all0)))
    have P69 := (P68.trans K69 (allS (Or.inr lt_b68) (all0)))
    show Go _ _ _ _ _ _ _ _ _ _ _ h69 8 26 (mkF m 137 #[.val (.int p0), .val (.int p1), .val (.int p2), .val (.int p3), .val (.int p4), .val (.int p5), .val (.int ((2 : Int32) + (1 : Int32))), .val (.ref b57), .val (.int p3), .unset] [(.ref b68), (.ref b66), (.ref b65), (.ref b65)]) _
    refine Jvm.OwnWp.aload K at_137 rfl rfl (pc' := 139) rfl ?_
    refine Jvm.OwnWp.iload K at_139 rfl (pc' := 141) rfl ?_
    refine Jvm.OwnWp.i2d K at_141 (pc' := 142) rfl ?_
    refine callInit K (y := (⟨"com/example/tarifa/tarifa/pricing/SessionMenu", "<init>", "(Ljava/util/List;Ljava/util/List;Ljava/util/List;D)V"⟩ : MethodName)) (b := b65) (argsL := [(.ref b66), (.ref b68), (.ref b57), (.double (FP.i2d p5))]) (S := [(.ref b65)]) rfl (wd79 hw) (wd80 hw) (wd78 hw) (wd81 hw) rfl (by decide) (c_smi l Z a0 hw [] b65 b66 b68 b57 (FP.i2d p5) h69 n0 (Nat.le_trans Z0 P69.1) X69_b65 ge_b65 F69_prices_b65 F69_acceptanceRates_b65 F69_stateProbabilities_b65 F69_revenue_b65) (lenOf pd12 rfl) at_142 rfl (Nat.le_of_ble_eq_true rfl) (Nat.le_of_ble_eq_true rfl) (Nat.le_of_ble_eq_true rfl) (Nat.le_of_ble_eq_true rfl) rfl (pc' := 145) rfl ?_
    rintro v70 h70 ⟨rfl, K70, Q70⟩
    have F70_value_x59 := (Fld.keep F69_value_x59 K70 (ninS ne_x59_b65 (nin0)))
    have F70_value_x61 := (Fld.keep F69_value_x61 K70 (ninS ne_x61_b65 (nin0)))
    have F70_value_x63 := (Fld.keep F69_value_x63 K70 (ninS ne_x63_b65 (nin0)))
    have F70_modCount_b57 := (Fld.keep F69_modCount_b57 K70 (ninS ne_b57_b65 (nin0)))
    have F70_elementData_b57 := (Fld.keep F69_elementData_b57 K70 (ninS ne_b57_b65 (nin0)))
    have F70_size_b57 := (Fld.keep F69_size_b57 K70 (ninS ne_b57_b65 (nin0)))
    have F70_modCount_b66 := (Fld.keep F69_modCount_b66 K70 (ninS (Ne.symm ne_b65_b66) (nin0)))
    have F70_elementData_b66 := (Fld.keep F69_elementData_b66 K70 (ninS (Ne.symm ne_b65_b66) (nin0)))
    have F70_size_b66 := (Fld.keep F69_size_b66 K70 (ninS (Ne.symm ne_b65_b66) (nin0)))
    have F70_modCount_b68 := (Fld.keep Q69_F_modCount K70 (ninS (Ne.symm ne_b65_b68) (nin0)))
    have F70_elementData_b68 := (Fld.keep Q69_F_elementData K70 (ninS (Ne.symm ne_b65_b68) (nin0)))
    have F70_size_b68 := (Fld.keep Q69_F_size K70 (ninS (Ne.symm ne_b65_b68) (nin0)))
    have X70_b57 := (Exa.keep X69_b57 K70)
    have X70_x59 := (Exa.keep X69_x59 K70)
    have X70_x61 := (Exa.keep X69_x61 K70)
    have X70_x63 := (Exa.keep X69_x63 K70)
    have X70_b65 := (Exa.keep X69_b65 K70)
    have X70_b66 := (Exa.keep X69_b66 K70)
    have X70_b68 := (Exa.keep X69_b68 K70)
    have V70_ea := (V69_ea.keep K70 (ninS ne_ea_b65 (nin0)))
    have O70 := (O69.keep K70 (allS ge_b65 (all0)))
    have P70 := (P69.trans K70 (allS (Or.inr lt_b65) (all0)))
    show Go _ _ _ _ _ _ _ _ _ _ _ h70 8 26 (mkF m 145 #[.val (.int p0), .val (.int p1), .val (.int p2), .val (.int p3), .val (.int p4), .val (.int p5), .val (.int ((2 : Int32) + (1 : Int32))), .val (.ref b57), .val (.int p3), .unset] [(.ref b65)]) _
    refine Jvm.OwnWp.astore K at_145 rfl (Ls' := #[.val (.int p0), .val (.int p1), .val (.int p2), .val (.int p3), .val (.int p4), .val (.int p5), .val (.int ((2 : Int32) + (1 : Int32))), .val (.ref b57), .val (.int p3), .val (.ref b65)]) rfl (pc' := 147) rfl ?_
    refine Jvm.OwnWp.aload K at_147 rfl rfl (pc' := 149) rfl ?_
    refine callVirt K (y := (⟨"com/example/tarifa/tarifa/pricing/SessionMenu", "blockingProbability", "()D"⟩ : MethodName)) (b := b65) (argsL := []) (S := []) (wd96 hw) (wd97 hw) (wd99 hw) (wd98 hw) (wd78 hw) (wd100 hw) (by decide) X70_b65 (c_bp l Z a0 hw [] b65 b57 ea x63 (FP.i2d p3) 2 (Int32.ofNat 3) ((((List.replicate 10 .null).set 0 (.ref x59)).set 1 (.ref x61)).set 2 (.ref x63)) h70 n0 (Nat.le_trans Z0 P70.1) X70_b57 (by decide) (by decide) (by decide) (by simp) X70_x63 F70_value_x63 Q70 F70_elementData_b57 F70_size_b57 V70_ea) (lenOf pd9 rfl) at_149 rfl (Nat.le_of_ble_eq_true rfl) (Nat.le_of_ble_eq_true rfl) (Nat.le_of_ble_eq_true rfl) (Nat.le_of_ble_eq_true rfl) rfl (pc' := 152) rfl ?_
    rintro v71 h71 ⟨rfl, rfl⟩
    show Go _ _ _ _ _ _ _ _ _ _ _ h70 8 26 (mkF m 152 #[.val (.int p0), .val (.int p1), .val (.int p2), .val (.int p3), .val (.int p4), .val (.int p5), .val (.int ((2 : Int32) + (1 : Int32))), .val (.ref b57), .val (.int p3), .val (.ref b65)] [(.double (FP.i2d p3))]) _
    refine Jvm.OwnWp.iload K at_152 rfl (pc' := 154) rfl ?_
    refine Jvm.OwnWp.i2d K at_154 (pc' := 155) rfl ?_
    refine Jvm.OwnWp.dcmp K at_155 (pc' := 156) rfl ?_
    refine ifN K at_156 (dd_l_ne_f (show FP.dcmp _ _ = some .eq from Jvm.FP.Core.dcmp_eq.mpr ⟨Jvm.FP.Core.DInt_ne_nan (Jvm.FP.Core.i2d_int _), Jvm.FP.Core.DInt_ne_nan (Jvm.FP.Core.i2d_int _), rfl⟩)) (pc' := 159) rfl ?_
    refine Jvm.OwnWp.iconst K (1 : Int32) at_159 (by decide) (pc' := 160) rfl ?_
    refine goto' K at_160 (pc' := 164) (by decide) (by decide) ?_
    refine retB K (t := .boolean) rfl (by simp) at_164 (Nat.le_of_ble_eq_true rfl) (Nat.le_of_ble_eq_true rfl) ?_
    rfl
  · rw [hb]
    refine Jvm.OwnWp.iconst K (1 : Int32) at_3 (by decide) (pc' := 4) rfl ?_
    refine Jvm.OwnWp.iadd K at_4 (pc' := 5) rfl ?_
    refine Jvm.OwnWp.istore K at_5 (Ls' := #[.val (.int p0), .val (.int p1), .val (.int p2), .val (.int p3), .val (.int p4), .val (.int p5), .val (.int ((3 : Int32) + (1 : Int32))), .unset, .unset, .unset]) rfl (pc' := 7) rfl ?_
    refine newObj K (wd0 hw) (wd1 hw) (wd2 hw) at_7 (by decide) (by decide) (pc' := 10) rfl ?_
    intro h72 b72 g72 E72 A72 D72
    have lt_b72 : h0.size ≤ b72 := Nat.le_trans P0.1 (Nat.le_of_eq g72.symm)
    have ge_b72 : n0 ≤ b72 := Nat.le_trans Z0 lt_b72
    have O72 := (O0.ext E72)
    have P72 := (P0.ext E72)
    have F72_modCount_b72 : Fld Z h72 b72 "java/util/AbstractList" "modCount" "I" (.int (0 : Int32)) := D72 (Or.inl (wd22 hw)) (ty := .int) (by decide)
    have F72_elementData_b72 : Fld Z h72 b72 "java/util/ArrayList" "elementData" "[Ljava/lang/Object;" .null := D72 (Or.inl (wd25 hw)) (ty := (.array (.object "java/lang/Object"))) (by decide)
    have F72_size_b72 : Fld Z h72 b72 "java/util/ArrayList" "size" "I" (.int (0 : Int32)) := D72 (Or.inl (wd53 hw)) (ty := .int) (by decide)
    refine Jvm.OwnWp.dup K at_10 rfl (pc' := 11) rfl ?_
    refine callInit K (y := (⟨"java/util/ArrayList", "<init>", "()V"⟩ : MethodName)) (b := b72) (argsL := []) (S := [(.ref b72)]) rfl (wd3 hw) (wd4 hw) (wd2 hw) (wd5 hw) rfl (by decide) (c_ali l Z a0 hw [] b72 u h72 n0 (Nat.le_trans Z0 P72.1) A72 ge_b72 F72_modCount_b72 F72_elementData_b72 F72_size_b72 S_u V0 O72) (lenOf pd0 rfl) at_11 rfl (Nat.le_of_ble_eq_true rfl) (Nat.le_of_ble_eq_true rfl) (Nat.le_of_ble_eq_true rfl) (Nat.le_of_ble_eq_true rfl) rfl (pc' := 14) rfl ?_
    rintro v73 h73 ⟨rfl, K73, Q73_F_modCount, Q73_F_elementData, Q73_F_size⟩
    have X73_b72 := (Exa.keep A72 K73)
    have O73 := (O72.keep K73 (allS ge_b72 (all0)))
    have P73 := (P72.trans K73 (allS (Or.inr lt_b72) (all0)))
    show Go _ _ _ _ _ _ _ _ _ _ _ h73 1 3 (mkF m 14 #[.val (.int p0), .val (.int p1), .val (.int p2), .val (.int p3), .val (.int p4), .val (.int p5), .val (.int ((3 : Int32) + (1 : Int32))), .unset, .unset, .unset] [(.ref b72)]) _
    refine Jvm.OwnWp.astore K at_14 rfl (Ls' := #[.val (.int p0), .val (.int p1), .val (.int p2), .val (.int p3), .val (.int p4), .val (.int p5), .val (.int ((3 : Int32) + (1 : Int32))), .val (.ref b72), .unset, .unset]) rfl (pc' := 16) rfl ?_
    refine Jvm.OwnWp.aload K at_16 rfl rfl (pc' := 18) rfl ?_
    refine Jvm.OwnWp.iloadN K at_18 rfl (pc' := 19) rfl ?_
    refine Jvm.OwnWp.i2d K at_19 (pc' := 20) rfl ?_
    refine callStatic K (y := (⟨"java/lang/Double", "valueOf", "(D)Ljava/lang/Double;"⟩ : MethodName)) (argsL := [(.double (FP.i2d p1))]) (S := [(.ref b72)]) (wd26 hw) (wd27 hw) (wd28 hw) (wd29 hw) (by decide) (c_dv l Z a0 hw [] (FP.i2d p1) h73 n0 (Nat.le_trans Z0 P73.1)) (lenOf pd10 rfl) at_20 rfl (Nat.le_of_ble_eq_true rfl) (Nat.le_of_ble_eq_true rfl) (Nat.le_of_ble_eq_true rfl) (Nat.le_of_ble_eq_true rfl) rfl (pc' := 23) rfl ?_
    rintro v74 h74 ⟨K74, x74, rfl, lt74, X74, D74⟩
    have ne_b72_x74 : b72 ≠ x74 := Nat.ne_of_lt (Nat.lt_of_lt_of_le (Exa.lt X73_b72) lt74)
    have lt_x74 : h0.size ≤ x74 := Nat.le_trans P73.1 lt74
    have ge_x74 : n0 ≤ x74 := Nat.le_trans Z0 lt_x74
    have F74_modCount_b72 := (Fld.keep Q73_F_modCount K74 (nin0))
    have F74_elementData_b72 := (Fld.keep Q73_F_elementData K74 (nin0))
    have F74_size_b72 := (Fld.keep Q73_F_size K74 (nin0))
    have X74_b72 := (Exa.keep X73_b72 K74)
    have O74 := (O73.keep K74 (all0))
    have P74 := (P73.trans K74 (all0))
    show Go _ _ _ _ _ _ _ _ _ _ _ h74 2 4 (mkF m 23 #[.val (.int p0), .val (.int p1), .val (.int p2), .val (.int p3), .val (.int p4), .val (.int p5), .val (.int ((3 : Int32) + (1 : Int32))), .val (.ref b72), .unset, .unset] [(.ref x74), (.ref b72)]) _
    refine callVirt K (y := (⟨"java/util/ArrayList", "add", "(Ljava/lang/Object;)Z"⟩ : MethodName)) (b := b72) (argsL := [(.ref x74)]) (S := []) (wd45 hw) (wd46 hw) (wd48 hw) (wd47 hw) (wd2 hw) (wd49 hw) (by decide) X74_b72 (c_adda l Z a0 hw [] b72 x74 u (0 : Int32) h74 n0 (Nat.le_trans Z0 P74.1) X74_b72 ge_b72 X74 (Ne.symm ne_b72_x74) F74_modCount_b72 F74_elementData_b72 F74_size_b72 S_u V0 O74) (lenOf pd11 rfl) at_23 rfl (Nat.le_of_ble_eq_true rfl) (Nat.le_of_ble_eq_true rfl) (Nat.le_of_ble_eq_true rfl) (Nat.le_of_ble_eq_true rfl) rfl (pc' := 26) rfl ?_
    rintro v75 h75 ⟨rfl, K75, ea, lt75, V75, Q75_F_modCount, Q75_F_elementData, Q75_F_size⟩
    have ne_b72_ea : b72 ≠ ea := Nat.ne_of_lt (Nat.lt_of_lt_of_le (Exa.lt X74_b72) lt75)
    have ne_x74_ea : x74 ≠ ea := Nat.ne_of_lt (Nat.lt_of_lt_of_le (Exa.lt X74) lt75)
    have lt_ea : h0.size ≤ ea := Nat.le_trans P74.1 lt75
    have ge_ea : n0 ≤ ea := Nat.le_trans Z0 lt_ea
    have F75_value_x74 := (Fld.keep D74 K75 (ninS (Ne.symm ne_b72_x74) (nin0)))
    have X75_b72 := (Exa.keep X74_b72 K75)
    have X75_x74 := (Exa.keep X74 K75)
    have O75 := (O74.keep K75 (allS ge_b72 (all0)))
    have P75 := (P74.trans K75 (allS (Or.inr lt_b72) (all0)))
    show Go _ _ _ _ _ _ _ _ _ _ _ h75 3 14 (mkF m 26 #[.val (.int p0), .val (.int p1), .val (.int p2), .val (.int p3), .val (.int p4), .val (.int p5), .val (.int ((3 : Int32) + (1 : Int32))), .val (.ref b72), .unset, .unset] [(.int (1 : Int32))]) _
    have Q75_F_size : Fld Z h75 b72 "java/util/ArrayList" "size" "I" (.int (Int32.ofNat 1)) := Q75_F_size
    refine Jvm.OwnWp.pop K at_26 rfl (pc' := 27) rfl ?_
    refine Jvm.OwnWp.iload K at_27 rfl (pc' := 29) rfl ?_
    refine Jvm.OwnWp.iconst K (2 : Int32) at_29 (by decide) (pc' := 30) rfl ?_
    refine icN K at_30 (by decide) (pc' := 33) rfl ?_
    refine Jvm.OwnWp.aload K at_33 rfl rfl (pc' := 35) rfl ?_
    refine Jvm.OwnWp.iloadN K at_35 rfl (pc' := 36) rfl ?_
    refine Jvm.OwnWp.i2d K at_36 (pc' := 37) rfl ?_
    refine callStatic K (y := (⟨"java/lang/Double", "valueOf", "(D)Ljava/lang/Double;"⟩ : MethodName)) (argsL := [(.double (FP.i2d p2))]) (S := [(.ref b72)]) (wd26 hw) (wd27 hw) (wd28 hw) (wd29 hw) (by decide) (c_dv l Z a0 hw [] (FP.i2d p2) h75 n0 (Nat.le_trans Z0 P75.1)) (lenOf pd10 rfl) at_37 rfl (Nat.le_of_ble_eq_true rfl) (Nat.le_of_ble_eq_true rfl) (Nat.le_of_ble_eq_true rfl) (Nat.le_of_ble_eq_true rfl) rfl (pc' := 40) rfl ?_
    rintro v76 h76 ⟨K76, x76, rfl, lt76, X76, D76⟩
    have ne_x74_x76 : x74 ≠ x76 := Nat.ne_of_lt (Nat.lt_of_lt_of_le (Exa.lt X75_x74) lt76)
    have ne_b72_x76 : b72 ≠ x76 := Nat.ne_of_lt (Nat.lt_of_lt_of_le (Exa.lt X75_b72) lt76)
    have ne_ea_x76 : ea ≠ x76 := Nat.ne_of_lt (Nat.lt_of_lt_of_le (V75.lt) lt76)
    have lt_x76 : h0.size ≤ x76 := Nat.le_trans P75.1 lt76
    have ge_x76 : n0 ≤ x76 := Nat.le_trans Z0 lt_x76
    have F76_value_x74 := (Fld.keep F75_value_x74 K76 (nin0))
    have F76_modCount_b72 := (Fld.keep Q75_F_modCount K76 (nin0))
    have F76_elementData_b72 := (Fld.keep Q75_F_elementData K76 (nin0))
    have F76_size_b72 := (Fld.keep Q75_F_size K76 (nin0))
    have X76_b72 := (Exa.keep X75_b72 K76)
    have X76_x74 := (Exa.keep X75_x74 K76)
    have V76_ea := (V75.keep K76 (nin0))
    have O76 := (O75.keep K76 (all0))
    have P76 := (P75.trans K76 (all0))
    show Go _ _ _ _ _ _ _ _ _ _ _ h76 4 15 (mkF m 40 #[.val (.int p0), .val (.int p1), .val (.int p2), .val (.int p3), .val (.int p4), .val (.int p5), .val (.int ((3 : Int32) + (1 : Int32))), .val (.ref b72), .unset, .unset] [(.ref x76), (.ref b72)]) _
    refine callVirt K (y := (⟨"java/util/ArrayList", "add", "(Ljava/lang/Object;)Z"⟩ : MethodName)) (b := b72) (argsL := [(.ref x76)]) (S := []) (wd45 hw) (wd46 hw) (wd48 hw) (wd47 hw) (wd2 hw) (wd49 hw) (by decide) X76_b72 (c_addb l Z a0 hw [] b72 x76 ea ((0 : Int32) + 1) 1 ((List.replicate 10 .null).set 0 (.ref x74)) h76 n0 (Nat.le_trans Z0 P76.1) (by simp) (by decide) X76_b72 ge_b72 X76 (Ne.symm ne_b72_x76) ge_ea (Ne.symm ne_b72_ea) (Ne.symm ne_ea_x76) F76_modCount_b72 F76_elementData_b72 F76_size_b72 V76_ea) (lenOf pd11 rfl) at_40 rfl (Nat.le_of_ble_eq_true rfl) (Nat.le_of_ble_eq_true rfl) (Nat.le_of_ble_eq_true rfl) (Nat.le_of_ble_eq_true rfl) rfl (pc' := 43) rfl ?_
    rintro v77 h77 ⟨rfl, K77, V77, Q77_F_modCount, Q77_F_elementData, Q77_F_size⟩
    have F77_value_x74 := (Fld.keep F76_value_x74 K77 (ninS (Ne.symm ne_b72_x74) (ninS ne_x74_ea (nin0))))
    have F77_value_x76 := (Fld.keep D76 K77 (ninS (Ne.symm ne_b72_x76) (ninS (Ne.symm ne_ea_x76) (nin0))))
    have X77_b72 := (Exa.keep X76_b72 K77)
    have X77_x74 := (Exa.keep X76_x74 K77)
    have X77_x76 := (Exa.keep X76 K77)
    have O77 := (O76.keep K77 (allS ge_b72 (allS ge_ea (all0))))
    have P77 := (P76.trans K77 (allS (Or.inr lt_b72) (allS (Or.inr lt_ea) (all0))))
    show Go _ _ _ _ _ _ _ _ _ _ _ h77 4 15 (mkF m 43 #[.val (.int p0), .val (.int p1), .val (.int p2), .val (.int p3), .val (.int p4), .val (.int p5), .val (.int ((3 : Int32) + (1 : Int32))), .val (.ref b72), .unset, .unset] [(.int (1 : Int32))]) _
    have Q77_F_size : Fld Z h77 b72 "java/util/ArrayList" "size" "I" (.int (Int32.ofNat 2)) := Q77_F_size
    refine Jvm.OwnWp.pop K at_43 rfl (pc' := 44) rfl ?_
    refine Jvm.OwnWp.iload K at_44 rfl (pc' := 46) rfl ?_
    refine Jvm.OwnWp.iconst K (3 : Int32) at_46 (by decide) (pc' := 47) rfl ?_
    refine icN K at_47 (by decide) (pc' := 50) rfl ?_
    refine Jvm.OwnWp.aload K at_50 rfl rfl (pc' := 52) rfl ?_
    refine Jvm.OwnWp.iloadN K at_52 rfl (pc' := 53) rfl ?_
    refine Jvm.OwnWp.i2d K at_53 (pc' := 54) rfl ?_
    refine callStatic K (y := (⟨"java/lang/Double", "valueOf", "(D)Ljava/lang/Double;"⟩ : MethodName)) (argsL := [(.double (FP.i2d p3))]) (S := [(.ref b72)]) (wd26 hw) (wd27 hw) (wd28 hw) (wd29 hw) (by decide) (c_dv l Z a0 hw [] (FP.i2d p3) h77 n0 (Nat.le_trans Z0 P77.1)) (lenOf pd10 rfl) at_54 rfl (Nat.le_of_ble_eq_true rfl) (Nat.le_of_ble_eq_true rfl) (Nat.le_of_ble_eq_true rfl) (Nat.le_of_ble_eq_true rfl) rfl (pc' := 57) rfl ?_
    rintro v78 h78 ⟨K78, x78, rfl, lt78, X78, D78⟩
    have ne_x74_x78 : x74 ≠ x78 := Nat.ne_of_lt (Nat.lt_of_lt_of_le (Exa.lt X77_x74) lt78)
    have ne_x76_x78 : x76 ≠ x78 := Nat.ne_of_lt (Nat.lt_of_lt_of_le (Exa.lt X77_x76) lt78)
    have ne_b72_x78 : b72 ≠ x78 := Nat.ne_of_lt (Nat.lt_of_lt_of_le (Exa.lt X77_b72) lt78)
    have ne_ea_x78 : ea ≠ x78 := Nat.ne_of_lt (Nat.lt_of_lt_of_le (V77.lt) lt78)
    have lt_x78 : h0.size ≤ x78 := Nat.le_trans P77.1 lt78
    have ge_x78 : n0 ≤ x78 := Nat.le_trans Z0 lt_x78
    have F78_value_x74 := (Fld.keep F77_value_x74 K78 (nin0))
    have F78_value_x76 := (Fld.keep F77_value_x76 K78 (nin0))
    have F78_modCount_b72 := (Fld.keep Q77_F_modCount K78 (nin0))
    have F78_elementData_b72 := (Fld.keep Q77_F_elementData K78 (nin0))
    have F78_size_b72 := (Fld.keep Q77_F_size K78 (nin0))
    have X78_b72 := (Exa.keep X77_b72 K78)
    have X78_x74 := (Exa.keep X77_x74 K78)
    have X78_x76 := (Exa.keep X77_x76 K78)
    have V78_ea := (V77.keep K78 (nin0))
    have O78 := (O77.keep K78 (all0))
    have P78 := (P77.trans K78 (all0))
    show Go _ _ _ _ _ _ _ _ _ _ _ h78 5 16 (mkF m 57 #[.val (.int p0), .val (.int p1), .val (.int p2), .val (.int p3), .val (.int p4), .val (.int p5), .val (.int ((3 : Int32) + (1 : Int32))), .val (.ref b72), .unset, .unset] [(.ref x78), (.ref b72)]) _
    refine callVirt K (y := (⟨"java/util/ArrayList", "add", "(Ljava/lang/Object;)Z"⟩ : MethodName)) (b := b72) (argsL := [(.ref x78)]) (S := []) (wd45 hw) (wd46 hw) (wd48 hw) (wd47 hw) (wd2 hw) (wd49 hw) (by decide) X78_b72 (c_addb l Z a0 hw [] b72 x78 ea (((0 : Int32) + 1) + 1) 2 (((List.replicate 10 .null).set 0 (.ref x74)).set 1 (.ref x76)) h78 n0 (Nat.le_trans Z0 P78.1) (by simp) (by decide) X78_b72 ge_b72 X78 (Ne.symm ne_b72_x78) ge_ea (Ne.symm ne_b72_ea) (Ne.symm ne_ea_x78) F78_modCount_b72 F78_elementData_b72 F78_size_b72 V78_ea) (lenOf pd11 rfl) at_57 rfl (Nat.le_of_ble_eq_true rfl) (Nat.le_of_ble_eq_true rfl) (Nat.le_of_ble_eq_true rfl) (Nat.le_of_ble_eq_true rfl) rfl (pc' := 60) rfl ?_
    rintro v79 h79 ⟨rfl, K79, V79, Q79_F_modCount, Q79_F_elementData, Q79_F_size⟩
    have F79_value_x74 := (Fld.keep F78_value_x74 K79 (ninS (Ne.symm ne_b72_x74) (ninS ne_x74_ea (nin0))))
    have F79_value_x76 := (Fld.keep F78_value_x76 K79 (ninS (Ne.symm ne_b72_x76) (ninS (Ne.symm ne_ea_x76) (nin0))))
    have F79_value_x78 := (Fld.keep D78 K79 (ninS (Ne.symm ne_b72_x78) (ninS (Ne.symm ne_ea_x78) (nin0))))
    have X79_b72 := (Exa.keep X78_b72 K79)
    have X79_x74 := (Exa.keep X78_x74 K79)
    have X79_x76 := (Exa.keep X78_x76 K79)
    have X79_x78 := (Exa.keep X78 K79)
    have O79 := (O78.keep K79 (allS ge_b72 (allS ge_ea (all0))))
    have P79 := (P78.trans K79 (allS (Or.inr lt_b72) (allS (Or.inr lt_ea) (all0))))
    show Go _ _ _ _ _ _ _ _ _ _ _ h79 5 16 (mkF m 60 #[.val (.int p0), .val (.int p1), .val (.int p2), .val (.int p3), .val (.int p4), .val (.int p5), .val (.int ((3 : Int32) + (1 : Int32))), .val (.ref b72), .unset, .unset] [(.int (1 : Int32))]) _
    have Q79_F_size : Fld Z h79 b72 "java/util/ArrayList" "size" "I" (.int (Int32.ofNat 3)) := Q79_F_size
    refine Jvm.OwnWp.pop K at_60 rfl (pc' := 61) rfl ?_
    refine Jvm.OwnWp.iload K at_61 rfl (pc' := 63) rfl ?_
    refine Jvm.OwnWp.iconst K (4 : Int32) at_63 (by decide) (pc' := 64) rfl ?_
    refine icN K at_64 (by decide) (pc' := 67) rfl ?_
    refine Jvm.OwnWp.aload K at_67 rfl rfl (pc' := 69) rfl ?_
    refine Jvm.OwnWp.iload K at_69 rfl (pc' := 71) rfl ?_
    refine Jvm.OwnWp.i2d K at_71 (pc' := 72) rfl ?_
    refine callStatic K (y := (⟨"java/lang/Double", "valueOf", "(D)Ljava/lang/Double;"⟩ : MethodName)) (argsL := [(.double (FP.i2d p4))]) (S := [(.ref b72)]) (wd26 hw) (wd27 hw) (wd28 hw) (wd29 hw) (by decide) (c_dv l Z a0 hw [] (FP.i2d p4) h79 n0 (Nat.le_trans Z0 P79.1)) (lenOf pd10 rfl) at_72 rfl (Nat.le_of_ble_eq_true rfl) (Nat.le_of_ble_eq_true rfl) (Nat.le_of_ble_eq_true rfl) (Nat.le_of_ble_eq_true rfl) rfl (pc' := 75) rfl ?_
    rintro v80 h80 ⟨K80, x80, rfl, lt80, X80, D80⟩
    have ne_x74_x80 : x74 ≠ x80 := Nat.ne_of_lt (Nat.lt_of_lt_of_le (Exa.lt X79_x74) lt80)
    have ne_x76_x80 : x76 ≠ x80 := Nat.ne_of_lt (Nat.lt_of_lt_of_le (Exa.lt X79_x76) lt80)
    have ne_x78_x80 : x78 ≠ x80 := Nat.ne_of_lt (Nat.lt_of_lt_of_le (Exa.lt X79_x78) lt80)
    have ne_b72_x80 : b72 ≠ x80 := Nat.ne_of_lt (Nat.lt_of_lt_of_le (Exa.lt X79_b72) lt80)
    have ne_ea_x80 : ea ≠ x80 := Nat.ne_of_lt (Nat.lt_of_lt_of_le (V79.lt) lt80)
    have lt_x80 : h0.size ≤ x80 := Nat.le_trans P79.1 lt80
    have ge_x80 : n0 ≤ x80 := Nat.le_trans Z0 lt_x80
    have F80_value_x74 := (Fld.keep F79_value_x74 K80 (nin0))
    have F80_value_x76 := (Fld.keep F79_value_x76 K80 (nin0))
    have F80_value_x78 := (Fld.keep F79_value_x78 K80 (nin0))
    have F80_modCount_b72 := (Fld.keep Q79_F_modCount K80 (nin0))
    have F80_elementData_b72 := (Fld.keep Q79_F_elementData K80 (nin0))
    have F80_size_b72 := (Fld.keep Q79_F_size K80 (nin0))
    have X80_b72 := (Exa.keep X79_b72 K80)
    have X80_x74 := (Exa.keep X79_x74 K80)
    have X80_x76 := (Exa.keep X79_x76 K80)
    have X80_x78 := (Exa.keep X79_x78 K80)
    have V80_ea := (V79.keep K80 (nin0))
    have O80 := (O79.keep K80 (all0))
    have P80 := (P79.trans K80 (all0))
    show Go _ _ _ _ _ _ _ _ _ _ _ h80 6 17 (mkF m 75 #[.val (.int p0), .val (.int p1), .val (.int p2), .val (.int p3), .val (.int p4), .val (.int p5), .val (.int ((3 : Int32) + (1 : Int32))), .val (.ref b72), .unset, .unset] [(.ref x80), (.ref b72)]) _
    refine callVirt K (y := (⟨"java/util/ArrayList", "add", "(Ljava/lang/Object;)Z"⟩ : MethodName)) (b := b72) (argsL := [(.ref x80)]) (S := []) (wd45 hw) (wd46 hw) (wd48 hw) (wd47 hw) (wd2 hw) (wd49 hw) (by decide) X80_b72 (c_addb l Z a0 hw [] b72 x80 ea ((((0 : Int32) + 1) + 1) + 1) 3 ((((List.replicate 10 .null).set 0 (.ref x74)).set 1 (.ref x76)).set 2 (.ref x78)) h80 n0 (Nat.le_trans Z0 P80.1) (by simp) (by decide) X80_b72 ge_b72 X80 (Ne.symm ne_b72_x80) ge_ea (Ne.symm ne_b72_ea) (Ne.symm ne_ea_x80) F80_modCount_b72 F80_elementData_b72 F80_size_b72 V80_ea) (lenOf pd11 rfl) at_75 rfl (Nat.le_of_ble_eq_true rfl) (Nat.le_of_ble_eq_true rfl) (Nat.le_of_ble_eq_true rfl) (Nat.le_of_ble_eq_true rfl) rfl (pc' := 78) rfl ?_
    rintro v81 h81 ⟨rfl, K81, V81, Q81_F_modCount, Q81_F_elementData, Q81_F_size⟩
    have F81_value_x74 := (Fld.keep F80_value_x74 K81 (ninS (Ne.symm ne_b72_x74) (ninS ne_x74_ea (nin0))))
    have F81_value_x76 := (Fld.keep F80_value_x76 K81 (ninS (Ne.symm ne_b72_x76) (ninS (Ne.symm ne_ea_x76) (nin0))))
    have F81_value_x78 := (Fld.keep F80_value_x78 K81 (ninS (Ne.symm ne_b72_x78) (ninS (Ne.symm ne_ea_x78) (nin0))))
    have F81_value_x80 := (Fld.keep D80 K81 (ninS (Ne.symm ne_b72_x80) (ninS (Ne.symm ne_ea_x80) (nin0))))
    have X81_b72 := (Exa.keep X80_b72 K81)
    have X81_x74 := (Exa.keep X80_x74 K81)
    have X81_x76 := (Exa.keep X80_x76 K81)
    have X81_x78 := (Exa.keep X80_x78 K81)
    have X81_x80 := (Exa.keep X80 K81)
    have O81 := (O80.keep K81 (allS ge_b72 (allS ge_ea (all0))))
    have P81 := (P80.trans K81 (allS (Or.inr lt_b72) (allS (Or.inr lt_ea) (all0))))
    show Go _ _ _ _ _ _ _ _ _ _ _ h81 6 17 (mkF m 78 #[.val (.int p0), .val (.int p1), .val (.int p2), .val (.int p3), .val (.int p4), .val (.int p5), .val (.int ((3 : Int32) + (1 : Int32))), .val (.ref b72), .unset, .unset] [(.int (1 : Int32))]) _
    have Q81_F_size : Fld Z h81 b72 "java/util/ArrayList" "size" "I" (.int (Int32.ofNat 4)) := Q81_F_size
    refine Jvm.OwnWp.pop K at_78 rfl (pc' := 79) rfl ?_
    refine Jvm.OwnWp.iload K at_79 rfl (pc' := 81) rfl ?_
    refine Jvm.OwnWp.iconst K (1 : Int32) at_81 (by decide) (pc' := 82) rfl ?_
    refine icY K at_82 (by decide) (pc' := 91) (by decide) (by decide) ?_
    refine Jvm.OwnWp.iload K at_91 rfl (pc' := 93) rfl ?_
    refine Jvm.OwnWp.iconst K (2 : Int32) at_93 (by decide) (pc' := 94) rfl ?_
    refine icY K at_94 (by decide) (pc' := 103) (by decide) (by decide) ?_
    refine Jvm.OwnWp.iload K at_103 rfl (pc' := 105) rfl ?_
    refine Jvm.OwnWp.iconst K (3 : Int32) at_105 (by decide) (pc' := 106) rfl ?_
    refine icY K at_106 (by decide) (pc' := 115) (by decide) (by decide) ?_
    refine Jvm.OwnWp.iload K at_115 rfl (pc' := 117) rfl ?_
    refine Jvm.OwnWp.istore K at_117 (Ls' := #[.val (.int p0), .val (.int p1), .val (.int p2), .val (.int p3), .val (.int p4), .val (.int p5), .val (.int ((3 : Int32) + (1 : Int32))), .val (.ref b72), .val (.int p4), .unset]) rfl (pc' := 119) rfl ?_
    refine newObj K (wd76 hw) (wd77 hw) (wd78 hw) at_119 (by decide) (by decide) (pc' := 122) rfl ?_
    intro h82 b82 g82 E82 A82 D82
    have ne_x74_b82 : x74 ≠ b82 := Nat.ne_of_lt (Nat.lt_of_lt_of_eq (Exa.lt X81_x74) g82.symm)
    have ne_x76_b82 : x76 ≠ b82 := Nat.ne_of_lt (Nat.lt_of_lt_of_eq (Exa.lt X81_x76) g82.symm)
    have ne_x78_b82 : x78 ≠ b82 := Nat.ne_of_lt (Nat.lt_of_lt_of_eq (Exa.lt X81_x78) g82.symm)
    have ne_x80_b82 : x80 ≠ b82 := Nat.ne_of_lt (Nat.lt_of_lt_of_eq (Exa.lt X81_x80) g82.symm)
    have ne_b72_b82 : b72 ≠ b82 := Nat.ne_of_lt (Nat.lt_of_lt_of_eq (Exa.lt X81_b72) g82.symm)
    have ne_ea_b82 : ea ≠ b82 := Nat.ne_of_lt (Nat.lt_of_lt_of_eq (V81.lt) g82.symm)
    have lt_b82 : h0.size ≤ b82 := Nat.le_trans P81.1 (Nat.le_of_eq g82.symm)
    have ge_b82 : n0 ≤ b82 := Nat.le_trans Z0 lt_b82
    have F82_value_x74 := (Fld.ext E82 F81_value_x74)
    have F82_value_x76 := (Fld.ext E82 F81_value_x76)
    have F82_value_x78 := (Fld.ext E82 F81_value_x78)
    have F82_value_x80 := (Fld.ext E82 F81_value_x80)
    have F82_modCount_b72 := (Fld.ext E82 Q81_F_modCount)
    have F82_elementData_b72 := (Fld.ext E82 Q81_F_elementData)
    have F82_size_b72 := (Fld.ext E82 Q81_F_size)
    have X82_b72 := (Exa.ext E82 X81_b72)
    have X82_x74 := (Exa.ext E82 X81_x74)
    have X82_x76 := (Exa.ext E82 X81_x76)
    have X82_x78 := (Exa.ext E82 X81_x78)
    have X82_x80 := (Exa.ext E82 X81_x80)
    have V82_ea := (V81.ext E82)
    have O82 := (O81.ext E82)
    have P82 := (P81.ext E82)
    have F82_prices_b82 : Fld Z h82 b82 "com/example/tarifa/tarifa/pricing/SessionMenu" "prices" "Ljava/util/List;" .null := D82 (Or.inr (wd89 hw)) (ty := (.object "java/util/List")) (by decide)
    have F82_acceptanceRates_b82 : Fld Z h82 b82 "com/example/tarifa/tarifa/pricing/SessionMenu" "acceptanceRates" "Ljava/util/List;" .null := D82 (Or.inr (wd91 hw)) (ty := (.object "java/util/List")) (by decide)
    have F82_stateProbabilities_b82 : Fld Z h82 b82 "com/example/tarifa/tarifa/pricing/SessionMenu" "stateProbabilities" "Ljava/util/List;" .null := D82 (Or.inr (wd93 hw)) (ty := (.object "java/util/List")) (by decide)
    have F82_revenue_b82 : Fld Z h82 b82 "com/example/tarifa/tarifa/pricing/SessionMenu" "revenue" "D" (.double (0 : UInt64)) := D82 (Or.inr (wd95 hw)) (ty := .double) (by decide)
    refine Jvm.OwnWp.dup K at_122 rfl (pc' := 123) rfl ?_
    refine newObj K (wd0 hw) (wd1 hw) (wd2 hw) at_123 (by decide) (by decide) (pc' := 126) rfl ?_
    intro h83 b83 g83 E83 A83 D83
    have ne_x74_b83 : x74 ≠ b83 := Nat.ne_of_lt (Nat.lt_of_lt_of_eq (Exa.lt X82_x74) g83.symm)
    have ne_x76_b83 : x76 ≠ b83 := Nat.ne_of_lt (Nat.lt_of_lt_of_eq (Exa.lt X82_x76) g83.symm)
    have ne_x78_b83 : x78 ≠ b83 := Nat.ne_of_lt (Nat.lt_of_lt_of_eq (Exa.lt X82_x78) g83.symm)
    have ne_x80_b83 : x80 ≠ b83 := Nat.ne_of_lt (Nat.lt_of_lt_of_eq (Exa.lt X82_x80) g83.symm)
    have ne_b72_b83 : b72 ≠ b83 := Nat.ne_of_lt (Nat.lt_of_lt_of_eq (Exa.lt X82_b72) g83.symm)
    have ne_b82_b83 : b82 ≠ b83 := Nat.ne_of_lt (Nat.lt_of_lt_of_eq (Exa.lt A82) g83.symm)
    have ne_ea_b83 : ea ≠ b83 := Nat.ne_of_lt (Nat.lt_of_lt_of_eq (V82_ea.lt) g83.symm)
    have lt_b83 : h0.size ≤ b83 := Nat.le_trans P82.1 (Nat.le_of_eq g83.symm)
    have ge_b83 : n0 ≤ b83 := Nat.le_trans Z0 lt_b83
    have F83_value_x74 := (Fld.ext E83 F82_value_x74)
    have F83_value_x76 := (Fld.ext E83 F82_value_x76)
    have F83_value_x78 := (Fld.ext E83 F82_value_x78)
    have F83_value_x80 := (Fld.ext E83 F82_value_x80)
    have F83_modCount_b72 := (Fld.ext E83 F82_modCount_b72)
    have F83_elementData_b72 := (Fld.ext E83 F82_elementData_b72)
    have F83_size_b72 := (Fld.ext E83 F82_size_b72)
    have F83_prices_b82 := (Fld.ext E83 F82_prices_b82)
    have F83_acceptanceRates_b82 := (Fld.ext E83 F82_acceptanceRates_b82)
    have F83_stateProbabilities_b82 := (Fld.ext E83 F82_stateProbabilities_b82)
    have F83_revenue_b82 := (Fld.ext E83 F82_revenue_b82)
    have X83_b72 := (Exa.ext E83 X82_b72)
    have X83_x74 := (Exa.ext E83 X82_x74)
    have X83_x76 := (Exa.ext E83 X82_x76)
    have X83_x78 := (Exa.ext E83 X82_x78)
    have X83_x80 := (Exa.ext E83 X82_x80)
    have X83_b82 := (Exa.ext E83 A82)
    have V83_ea := (V82_ea.ext E83)
    have O83 := (O82.ext E83)
    have P83 := (P82.ext E83)
    have F83_modCount_b83 : Fld Z h83 b83 "java/util/AbstractList" "modCount" "I" (.int (0 : Int32)) := D83 (Or.inl (wd22 hw)) (ty := .int) (by decide)
    have F83_elementData_b83 : Fld Z h83 b83 "java/util/ArrayList" "elementData" "[Ljava/lang/Object;" .null := D83 (Or.inl (wd25 hw)) (ty := (.array (.object "java/lang/Object"))) (by decide)
    have F83_size_b83 : Fld Z h83 b83 "java/util/ArrayList" "size" "I" (.int (0 : Int32)) := D83 (Or.inl (wd53 hw)) (ty := .int) (by decide)
    refine Jvm.OwnWp.dup K at_126 rfl (pc' := 127) rfl ?_
    refine callInit K (y := (⟨"java/util/ArrayList", "<init>", "()V"⟩ : MethodName)) (b := b83) (argsL := []) (S := [(.ref b83), (.ref b82), (.ref b82)]) rfl (wd3 hw) (wd4 hw) (wd2 hw) (wd5 hw) rfl (by decide) (c_ali l Z a0 hw [] b83 u h83 n0 (Nat.le_trans Z0 P83.1) A83 ge_b83 F83_modCount_b83 F83_elementData_b83 F83_size_b83 S_u V0 O83) (lenOf pd0 rfl) at_127 rfl (Nat.le_of_ble_eq_true rfl) (Nat.le_of_ble_eq_true rfl) (Nat.le_of_ble_eq_true rfl) (Nat.le_of_ble_eq_true rfl) rfl (pc' := 130) rfl ?_
    rintro v84 h84 ⟨rfl, K84, Q84_F_modCount, Q84_F_elementData, Q84_F_size⟩
    have F84_value_x74 := (Fld.keep F83_value_x74 K84 (ninS ne_x74_b83 (nin0)))
    have F84_value_x76 := (Fld.keep F83_value_x76 K84 (ninS ne_x76_b83 (nin0)))
    have F84_value_x78 := (Fld.keep F83_value_x78 K84 (ninS ne_x78_b83 (nin0)))
    have F84_value_x80 := (Fld.keep F83_value_x80 K84 (ninS ne_x80_b83 (nin0)))
    have F84_modCount_b72 := (Fld.keep F83_modCount_b72 K84 (ninS ne_b72_b83 (nin0)))
    have F84_elementData_b72 := (Fld.keep F83_elementData_b72 K84 (ninS ne_b72_b83 (nin0)))
    have F84_size_b72 := (Fld.keep F83_size_b72 K84 (ninS ne_b72_b83 (nin0)))
    have F84_prices_b82 := (Fld.keep F83_prices_b82 K84 (ninS ne_b82_b83 (nin0)))
    have F84_acceptanceRates_b82 := (Fld.keep F83_acceptanceRates_b82 K84 (ninS ne_b82_b83 (nin0)))
    have F84_stateProbabilities_b82 := (Fld.keep F83_stateProbabilities_b82 K84 (ninS ne_b82_b83 (nin0)))
    have F84_revenue_b82 := (Fld.keep F83_revenue_b82 K84 (ninS ne_b82_b83 (nin0)))
    have X84_b72 := (Exa.keep X83_b72 K84)
    have X84_x74 := (Exa.keep X83_x74 K84)
    have X84_x76 := (Exa.keep X83_x76 K84)
    have X84_x78 := (Exa.keep X83_x78 K84)
    have X84_x80 := (Exa.keep X83_x80 K84)
    have X84_b82 := (Exa.keep X83_b82 K84)
    have X84_b83 := (Exa.keep A83 K84)
    have V84_ea := (V83_ea.keep K84 (ninS ne_ea_b83 (nin0)))
    have O84 := (O83.keep K84 (allS ge_b83 (all0)))
    have P84 := (P83.trans K84 (allS (Or.inr lt_b83) (all0)))
    show Go _ _ _ _ _ _ _ _ _ _ _ h84 8 24 (mkF m 130 #[.val (.int p0), .val (.int p1), .val (.int p2), .val (.int p3), .val (.int p4), .val (.int p5), .val (.int ((3 : Int32) + (1 : Int32))), .val (.ref b72), .val (.int p4), .unset] [(.ref b83), (.ref b82), (.ref b82)]) _
    refine newObj K (wd0 hw) (wd1 hw) (wd2 hw) at_130 (by decide) (by decide) (pc' := 133) rfl ?_
    intro h85 b85 g85 E85 A85 D85
    have ne_x74_b85 : x74 ≠ b85 := Nat.ne_of_lt (Nat.lt_of_lt_of_eq (Exa.lt X84_x74) g85.symm)
    have ne_x76_b85 : x76 ≠ b85 := Nat.ne_of_lt (Nat.lt_of_lt_of_eq (Exa.lt X84_x76) g85.symm)
    have ne_x78_b85 : x78 ≠ b85 := Nat.ne_of_lt (Nat.lt_of_lt_of_eq (Exa.lt X84_x78) g85.symm)
    have ne_x80_b85 : x80 ≠ b85 := Nat.ne_of_lt (Nat.lt_of_lt_of_eq (Exa.lt X84_x80) g85.symm)
    have ne_b72_b85 : b72 ≠ b85 := Nat.ne_of_lt (Nat.lt_of_lt_of_eq (Exa.lt X84_b72) g85.symm)
    have ne_b82_b85 : b82 ≠ b85 := Nat.ne_of_lt (Nat.lt_of_lt_of_eq (Exa.lt X84_b82) g85.symm)
    have ne_b83_b85 : b83 ≠ b85 := Nat.ne_of_lt (Nat.lt_of_lt_of_eq (Exa.lt X84_b83) g85.symm)
    have ne_ea_b85 : ea ≠ b85 := Nat.ne_of_lt (Nat.lt_of_lt_of_eq (V84_ea.lt) g85.symm)
    have lt_b85 : h0.size ≤ b85 := Nat.le_trans P84.1 (Nat.le_of_eq g85.symm)
    have ge_b85 : n0 ≤ b85 := Nat.le_trans Z0 lt_b85
    have F85_value_x74 := (Fld.ext E85 F84_value_x74)
    have F85_value_x76 := (Fld.ext E85 F84_value_x76)
    have F85_value_x78 := (Fld.ext E85 F84_value_x78)
    have F85_value_x80 := (Fld.ext E85 F84_value_x80)
    have F85_modCount_b72 := (Fld.ext E85 F84_modCount_b72)
    have F85_elementData_b72 := (Fld.ext E85 F84_elementData_b72)
    have F85_size_b72 := (Fld.ext E85 F84_size_b72)
    have F85_prices_b82 := (Fld.ext E85 F84_prices_b82)
    have F85_acceptanceRates_b82 := (Fld.ext E85 F84_acceptanceRates_b82)
    have F85_stateProbabilities_b82 := (Fld.ext E85 F84_stateProbabilities_b82)
    have F85_revenue_b82 := (Fld.ext E85 F84_revenue_b82)
    have F85_modCount_b83 := (Fld.ext E85 Q84_F_modCount)
    have F85_elementData_b83 := (Fld.ext E85 Q84_F_elementData)
    have F85_size_b83 := (Fld.ext E85 Q84_F_size)
    have X85_b72 := (Exa.ext E85 X84_b72)
    have X85_x74 := (Exa.ext E85 X84_x74)
    have X85_x76 := (Exa.ext E85 X84_x76)
    have X85_x78 := (Exa.ext E85 X84_x78)
    have X85_x80 := (Exa.ext E85 X84_x80)
    have X85_b82 := (Exa.ext E85 X84_b82)
    have X85_b83 := (Exa.ext E85 X84_b83)
    have V85_ea := (V84_ea.ext E85)
    have O85 := (O84.ext E85)
    have P85 := (P84.ext E85)
    have F85_modCount_b85 : Fld Z h85 b85 "java/util/AbstractList" "modCount" "I" (.int (0 : Int32)) := D85 (Or.inl (wd22 hw)) (ty := .int) (by decide)
    have F85_elementData_b85 : Fld Z h85 b85 "java/util/ArrayList" "elementData" "[Ljava/lang/Object;" .null := D85 (Or.inl (wd25 hw)) (ty := (.array (.object "java/lang/Object"))) (by decide)
    have F85_size_b85 : Fld Z h85 b85 "java/util/ArrayList" "size" "I" (.int (0 : Int32)) := D85 (Or.inl (wd53 hw)) (ty := .int) (by decide)
    refine Jvm.OwnWp.dup K at_133 rfl (pc' := 134) rfl ?_
    refine callInit K (y := (⟨"java/util/ArrayList", "<init>", "()V"⟩ : MethodName)) (b := b85) (argsL := []) (S := [(.ref b85), (.ref b83), (.ref b82), (.ref b82)]) rfl (wd3 hw) (wd4 hw) (wd2 hw) (wd5 hw) rfl (by decide) (c_ali l Z a0 hw [] b85 u h85 n0 (Nat.le_trans Z0 P85.1) A85 ge_b85 F85_modCount_b85 F85_elementData_b85 F85_size_b85 S_u V0 O85) (lenOf pd0 rfl) at_134 rfl (Nat.le_of_ble_eq_true rfl) (Nat.le_of_ble_eq_true rfl) (Nat.le_of_ble_eq_true rfl) (Nat.le_of_ble_eq_true rfl) rfl (pc' := 137) rfl ?_
    rintro v86 h86 ⟨rfl, K86, Q86_F_modCount, Q86_F_elementData, Q86_F_size⟩
    have F86_value_x74 := (Fld.keep F85_value_x74 K86 (ninS ne_x74_b85 (nin0)))
    have F86_value_x76 := (Fld.keep F85_value_x76 K86 (ninS ne_x76_b85 (nin0)))
    have F86_value_x78 := (Fld.keep F85_value_x78 K86 (ninS ne_x78_b85 (nin0)))
    have F86_value_x80 := (Fld.keep F85_value_x80 K86 (ninS ne_x80_b85 (nin0)))
    have F86_modCount_b72 := (Fld.keep F85_modCount_b72 K86 (ninS ne_b72_b85 (nin0)))
    have F86_elementData_b72 := (Fld.keep F85_elementData_b72 K86 (ninS ne_b72_b85 (nin0)))
    have F86_size_b72 := (Fld.keep F85_size_b72 K86 (ninS ne_b72_b85 (nin0)))
    have F86_prices_b82 := (Fld.keep F85_prices_b82 K86 (ninS ne_b82_b85 (nin0)))
    have F86_acceptanceRates_b82 := (Fld.keep F85_acceptanceRates_b82 K86 (ninS ne_b82_b85 (nin0)))
    have F86_stateProbabilities_b82 := (Fld.keep F85_stateProbabilities_b82 K86 (ninS ne_b82_b85 (nin0)))
    have F86_revenue_b82 := (Fld.keep F85_revenue_b82 K86 (ninS ne_b82_b85 (nin0)))
    have F86_modCount_b83 := (Fld.keep F85_modCount_b83 K86 (ninS ne_b83_b85 (nin0)))
    have F86_elementData_b83 := (Fld.keep F85_elementData_b83 K86 (ninS ne_b83_b85 (nin0)))
    have F86_size_b83 := (Fld.keep F85_size_b83 K86 (ninS ne_b83_b85 (nin0)))
    have X86_b72 := (Exa.keep X85_b72 K86)
    have X86_x74 := (Exa.keep X85_x74 K86)
    have X86_x76 := (Exa.keep X85_x76 K86)
    have X86_x78 := (Exa.keep X85_x78 K86)
    have X86_x80 := (Exa.keep X85_x80 K86)
    have X86_b82 := (Exa.keep X85_b82 K86)
    have X86_b83 := (Exa.keep X85_b83 K86)
    have X86_b85 := (Exa.keep A85 K86)
    have V86_ea := (V85_ea.keep K86 (ninS ne_ea_b85 (nin0)))
    have O86 := (O85.keep K86 (allS ge_b85 (all0)))
    have P86 := (P85.trans K86 (allS (Or.inr lt_b85) (all0)))
    show Go _ _ _ _ _ _ _ _ _ _ _ h86 9 27 (mkF m 137 #[.val (.int p0), .val (.int p1), .val (.int p2), .val (.int p3), .val (.int p4), .val (.int p5), .val (.int ((3 : Int32) + (1 : Int32))), .val (.ref b72), .val (.int p4), .unset] [(.ref b85), (.ref b83), (.ref b82), (.ref b82)]) _
    refine Jvm.OwnWp.aload K at_137 rfl rfl (pc' := 139) rfl ?_
    refine Jvm.OwnWp.iload K at_139 rfl (pc' := 141) rfl ?_
    refine Jvm.OwnWp.i2d K at_141 (pc' := 142) rfl ?_
    refine callInit K (y := (⟨"com/example/tarifa/tarifa/pricing/SessionMenu", "<init>", "(Ljava/util/List;Ljava/util/List;Ljava/util/List;D)V"⟩ : MethodName)) (b := b82) (argsL := [(.ref b83), (.ref b85), (.ref b72), (.double (FP.i2d p5))]) (S := [(.ref b82)]) rfl (wd79 hw) (wd80 hw) (wd78 hw) (wd81 hw) rfl (by decide) (c_smi l Z a0 hw [] b82 b83 b85 b72 (FP.i2d p5) h86 n0 (Nat.le_trans Z0 P86.1) X86_b82 ge_b82 F86_prices_b82 F86_acceptanceRates_b82 F86_stateProbabilities_b82 F86_revenue_b82) (lenOf pd12 rfl) at_142 rfl (Nat.le_of_ble_eq_true rfl) (Nat.le_of_ble_eq_true rfl) (Nat.le_of_ble_eq_true rfl) (Nat.le_of_ble_eq_true rfl) rfl (pc' := 145) rfl ?_
    rintro v87 h87 ⟨rfl, K87, Q87⟩
    have F87_value_x74 := (Fld.keep F86_value_x74 K87 (ninS ne_x74_b82 (nin0)))
    have F87_value_x76 := (Fld.keep F86_value_x76 K87 (ninS ne_x76_b82 (nin0)))
    have F87_value_x78 := (Fld.keep F86_value_x78 K87 (ninS ne_x78_b82 (nin0)))
    have F87_value_x80 := (Fld.keep F86_value_x80 K87 (ninS ne_x80_b82 (nin0)))
    have F87_modCount_b72 := (Fld.keep F86_modCount_b72 K87 (ninS ne_b72_b82 (nin0)))
    have F87_elementData_b72 := (Fld.keep F86_elementData_b72 K87 (ninS ne_b72_b82 (nin0)))
    have F87_size_b72 := (Fld.keep F86_size_b72 K87 (ninS ne_b72_b82 (nin0)))
    have F87_modCount_b83 := (Fld.keep F86_modCount_b83 K87 (ninS (Ne.symm ne_b82_b83) (nin0)))
    have F87_elementData_b83 := (Fld.keep F86_elementData_b83 K87 (ninS (Ne.symm ne_b82_b83) (nin0)))
    have F87_size_b83 := (Fld.keep F86_size_b83 K87 (ninS (Ne.symm ne_b82_b83) (nin0)))
    have F87_modCount_b85 := (Fld.keep Q86_F_modCount K87 (ninS (Ne.symm ne_b82_b85) (nin0)))
    have F87_elementData_b85 := (Fld.keep Q86_F_elementData K87 (ninS (Ne.symm ne_b82_b85) (nin0)))
    have F87_size_b85 := (Fld.keep Q86_F_size K87 (ninS (Ne.symm ne_b82_b85) (nin0)))
    have X87_b72 := (Exa.keep X86_b72 K87)
    have X87_x74 := (Exa.keep X86_x74 K87)
    have X87_x76 := (Exa.keep X86_x76 K87)
    have X87_x78 := (Exa.keep X86_x78 K87)
    have X87_x80 := (Exa.keep X86_x80 K87)
    have X87_b82 := (Exa.keep X86_b82 K87)
    have X87_b83 := (Exa.keep X86_b83 K87)
    have X87_b85 := (Exa.keep X86_b85 K87)
    have V87_ea := (V86_ea.keep K87 (ninS ne_ea_b82 (nin0)))
    have O87 := (O86.keep K87 (allS ge_b82 (all0)))
    have P87 := (P86.trans K87 (allS (Or.inr lt_b82) (all0)))
    show Go _ _ _ _ _ _ _ _ _ _ _ h87 9 27 (mkF m 145 #[.val (.int p0), .val (.int p1), .val (.int p2), .val (.int p3), .val (.int p4), .val (.int p5), .val (.int ((3 : Int32) + (1 : Int32))), .val (.ref b72), .val (.int p4), .unset] [(.ref b82)]) _
    refine Jvm.OwnWp.astore K at_145 rfl (Ls' := #[.val (.int p0), .val (.int p1), .val (.int p2), .val (.int p3), .val (.int p4), .val (.int p5), .val (.int ((3 : Int32) + (1 : Int32))), .val (.ref b72), .val (.int p4), .val (.ref b82)]) rfl (pc' := 147) rfl ?_
    refine Jvm.OwnWp.aload K at_147 rfl rfl (pc' := 149) rfl ?_
    refine callVirt K (y := (⟨"com/example/tarifa/tarifa/pricing/SessionMenu", "blockingProbability", "()D"⟩ : MethodName)) (b := b82) (argsL := []) (S := []) (wd96 hw) (wd97 hw) (wd99 hw) (wd98 hw) (wd78 hw) (wd100 hw) (by decide) X87_b82 (c_bp l Z a0 hw [] b82 b72 ea x80 (FP.i2d p4) 3 (Int32.ofNat 4) (((((List.replicate 10 .null).set 0 (.ref x74)).set 1 (.ref x76)).set 2 (.ref x78)).set 3 (.ref x80)) h87 n0 (Nat.le_trans Z0 P87.1) X87_b72 (by decide) (by decide) (by decide) (by simp) X87_x80 F87_value_x80 Q87 F87_elementData_b72 F87_size_b72 V87_ea) (lenOf pd9 rfl) at_149 rfl (Nat.le_of_ble_eq_true rfl) (Nat.le_of_ble_eq_true rfl) (Nat.le_of_ble_eq_true rfl) (Nat.le_of_ble_eq_true rfl) rfl (pc' := 152) rfl ?_
    rintro v88 h88 ⟨rfl, rfl⟩
    show Go _ _ _ _ _ _ _ _ _ _ _ h87 9 27 (mkF m 152 #[.val (.int p0), .val (.int p1), .val (.int p2), .val (.int p3), .val (.int p4), .val (.int p5), .val (.int ((3 : Int32) + (1 : Int32))), .val (.ref b72), .val (.int p4), .val (.ref b82)] [(.double (FP.i2d p4))]) _
    refine Jvm.OwnWp.iload K at_152 rfl (pc' := 154) rfl ?_
    refine Jvm.OwnWp.i2d K at_154 (pc' := 155) rfl ?_
    refine Jvm.OwnWp.dcmp K at_155 (pc' := 156) rfl ?_
    refine ifN K at_156 (dd_l_ne_f (show FP.dcmp _ _ = some .eq from Jvm.FP.Core.dcmp_eq.mpr ⟨Jvm.FP.Core.DInt_ne_nan (Jvm.FP.Core.i2d_int _), Jvm.FP.Core.DInt_ne_nan (Jvm.FP.Core.i2d_int _), rfl⟩)) (pc' := 159) rfl ?_
    refine Jvm.OwnWp.iconst K (1 : Int32) at_159 (by decide) (pc' := 160) rfl ?_
    refine goto' K at_160 (pc' := 164) (by decide) (by decide) ?_
    refine retB K (t := .boolean) rfl (by simp) at_164 (Nat.le_of_ble_eq_true rfl) (Nat.le_of_ble_eq_true rfl) ?_
    rfl
set_option maxRecDepth 65536 in
set_option maxHeartbeats 40000000 in
theorem comes_1 {Post : Tables → Env → Array Value → State → Outcome → State → Prop} (hpost : ∀ tb e args s v u, (limb_1_1.after args s (.returned v) u = true ∧ limb_1_2.after args s (.returned v) u = true ∧ True) → FrameEnd s (.returned v) u (Jvm.fieldLocs frame_1_writes args s ++ Jvm.arrayLocs frame_1_arrays args s ++ Jvm.staticLocs frame_1_statics s) 32 128 → Post tb e args s (.returned v) u) :
    ArmFor flags0 classFile x code maxLocals ret World_1 tables_1 room_1 Calls_1 rest_1 Pre_1 Post := by
  intro l hfl _ _ p e ha hc hk s m args below hf hA hF happ hP
  obtain ⟨hcalls, hrest, hpre⟩ := hP
  obtain ⟨-, -, -, hnamed, -, -, -, hat⟩ := (Spec.applies_iff hf).mp happ
  obtain ⟨hg, hn⟩ := and_e (Cond.before_iff.mp (show (Jvm.Cond.and given_1 narrow_1).before args s = true from hpre))
  obtain ⟨q0, r0⟩ := and_e hg
  obtain ⟨q1, r1⟩ := and_e r0
  obtain ⟨q2, r2⟩ := and_e r1
  obtain ⟨q3, r3⟩ := and_e r2
  obtain ⟨q4, r4⟩ := and_e r3
  obtain ⟨q5, r5⟩ := and_e r4
  have q6 := r5
  obtain ⟨w0, w1, w2, w3, w4, w5, rfl⟩ : ∃ w0 w1 w2 w3 w4 w5 : Value, args = #[w0, w1, w2, w3, w4, w5] := by
    have hs : args.size = 6 := by simpa [Cond.value, given_1] using q0
    obtain ⟨L⟩ := args
    match L, hs with
    | [w0, w1, w2, w3, w4, w5], _ => exact ⟨w0, w1, w2, w3, w4, w5, rfl⟩
  have hw := fun d (hd : d ∈ tables_1) => atoms_spec (ws := Jvm.Cond.code x code maxLocals ret :: tables_1) hat d (List.mem_cons_of_mem _ hd)
  have hfit : Fit s := fun {y c} hc i hi => by
    obtain ⟨ha, rfl⟩ := Array.getElem?_eq_some_iff.mp hc
    have q := List.all_eq_true.mp ((Array.all_eq_true_iff_forall_mem.mp hF) _ (Array.getElem_mem ha)) i (List.mem_range.mpr hi)
    simpa [Array.getElem?_eq_getElem hi] using q
  obtain ⟨i0, e0⟩ := is_v q1
  obtain rfl : w0 = (.int i0) := Option.some.inj e0
  obtain ⟨i1, e1⟩ := is_v q2
  obtain rfl : w1 = (.int i1) := Option.some.inj e1
  obtain ⟨i2, e2⟩ := is_v q3
  obtain rfl : w2 = (.int i2) := Option.some.inj e2
  obtain ⟨i3, e3⟩ := is_v q4
  obtain rfl : w3 = (.int i3) := Option.some.inj e3
  obtain ⟨i4, e4⟩ := is_v q5
  obtain rfl : w4 = (.int i4) := Option.some.inj e4
  obtain ⟨i5, e5⟩ := is_v q6
  obtain rfl : w5 = (.int i5) := Option.some.inj e5
  have hsets := (atoms_of (own := restOwn_1) jdkStatics_1 (by rw [← rest_1_c_eq]; exact hrest)).1
  obtain ⟨u, ev_u⟩ := exa_v (Cond.before_iff.mp (hsets _ (List.mem_of_getElem? (i := 7) rfl)))
  have S_u := Sta.start ev_u (Or.inr ⟨(wd2 hw), (hsets _ (List.mem_of_getElem? (i := 2) rfl))⟩)
  have V_u := own_arr0 ev_u (Cond.before_iff.mp (hsets _ (List.mem_of_getElem? (i := 6) rfl))) (Cond.before_iff.mp (hsets _ (List.mem_of_getElem? (i := 8) rfl)))
  obtain ⟨n, o, h1, h2, h3, _, L, rfl, ⟨rfl, N⟩, hq⟩ := c_law l s _ hw tables_1 i0 i1 i2 i3 i4 i5 u s.heap s.heap.size (Nat.le_refl _) S_u V_u (Old.start s) p e ha hc hk s m _ below hf ((Spec.applies_iff_loose hf).mp happ).1 ⟨rfl, State.Warmed39.refl s, rfl⟩ trivial
  refine ⟨n, _, h1, h2, h3, hpost _ _ _ _ _ _ ⟨Cond.after_iff.mpr rfl, Cond.after_iff.mpr (eq_i res_at (Term.int_eval (1)) rfl), trivial⟩ ⟨hq.1, hq.2.1, (hq.2.2.sift fun y hy => Or.inr (N y hy)).mono (by decide) (by decide)⟩⟩
theorem main_1_1 : Claimed_1_1 := comes_1 fun _ _ _ _ _ _ h hF => ⟨h.1, hF⟩
theorem main_1_2 : Claimed_1_2 := comes_1 fun _ _ _ _ _ _ h hF => ⟨h.2.1, hF⟩
end Jvm.Pilot.@@N@@
namespace Jvm.Pilot.@@N@@
open Jvm Jvm.ClassFile Sem Op Lib Jvm.Free Jvm.Stand Jvm.Pilot.@@N@@.Jvm.D
/-! MADE BY PROGRAM (witnessworld.py) out of the Statement's table words and the real class files: 27 classes; the members and pool entries that the words name. The judged class is class 1, her method 1. -/
namespace start1
open Jvm.ClassFile
def u (s : String) : CpInfo := .utf8 (stringToUtf16 s)
/-- a pool by its gaps: so many unusable entries, then the entry; so many at the end -/
def gap : Nat → List CpInfo → List CpInfo
  | 0, r => r
  | n + 1, r => .unusable :: gap n r
def poolList (es : List (Nat × CpInfo)) (last : Nat) : List CpInfo := es.foldr (fun e r => gap e.1 (e.2 :: r)) (gap last [])
def pool (es : List (Nat × CpInfo)) (last : Nat) : Array CpInfo := ⟨poolList es last⟩
def fileOf (pool : Array CpInfo) (this : Nat) (attrs : Array Attribute := #[]) (ms : Array MethodInfo := #[]) (fl : Nat := 33) (sup : Nat := 0) (ifs : Array Nat := #[]) (fds : Array FieldInfo := #[]) : ClassFile where
  minorVersion := 0
  majorVersion := 65
  constantPool := pool
  accessFlags := fl
  thisClass := this
  superClass := sup
  interfaces := ifs
  fields := fds
  methods := ms
  attributes := attrs
def plain (name : String) (sup : Option ClassId) : Class where
  name := name
  kind := .ordinary
  loader := none
  accessFlags := 33
  super := sup
  interfaces := #[]
  cf := none
  fields := #[]
  methods := #[]
  instanceTypes := #[]
  staticTypes := #[]
  resolved := #[]
  callSites := []
  init := .initialized
  statics := none
  mirror := none

def pool0 : Array CpInfo := pool [(5, u "<init>"), (0, u "()V"), (1, .class_ 10), (1, u "java/lang/Object")] 113

def k0c0 : Code := { maxStack := 0, maxLocals := 1, code := object_method_1_code, exceptionTable := #[], attributes := #[] }
def k0m0 : Method := { name := "<init>", desc := "()V", sig := { parameters := [], returnType := none }, accessFlags := 1, code := some k0c0 }
/-- java/lang/Object -/
def k0 : Class := { plain "java/lang/Object" none with
  accessFlags := 33
  interfaces := #[]
  cf := some (fileOf pool0 8 #[] #[{ accessFlags := 1, nameIndex := 5, descriptorIndex := 6, attributes := #[] }] 33 0 #[] #[])
  fields := #[]
  methods := #[k0m0]
  instanceTypes := #[]
  staticTypes := #[]
  resolved := Array.replicate 124 none
  statics := none }

def pool1 : Array CpInfo := pool [(2, .class_ 4), (0, .nameAndType 5 6), (0, u "java/lang/Object"), (0, u "<init>"), (0, u "()V"), (0, .class_ 8), (0, u "java/util/ArrayList"), (0, .methodref 7 3), (0, .methodref 11 12), (0, .class_ 13), (0, .nameAndType 14 15), (0, u "java/lang/Double"), (0, u "valueOf"), (0, u "(D)Ljava/lang/Double;"), (0, .methodref 7 17), (0, .nameAndType 18 19), (0, u "add"), (0, u "(Ljava/lang/Object;)Z"), (0, .class_ 21), (0, u "com/example/tarifa/tarifa/pricing/SessionMenu"), (0, .methodref 20 23), (0, .nameAndType 5 24), (0, u "(Ljava/util/List;Ljava/util/List;Ljava/util/List;D)V"), (0, .methodref 20 26), (0, .nameAndType 27 28), (0, u "blockingProbability"), (0, u "()D"), (0, .class_ 30), (0, u "com/example/tarifa/tarifa/pricing/SessionMenuBlockingProbabilityPinLaw"), (2, u "law"), (0, u "(IIIIII)Z")] 3

def k1m0 : Method := { name := "<init>", desc := "()V", sig := { parameters := [], returnType := none }, accessFlags := 2, code := none }
def k1c1 : Code := { maxStack := 7, maxLocals := 10, code := code, exceptionTable := #[], attributes := #[] }
def k1m1 : Method := { name := "law", desc := "(IIIIII)Z", sig := { parameters := [.int, .int, .int, .int, .int, .int], returnType := some .boolean }, accessFlags := 9, code := some k1c1 }
/-- com/example/tarifa/tarifa/pricing/SessionMenuBlockingProbabilityPinLaw -/
def k1 : Class := { plain "com/example/tarifa/tarifa/pricing/SessionMenuBlockingProbabilityPinLaw" (some 0) with
  accessFlags := 49
  interfaces := #[]
  cf := some (fileOf pool1 29 #[] #[{ accessFlags := 2, nameIndex := 5, descriptorIndex := 6, attributes := #[] }, { accessFlags := 9, nameIndex := 33, descriptorIndex := 34, attributes := #[] }] 49 2 #[] #[])
  fields := #[]
  methods := #[k1m0, k1m1]
  instanceTypes := #[]
  staticTypes := #[]
  resolved := Array.replicate 38 none
  statics := none }

def pool2 : Array CpInfo := pool [(8, .class_ 10), (1, u "java/lang/Iterable"), (24, .class_ 36), (0, u "java/lang/Object")] 25

/-- java/lang/Iterable -/
def k2 : Class := { plain "java/lang/Iterable" (some 0) with
  accessFlags := 1537
  interfaces := #[]
  cf := some (fileOf pool2 8 #[] #[] 1537 35 #[] #[])
  fields := #[]
  methods := #[]
  instanceTypes := #[]
  staticTypes := #[]
  resolved := Array.replicate 62 none
  statics := none }

def pool3 : Array CpInfo := pool [(10, .class_ 12), (1, u "java/util/Collection"), (47, .class_ 61), (0, u "java/lang/Object"), (0, .class_ 63), (0, u "java/lang/Iterable")] 51

/-- java/util/Collection -/
def k3 : Class := { plain "java/util/Collection" (some 0) with
  accessFlags := 1537
  interfaces := #[2]
  cf := some (fileOf pool3 10 #[] #[] 1537 60 #[62] #[])
  fields := #[]
  methods := #[]
  instanceTypes := #[]
  staticTypes := #[]
  resolved := Array.replicate 115 none
  statics := none }

def pool4 : Array CpInfo := pool [(1, .methodref 2 3), (0, .class_ 4), (0, .nameAndType 5 6), (0, u "java/lang/Object"), (0, u "<init>"), (0, u "()V"), (1, .class_ 10), (1, u "java/util/AbstractCollection"), (66, .class_ 78), (0, u "java/util/Collection")] 81

def k4c0 : Code := { maxStack := 1, maxLocals := 1, code := jdk_22_method_1_code, exceptionTable := #[], attributes := #[] }
def k4m0 : Method := { name := "<init>", desc := "()V", sig := { parameters := [], returnType := none }, accessFlags := 4, code := some k4c0 }
/-- java/util/AbstractCollection -/
def k4 : Class := { plain "java/util/AbstractCollection" (some 0) with
  accessFlags := 1057
  interfaces := #[3]
  cf := some (fileOf pool4 8 #[] #[{ accessFlags := 4, nameIndex := 5, descriptorIndex := 6, attributes := #[] }] 1057 2 #[77] #[])
  fields := #[]
  methods := #[k4m0]
  instanceTypes := #[]
  staticTypes := #[]
  resolved := Array.replicate 160 none
  statics := none }

def pool5 : Array CpInfo := pool [(8, .class_ 10), (1, u "java/util/SequencedCollection"), (15, .class_ 27), (0, u "java/lang/Object"), (0, .class_ 29), (0, u "java/util/Collection")] 27

/-- java/util/SequencedCollection -/
def k5 : Class := { plain "java/util/SequencedCollection" (some 0) with
  accessFlags := 1537
  interfaces := #[3]
  cf := some (fileOf pool5 8 #[] #[] 1537 26 #[28] #[])
  fields := #[]
  methods := #[]
  instanceTypes := #[]
  staticTypes := #[]
  resolved := Array.replicate 57 none
  statics := none }

def pool6 : Array CpInfo := pool [(8, .class_ 10), (1, u "java/util/List"), (64, u "get"), (0, u "(I)Ljava/lang/Object;"), (2, u "size"), (0, u "()I"), (22, .class_ 104), (0, u "java/lang/Object"), (15, .class_ 121), (0, u "java/util/SequencedCollection")] 129

def k6m0 : Method := { name := "size", desc := "()I", sig := { parameters := [], returnType := some .int }, accessFlags := 1025, code := none }
def k6m1 : Method := { name := "get", desc := "(I)Ljava/lang/Object;", sig := { parameters := [.int], returnType := some (.object "java/lang/Object") }, accessFlags := 1025, code := none }
/-- java/util/List -/
def k6 : Class := { plain "java/util/List" (some 0) with
  accessFlags := 1537
  interfaces := #[5]
  cf := some (fileOf pool6 8 #[] #[{ accessFlags := 1025, nameIndex := 79, descriptorIndex := 80, attributes := #[] }, { accessFlags := 1025, nameIndex := 75, descriptorIndex := 76, attributes := #[] }] 1537 103 #[120] #[])
  fields := #[]
  methods := #[k6m0, k6m1]
  instanceTypes := #[]
  staticTypes := #[]
  resolved := Array.replicate 251 none
  statics := none }

def pool7 : Array CpInfo := pool [(1, .methodref 2 3), (0, .class_ 4), (0, .nameAndType 5 6), (0, u "java/util/AbstractCollection"), (0, u "<init>"), (0, u "()V"), (0, .fieldref 8 9), (0, .class_ 10), (0, .nameAndType 11 12), (0, u "java/util/AbstractList"), (0, u "modCount"), (0, u "I"), (64, .class_ 78), (0, u "java/util/AbstractList$Itr"), (3, .class_ 83), (0, u "java/util/AbstractList$ListItr"), (9, .class_ 94), (0, u "java/util/AbstractList$RandomAccessSubList"), (3, .class_ 99), (0, u "java/util/AbstractList$SubList"), (33, .class_ 134), (0, u "java/util/List"), (73, .class_ 209), (0, u "java/util/AbstractList$SubList$1"), (0, .class_ 211), (0, u "java/util/AbstractList$RandomAccessSpliterator")] 6

def k7c0 : Code := { maxStack := 2, maxLocals := 1, code := jdk_39_method_1_code, exceptionTable := #[], attributes := #[] }
def k7m0 : Method := { name := "<init>", desc := "()V", sig := { parameters := [], returnType := none }, accessFlags := 4, code := some k7c0 }
/-- java/util/AbstractList -/
def k7 : Class := { plain "java/util/AbstractList" (some 4) with
  accessFlags := 1057
  interfaces := #[6]
  cf := some (fileOf pool7 8 #[.nestMembers #[93, 98, 208, 210, 82, 77]] #[{ accessFlags := 4, nameIndex := 5, descriptorIndex := 6, attributes := #[] }] 1057 2 #[133] #[{ accessFlags := 132, nameIndex := 11, descriptorIndex := 12, attributes := #[] }])
  fields := #[{ name := "modCount", type := .int, accessFlags := 132, slot := 0, constantValue := 0 }]
  methods := #[k7m0]
  instanceTypes := #[.int]
  staticTypes := #[]
  resolved := Array.replicate 218 none
  statics := none }

def pool8 : Array CpInfo := pool [(1, .class_ 2), (0, u "java/util/RandomAccess"), (0, .class_ 4), (0, u "java/lang/Object")] 2

/-- java/util/RandomAccess -/
def k8 : Class := { plain "java/util/RandomAccess" (some 0) with
  accessFlags := 1537
  interfaces := #[]
  cf := some (fileOf pool8 1 #[] #[] 1537 3 #[] #[])
  fields := #[]
  methods := #[]
  instanceTypes := #[]
  staticTypes := #[]
  resolved := Array.replicate 7 none
  statics := none }

def pool9 : Array CpInfo := pool [(1, .class_ 2), (0, u "java/lang/Cloneable"), (0, .class_ 4), (0, u "java/lang/Object")] 2

/-- java/lang/Cloneable -/
def k9 : Class := { plain "java/lang/Cloneable" (some 0) with
  accessFlags := 1537
  interfaces := #[]
  cf := some (fileOf pool9 1 #[] #[] 1537 3 #[] #[])
  fields := #[]
  methods := #[]
  instanceTypes := #[]
  staticTypes := #[]
  resolved := Array.replicate 7 none
  statics := none }

def pool10 : Array CpInfo := pool [(1, .class_ 2), (0, u "java/io/Serializable"), (0, .class_ 4), (0, u "java/lang/Object")] 2

/-- java/io/Serializable -/
def k10 : Class := { plain "java/io/Serializable" (some 0) with
  accessFlags := 1537
  interfaces := #[]
  cf := some (fileOf pool10 1 #[] #[] 1537 3 #[] #[])
  fields := #[]
  methods := #[]
  instanceTypes := #[]
  staticTypes := #[]
  resolved := Array.replicate 7 none
  statics := none }

def pool11 : Array CpInfo := pool [(1, .methodref 2 3), (0, .class_ 4), (0, .nameAndType 5 6), (0, u "java/util/AbstractList"), (0, u "<init>"), (0, u "()V"), (0, .class_ 8), (0, u "java/lang/Object"), (0, .fieldref 10 11), (0, .class_ 12), (0, .nameAndType 13 14), (0, u "java/util/ArrayList"), (0, u "elementData"), (0, u "[Ljava/lang/Object;"), (2, u "EMPTY_ELEMENTDATA"), (21, .fieldref 10 40), (0, .nameAndType 41 14), (0, u "DEFAULTCAPACITY_EMPTY_ELEMENTDATA"), (5, u "()[Ljava/lang/Object;"), (0, .fieldref 10 49), (0, .nameAndType 50 51), (0, u "size"), (0, u "I"), (11, .fieldref 10 64), (0, .nameAndType 65 51), (0, u "modCount"), (3, .methodref 10 70), (0, .nameAndType 71 72), (0, u "grow"), (0, u "(I)[Ljava/lang/Object;"), (6, .methodref 80 81), (0, .class_ 82), (0, .nameAndType 83 84), (0, u "java/lang/Math"), (0, u "max"), (0, u "(II)I"), (11, u "(Ljava/lang/Object;)Z"), (21, .methodref 119 120), (0, .class_ 121), (0, .nameAndType 122 84), (0, u "java/util/Objects"), (0, u "checkIndex"), (0, .methodref 10 124), (0, .nameAndType 13 125), (0, u "(I)Ljava/lang/Object;"), (3, .methodref 10 130), (0, .nameAndType 71 47), (0, .methodref 10 132), (0, .nameAndType 133 134), (0, u "add"), (0, u "(Ljava/lang/Object;[Ljava/lang/Object;I)V"), (13, .class_ 149), (0, u "java/util/List"), (36, u "()I"), (75, .class_ 263), (0, u "java/util/ArrayList$ListItr"), (3, .class_ 268), (0, u "java/util/ArrayList$Itr"), (7, .class_ 277), (0, u "java/util/ArrayList$SubList"), (12, .class_ 291), (0, u "java/util/ArrayList$ArrayListSpliterator"), (37, .class_ 330), (0, u "java/util/RandomAccess"), (0, .class_ 332), (0, u "java/lang/Cloneable"), (0, .class_ 334), (0, u "java/io/Serializable"), (0, u "serialVersionUID"), (0, u "J"), (3, u "DEFAULT_CAPACITY"), (40, u "get"), (118, .class_ 501), (0, u "java/util/ArrayList$SubList$2"), (0, .class_ 503), (0, u "java/util/ArrayList$SubList$1")] 5

def k11c0 : Code := { maxStack := 2, maxLocals := 1, code := jdk_38_method_2_code, exceptionTable := #[], attributes := #[] }
def k11m0 : Method := { name := "<init>", desc := "()V", sig := { parameters := [], returnType := none }, accessFlags := 1, code := some k11c0 }
def k11c1 : Code := { maxStack := 4, maxLocals := 4, code := jdk_38_method_6_code, exceptionTable := #[], attributes := #[] }
def k11m1 : Method := { name := "grow", desc := "(I)[Ljava/lang/Object;", sig := { parameters := [.int], returnType := some (.array (.object "java/lang/Object")) }, accessFlags := 2, code := some k11c1 }
def k11c2 : Code := { maxStack := 3, maxLocals := 1, code := jdk_38_method_7_code, exceptionTable := #[], attributes := #[] }
def k11m2 : Method := { name := "grow", desc := "()[Ljava/lang/Object;", sig := { parameters := [], returnType := some (.array (.object "java/lang/Object")) }, accessFlags := 2, code := some k11c2 }
def k11c3 : Code := { maxStack := 1, maxLocals := 1, code := jdk_38_method_8_code, exceptionTable := #[], attributes := #[] }
def k11m3 : Method := { name := "size", desc := "()I", sig := { parameters := [], returnType := some .int }, accessFlags := 1, code := some k11c3 }
def k11c4 : Code := { maxStack := 2, maxLocals := 2, code := jdk_38_method_18_code, exceptionTable := #[], attributes := #[] }
def k11m4 : Method := { name := "elementData", desc := "(I)Ljava/lang/Object;", sig := { parameters := [.int], returnType := some (.object "java/lang/Object") }, accessFlags := 0, code := some k11c4 }
def k11c5 : Code := { maxStack := 2, maxLocals := 2, code := jdk_38_method_20_code, exceptionTable := #[], attributes := #[] }
def k11m5 : Method := { name := "get", desc := "(I)Ljava/lang/Object;", sig := { parameters := [.int], returnType := some (.object "java/lang/Object") }, accessFlags := 1, code := some k11c5 }
def k11c6 : Code := { maxStack := 3, maxLocals := 4, code := jdk_38_method_24_code, exceptionTable := #[], attributes := #[] }
def k11m6 : Method := { name := "add", desc := "(Ljava/lang/Object;[Ljava/lang/Object;I)V", sig := { parameters := [(.object "java/lang/Object"), (.array (.object "java/lang/Object")), .int], returnType := none }, accessFlags := 2, code := some k11c6 }
def k11c7 : Code := { maxStack := 4, maxLocals := 2, code := jdk_38_method_25_code, exceptionTable := #[], attributes := #[] }
def k11m7 : Method := { name := "add", desc := "(Ljava/lang/Object;)Z", sig := { parameters := [(.object "java/lang/Object")], returnType := some .boolean }, accessFlags := 1, code := some k11c7 }
/-- java/util/ArrayList -/
def k11 : Class := { plain "java/util/ArrayList" (some 7) with
  accessFlags := 33
  interfaces := #[6, 8, 9, 10]
  cf := some (fileOf pool11 10 #[.nestMembers #[290, 276, 500, 502, 262, 267]] #[{ accessFlags := 1, nameIndex := 5, descriptorIndex := 6, attributes := #[] }, { accessFlags := 2, nameIndex := 71, descriptorIndex := 72, attributes := #[] }, { accessFlags := 2, nameIndex := 71, descriptorIndex := 47, attributes := #[] }, { accessFlags := 1, nameIndex := 50, descriptorIndex := 186, attributes := #[] }, { accessFlags := 0, nameIndex := 13, descriptorIndex := 125, attributes := #[] }, { accessFlags := 1, nameIndex := 381, descriptorIndex := 125, attributes := #[] }, { accessFlags := 2, nameIndex := 133, descriptorIndex := 134, attributes := #[] }, { accessFlags := 1, nameIndex := 133, descriptorIndex := 96, attributes := #[] }] 33 2 #[148, 329, 331, 333] #[{ accessFlags := 26, nameIndex := 335, descriptorIndex := 336, attributes := #[] }, { accessFlags := 26, nameIndex := 340, descriptorIndex := 51, attributes := #[] }, { accessFlags := 26, nameIndex := 17, descriptorIndex := 14, attributes := #[] }, { accessFlags := 26, nameIndex := 41, descriptorIndex := 14, attributes := #[] }, { accessFlags := 128, nameIndex := 13, descriptorIndex := 14, attributes := #[] }, { accessFlags := 2, nameIndex := 50, descriptorIndex := 51, attributes := #[] }])
  fields := #[{ name := "serialVersionUID", type := .long, accessFlags := 26, slot := 0, constantValue := 0 }, { name := "DEFAULT_CAPACITY", type := .int, accessFlags := 26, slot := 1, constantValue := 0 }, { name := "EMPTY_ELEMENTDATA", type := (.array (.object "java/lang/Object")), accessFlags := 26, slot := 2, constantValue := 0 }, { name := "DEFAULTCAPACITY_EMPTY_ELEMENTDATA", type := (.array (.object "java/lang/Object")), accessFlags := 26, slot := 3, constantValue := 0 }, { name := "elementData", type := (.array (.object "java/lang/Object")), accessFlags := 128, slot := 1, constantValue := 0 }, { name := "size", type := .int, accessFlags := 2, slot := 2, constantValue := 0 }]
  methods := #[k11m0, k11m1, k11m2, k11m3, k11m4, k11m5, k11m6, k11m7]
  instanceTypes := #[.int, (.array (.object "java/lang/Object")), .int]
  staticTypes := #[.long, .int, (.array (.object "java/lang/Object")), (.array (.object "java/lang/Object"))]
  resolved := Array.replicate 509 none
  statics := some 0 }

def pool12 : Array CpInfo := pool [(1, .methodref 2 3), (0, .class_ 4), (0, .nameAndType 5 6), (0, u "java/lang/Object"), (0, u "<init>"), (0, u "()V"), (1, .class_ 10), (1, u "java/lang/Number"), (2, .class_ 14), (0, u "java/io/Serializable"), (0, u "serialVersionUID"), (0, u "J")] 20

def k12c0 : Code := { maxStack := 1, maxLocals := 1, code := jdk_18_method_1_code, exceptionTable := #[], attributes := #[] }
def k12m0 : Method := { name := "<init>", desc := "()V", sig := { parameters := [], returnType := none }, accessFlags := 1, code := some k12c0 }
/-- java/lang/Number -/
def k12 : Class := { plain "java/lang/Number" (some 0) with
  accessFlags := 1057
  interfaces := #[10]
  cf := some (fileOf pool12 8 #[] #[{ accessFlags := 1, nameIndex := 5, descriptorIndex := 6, attributes := #[] }] 1057 2 #[13] #[{ accessFlags := 26, nameIndex := 15, descriptorIndex := 16, attributes := #[] }])
  fields := #[{ name := "serialVersionUID", type := .long, accessFlags := 26, slot := 0, constantValue := 0 }]
  methods := #[k12m0]
  instanceTypes := #[]
  staticTypes := #[.long]
  resolved := Array.replicate 37 none
  statics := none }

def pool13 : Array CpInfo := pool [(1, .class_ 2), (0, u "java/lang/Comparable"), (0, .class_ 4), (0, u "java/lang/Object")] 7

/-- java/lang/Comparable -/
def k13 : Class := { plain "java/lang/Comparable" (some 0) with
  accessFlags := 1537
  interfaces := #[]
  cf := some (fileOf pool13 1 #[] #[] 1537 3 #[] #[])
  fields := #[]
  methods := #[]
  instanceTypes := #[]
  staticTypes := #[]
  resolved := Array.replicate 12 none
  statics := none }

def pool14 : Array CpInfo := pool [(1, .class_ 2), (0, u "java/lang/constant/Constable"), (0, .class_ 4), (0, u "java/lang/Object")] 6

/-- java/lang/constant/Constable -/
def k14 : Class := { plain "java/lang/constant/Constable" (some 0) with
  accessFlags := 1537
  interfaces := #[]
  cf := some (fileOf pool14 1 #[] #[] 1537 3 #[] #[])
  fields := #[]
  methods := #[]
  instanceTypes := #[]
  staticTypes := #[]
  resolved := Array.replicate 11 none
  statics := none }

def pool15 : Array CpInfo := pool [(1, .class_ 2), (0, u "java/lang/constant/ConstantDesc"), (0, .class_ 4), (0, u "java/lang/Object")] 32

/-- java/lang/constant/ConstantDesc -/
def k15 : Class := { plain "java/lang/constant/ConstantDesc" (some 0) with
  accessFlags := 1537
  interfaces := #[]
  cf := some (fileOf pool15 1 #[] #[] 1537 3 #[] #[])
  fields := #[]
  methods := #[]
  instanceTypes := #[]
  staticTypes := #[]
  resolved := Array.replicate 37 none
  statics := none }

def pool16 : Array CpInfo := pool [(1, .class_ 2), (0, u "java/lang/Double"), (17, u "<init>"), (84, .methodref 1 106), (0, .nameAndType 20 107), (0, u "(D)V"), (5, .methodref 114 115), (0, .class_ 116), (0, .nameAndType 20 117), (0, u "java/lang/Number"), (0, u "()V"), (0, .fieldref 1 119), (0, .nameAndType 120 121), (0, u "value"), (0, u "D"), (51, u "TYPE"), (0, u "Ljava/lang/Class;"), (0, .class_ 176), (0, u "java/lang/Comparable"), (0, .class_ 178), (0, u "java/lang/constant/Constable"), (0, .class_ 180), (0, u "java/lang/constant/ConstantDesc"), (0, u "POSITIVE_INFINITY"), (3, u "NEGATIVE_INFINITY"), (2, u "NaN"), (2, u "MAX_VALUE"), (0, u "MIN_NORMAL"), (0, u "MIN_VALUE"), (2, u "SIZE"), (0, u "I"), (1, u "PRECISION"), (1, u "MAX_EXPONENT"), (1, u "MIN_EXPONENT"), (1, u "BYTES"), (3, u "serialVersionUID"), (0, u "J"), (14, u "valueOf"), (5, u "(D)Ljava/lang/Double;"), (23, u "doubleValue"), (0, u "()D")] 33

def k16c0 : Code := { maxStack := 4, maxLocals := 2, code := jdk_117_method_4_code, exceptionTable := #[], attributes := #[] }
def k16m0 : Method := { name := "valueOf", desc := "(D)Ljava/lang/Double;", sig := { parameters := [.double], returnType := some (.object "java/lang/Double") }, accessFlags := 9, code := some k16c0 }
def k16c1 : Code := { maxStack := 3, maxLocals := 3, code := jdk_117_method_9_code, exceptionTable := #[], attributes := #[] }
def k16m1 : Method := { name := "<init>", desc := "(D)V", sig := { parameters := [.double], returnType := none }, accessFlags := 1, code := some k16c1 }
def k16c2 : Code := { maxStack := 2, maxLocals := 1, code := jdk_117_method_19_code, exceptionTable := #[], attributes := #[] }
def k16m2 : Method := { name := "doubleValue", desc := "()D", sig := { parameters := [], returnType := some .double }, accessFlags := 1, code := some k16c2 }
/-- java/lang/Double -/
def k16 : Class := { plain "java/lang/Double" (some 12) with
  accessFlags := 49
  interfaces := #[13, 14, 15]
  cf := some (fileOf pool16 1 #[] #[{ accessFlags := 9, nameIndex := 225, descriptorIndex := 231, attributes := #[] }, { accessFlags := 1, nameIndex := 20, descriptorIndex := 107, attributes := #[] }, { accessFlags := 1, nameIndex := 255, descriptorIndex := 256, attributes := #[] }] 49 114 #[175, 177, 179] #[{ accessFlags := 25, nameIndex := 181, descriptorIndex := 121, attributes := #[] }, { accessFlags := 25, nameIndex := 185, descriptorIndex := 121, attributes := #[] }, { accessFlags := 25, nameIndex := 188, descriptorIndex := 121, attributes := #[] }, { accessFlags := 25, nameIndex := 191, descriptorIndex := 121, attributes := #[] }, { accessFlags := 25, nameIndex := 192, descriptorIndex := 121, attributes := #[] }, { accessFlags := 25, nameIndex := 193, descriptorIndex := 121, attributes := #[] }, { accessFlags := 25, nameIndex := 196, descriptorIndex := 197, attributes := #[] }, { accessFlags := 25, nameIndex := 199, descriptorIndex := 197, attributes := #[] }, { accessFlags := 25, nameIndex := 201, descriptorIndex := 197, attributes := #[] }, { accessFlags := 25, nameIndex := 203, descriptorIndex := 197, attributes := #[] }, { accessFlags := 25, nameIndex := 205, descriptorIndex := 197, attributes := #[] }, { accessFlags := 25, nameIndex := 173, descriptorIndex := 174, attributes := #[] }, { accessFlags := 18, nameIndex := 120, descriptorIndex := 121, attributes := #[] }, { accessFlags := 26, nameIndex := 209, descriptorIndex := 210, attributes := #[] }])
  fields := #[{ name := "POSITIVE_INFINITY", type := .double, accessFlags := 25, slot := 0, constantValue := 0 }, { name := "NEGATIVE_INFINITY", type := .double, accessFlags := 25, slot := 1, constantValue := 0 }, { name := "NaN", type := .double, accessFlags := 25, slot := 2, constantValue := 0 }, { name := "MAX_VALUE", type := .double, accessFlags := 25, slot := 3, constantValue := 0 }, { name := "MIN_NORMAL", type := .double, accessFlags := 25, slot := 4, constantValue := 0 }, { name := "MIN_VALUE", type := .double, accessFlags := 25, slot := 5, constantValue := 0 }, { name := "SIZE", type := .int, accessFlags := 25, slot := 6, constantValue := 0 }, { name := "PRECISION", type := .int, accessFlags := 25, slot := 7, constantValue := 0 }, { name := "MAX_EXPONENT", type := .int, accessFlags := 25, slot := 8, constantValue := 0 }, { name := "MIN_EXPONENT", type := .int, accessFlags := 25, slot := 9, constantValue := 0 }, { name := "BYTES", type := .int, accessFlags := 25, slot := 10, constantValue := 0 }, { name := "TYPE", type := (.object "java/lang/Class"), accessFlags := 25, slot := 11, constantValue := 0 }, { name := "value", type := .double, accessFlags := 18, slot := 0, constantValue := 0 }, { name := "serialVersionUID", type := .long, accessFlags := 26, slot := 12, constantValue := 0 }]
  methods := #[k16m0, k16m1, k16m2]
  instanceTypes := #[.double]
  staticTypes := #[.double, .double, .double, .double, .double, .double, .int, .int, .int, .int, .int, (.object "java/lang/Class"), .long]
  resolved := Array.replicate 290 none
  statics := none }

def pool17 : Array CpInfo := pool [(1, .class_ 2), (0, u "java/lang/Math"), (1, .class_ 6), (1, u "java/lang/Object"), (0, u "<init>"), (0, u "()V"), (89, .class_ 100), (1, u "java/lang/Math$RandomNumberGeneratorHolder"), (71, u "negativeZeroFloatBits"), (0, u "J"), (2, u "negativeZeroDoubleBits"), (21, u "max"), (46, u "$assertionsDisabled"), (0, u "Z"), (88, u "(II)I"), (2, u "twoToTheDoubleScaleDown"), (0, u "D"), (4, u "twoToTheDoubleScaleUp"), (9, u "E"), (3, u "PI"), (2, u "TAU"), (2, u "DEGREES_TO_RADIANS"), (0, u "RADIANS_TO_DEGREES")] 94

def k17m0 : Method := { name := "<init>", desc := "()V", sig := { parameters := [], returnType := none }, accessFlags := 2, code := none }
def k17c1 : Code := { maxStack := 2, maxLocals := 2, code := jdk_29_method_65_code, exceptionTable := #[], attributes := #[] }
def k17m1 : Method := { name := "max", desc := "(II)I", sig := { parameters := [.int, .int], returnType := some .int }, accessFlags := 9, code := some k17c1 }
/-- java/lang/Math -/
def k17 : Class := { plain "java/lang/Math" (some 0) with
  accessFlags := 49
  interfaces := #[]
  cf := some (fileOf pool17 1 #[.nestMembers #[98]] #[{ accessFlags := 2, nameIndex := 7, descriptorIndex := 8, attributes := #[] }, { accessFlags := 9, nameIndex := 198, descriptorIndex := 335, attributes := #[] }] 49 4 #[] #[{ accessFlags := 25, nameIndex := 354, descriptorIndex := 339, attributes := #[] }, { accessFlags := 25, nameIndex := 358, descriptorIndex := 339, attributes := #[] }, { accessFlags := 25, nameIndex := 361, descriptorIndex := 339, attributes := #[] }, { accessFlags := 26, nameIndex := 364, descriptorIndex := 339, attributes := #[] }, { accessFlags := 26, nameIndex := 365, descriptorIndex := 339, attributes := #[] }, { accessFlags := 26, nameIndex := 172, descriptorIndex := 173, attributes := #[] }, { accessFlags := 26, nameIndex := 176, descriptorIndex := 173, attributes := #[] }, { accessFlags := 8, nameIndex := 344, descriptorIndex := 339, attributes := #[] }, { accessFlags := 8, nameIndex := 338, descriptorIndex := 339, attributes := #[] }, { accessFlags := 4120, nameIndex := 245, descriptorIndex := 246, attributes := #[] }])
  fields := #[{ name := "E", type := .double, accessFlags := 25, slot := 0, constantValue := 0 }, { name := "PI", type := .double, accessFlags := 25, slot := 1, constantValue := 0 }, { name := "TAU", type := .double, accessFlags := 25, slot := 2, constantValue := 0 }, { name := "DEGREES_TO_RADIANS", type := .double, accessFlags := 26, slot := 3, constantValue := 0 }, { name := "RADIANS_TO_DEGREES", type := .double, accessFlags := 26, slot := 4, constantValue := 0 }, { name := "negativeZeroFloatBits", type := .long, accessFlags := 26, slot := 5, constantValue := 0 }, { name := "negativeZeroDoubleBits", type := .long, accessFlags := 26, slot := 6, constantValue := 0 }, { name := "twoToTheDoubleScaleUp", type := .double, accessFlags := 8, slot := 7, constantValue := 0 }, { name := "twoToTheDoubleScaleDown", type := .double, accessFlags := 8, slot := 8, constantValue := 0 }, { name := "$assertionsDisabled", type := .boolean, accessFlags := 4120, slot := 9, constantValue := 0 }]
  methods := #[k17m0, k17m1]
  instanceTypes := #[]
  staticTypes := #[.double, .double, .double, .double, .double, .long, .long, .double, .double, .boolean]
  resolved := Array.replicate 460 none
  statics := none }

def pool18 : Array CpInfo := pool [(1, .methodref 2 3), (0, .class_ 4), (0, .nameAndType 5 6), (0, u "java/lang/Object"), (0, u "<init>"), (0, u "()V"), (0, .class_ 8), (0, u "java/lang/Record")] 13

def k18c0 : Code := { maxStack := 1, maxLocals := 1, code := jdk_30_method_1_code, exceptionTable := #[], attributes := #[] }
def k18m0 : Method := { name := "<init>", desc := "()V", sig := { parameters := [], returnType := none }, accessFlags := 4, code := some k18c0 }
/-- java/lang/Record -/
def k18 : Class := { plain "java/lang/Record" (some 0) with
  accessFlags := 1057
  interfaces := #[]
  cf := some (fileOf pool18 7 #[] #[{ accessFlags := 4, nameIndex := 5, descriptorIndex := 6, attributes := #[] }] 1057 2 #[] #[])
  fields := #[]
  methods := #[k18m0]
  instanceTypes := #[]
  staticTypes := #[]
  resolved := Array.replicate 22 none
  statics := none }

def pool19 : Array CpInfo := pool [(1, .methodref 2 3), (0, .class_ 4), (0, .nameAndType 5 6), (0, u "java/lang/Record"), (0, u "<init>"), (0, u "()V"), (0, .fieldref 8 9), (0, .class_ 10), (0, .nameAndType 11 12), (0, u "com/example/tarifa/tarifa/pricing/SessionMenu"), (0, u "prices"), (0, u "Ljava/util/List;"), (0, .fieldref 8 14), (0, .nameAndType 15 12), (0, u "acceptanceRates"), (0, .fieldref 8 17), (0, .nameAndType 18 12), (0, u "stateProbabilities"), (0, .fieldref 8 20), (0, .nameAndType 21 22), (0, u "revenue"), (0, u "D"), (4, .interfaceMethodref 28 29), (0, .class_ 30), (0, .nameAndType 31 32), (0, u "java/util/List"), (0, u "size"), (0, u "()I"), (0, .interfaceMethodref 28 34), (0, .nameAndType 35 36), (0, u "get"), (0, u "(I)Ljava/lang/Object;"), (0, .class_ 38), (0, u "java/lang/Double"), (0, .methodref 37 40), (0, .nameAndType 41 42), (0, u "doubleValue"), (0, u "()D"), (38, u "(Ljava/util/List;Ljava/util/List;Ljava/util/List;D)V"), (45, u "blockingProbability")] 36

def k19c0 : Code := { maxStack := 3, maxLocals := 6, code := prog_16_method_1_code, exceptionTable := #[], attributes := #[] }
def k19m0 : Method := { name := "<init>", desc := "(Ljava/util/List;Ljava/util/List;Ljava/util/List;D)V", sig := { parameters := [(.object "java/util/List"), (.object "java/util/List"), (.object "java/util/List"), .double], returnType := none }, accessFlags := 1, code := some k19c0 }
def k19c1 : Code := { maxStack := 3, maxLocals := 1, code := prog_16_method_5_code, exceptionTable := #[], attributes := #[] }
def k19m1 : Method := { name := "blockingProbability", desc := "()D", sig := { parameters := [], returnType := some .double }, accessFlags := 1, code := some k19c1 }
/-- com/example/tarifa/tarifa/pricing/SessionMenu -/
def k19 : Class := { plain "com/example/tarifa/tarifa/pricing/SessionMenu" (some 18) with
  accessFlags := 49
  interfaces := #[]
  cf := some (fileOf pool19 8 #[] #[{ accessFlags := 1, nameIndex := 5, descriptorIndex := 81, attributes := #[] }, { accessFlags := 1, nameIndex := 127, descriptorIndex := 42, attributes := #[] }] 49 2 #[] #[{ accessFlags := 18, nameIndex := 11, descriptorIndex := 12, attributes := #[] }, { accessFlags := 18, nameIndex := 15, descriptorIndex := 12, attributes := #[] }, { accessFlags := 18, nameIndex := 18, descriptorIndex := 12, attributes := #[] }, { accessFlags := 18, nameIndex := 21, descriptorIndex := 22, attributes := #[] }])
  fields := #[{ name := "prices", type := (.object "java/util/List"), accessFlags := 18, slot := 0, constantValue := 0 }, { name := "acceptanceRates", type := (.object "java/util/List"), accessFlags := 18, slot := 1, constantValue := 0 }, { name := "stateProbabilities", type := (.object "java/util/List"), accessFlags := 18, slot := 2, constantValue := 0 }, { name := "revenue", type := .double, accessFlags := 18, slot := 3, constantValue := 0 }]
  methods := #[k19m0, k19m1]
  instanceTypes := #[(.object "java/util/List"), (.object "java/util/List"), (.object "java/util/List"), .double]
  staticTypes := #[]
  resolved := Array.replicate 164 none
  statics := none }

def pool20 : Array CpInfo := pool [(2, .class_ 4), (1, u "java/lang/Object"), (0, u "<init>"), (0, u "()V"), (35, .class_ 44), (1, u "java/util/Objects"), (60, .methodref 106 107), (0, .class_ 108), (0, .nameAndType 109 110), (0, u "jdk/internal/util/Preconditions"), (0, u "checkIndex"), (0, u "(IILjava/util/function/BiFunction;)I"), (60, u "(II)I")] 12

def k20m0 : Method := { name := "<init>", desc := "()V", sig := { parameters := [], returnType := none }, accessFlags := 2, code := none }
def k20c1 : Code := { maxStack := 3, maxLocals := 2, code := jdk_31_method_17_code, exceptionTable := #[], attributes := #[] }
def k20m1 : Method := { name := "checkIndex", desc := "(II)I", sig := { parameters := [.int, .int], returnType := some .int }, accessFlags := 9, code := some k20c1 }
/-- java/util/Objects -/
def k20 : Class := { plain "java/util/Objects" (some 0) with
  accessFlags := 49
  interfaces := #[]
  cf := some (fileOf pool20 42 #[] #[{ accessFlags := 2, nameIndex := 5, descriptorIndex := 6, attributes := #[] }, { accessFlags := 9, nameIndex := 109, descriptorIndex := 171, attributes := #[] }] 49 2 #[] #[])
  fields := #[]
  methods := #[k20m0, k20m1]
  instanceTypes := #[]
  staticTypes := #[]
  resolved := Array.replicate 184 none
  statics := none }

def pool21 : Array CpInfo := pool [(2, .class_ 4), (1, u "java/lang/Object"), (0, u "<init>"), (0, u "()V"), (17, .class_ 26), (1, u "jdk/internal/util/Preconditions"), (6, u "checkIndex"), (21, .class_ 56), (0, u "jdk/internal/util/Preconditions$4"), (57, .class_ 115), (0, u "jdk/internal/util/Preconditions$1"), (7, u "SIOOBE_FORMATTER"), (0, u "Ljava/util/function/BiFunction;"), (0, .class_ 126), (0, u "jdk/internal/util/Preconditions$2"), (3, u "AIOOBE_FORMATTER"), (0, .class_ 132), (0, u "jdk/internal/util/Preconditions$3"), (3, u "IOOBE_FORMATTER"), (41, u "(IILjava/util/function/BiFunction;)I")] 15

def k21m0 : Method := { name := "<init>", desc := "()V", sig := { parameters := [], returnType := none }, accessFlags := 1, code := none }
def k21c1 : Code := { maxStack := 3, maxLocals := 3, code := jdk_41_method_11_code, exceptionTable := #[], attributes := #[] }
def k21m1 : Method := { name := "checkIndex", desc := "(IILjava/util/function/BiFunction;)I", sig := { parameters := [.int, .int, (.object "java/util/function/BiFunction")], returnType := some .int }, accessFlags := 9, code := some k21c1 }
/-- jdk/internal/util/Preconditions -/
def k21 : Class := { plain "jdk/internal/util/Preconditions" (some 0) with
  accessFlags := 33
  interfaces := #[]
  cf := some (fileOf pool21 24 #[.nestMembers #[55, 131, 125, 114]] #[{ accessFlags := 1, nameIndex := 5, descriptorIndex := 6, attributes := #[] }, { accessFlags := 9, nameIndex := 33, descriptorIndex := 178, attributes := #[] }] 33 2 #[] #[{ accessFlags := 25, nameIndex := 123, descriptorIndex := 124, attributes := #[] }, { accessFlags := 25, nameIndex := 130, descriptorIndex := 124, attributes := #[] }, { accessFlags := 25, nameIndex := 136, descriptorIndex := 124, attributes := #[] }])
  fields := #[{ name := "SIOOBE_FORMATTER", type := (.object "java/util/function/BiFunction"), accessFlags := 25, slot := 0, constantValue := 0 }, { name := "AIOOBE_FORMATTER", type := (.object "java/util/function/BiFunction"), accessFlags := 25, slot := 1, constantValue := 0 }, { name := "IOOBE_FORMATTER", type := (.object "java/util/function/BiFunction"), accessFlags := 25, slot := 2, constantValue := 0 }]
  methods := #[k21m0, k21m1]
  instanceTypes := #[]
  staticTypes := #[(.object "java/util/function/BiFunction"), (.object "java/util/function/BiFunction"), (.object "java/util/function/BiFunction")]
  resolved := Array.replicate 194 none
  statics := none }

/-- the primitive byte -/
def k22 : Class := { plain "byte" none with kind := .primitive 'B', accessFlags := 0x411 }
/-- [B -/
def k23 : Class := { plain "[B" (some 0) with kind := .array 22 .byte, interfaces := #[9, 10], accessFlags := 1041 }

/-- the primitive int -/
def k24 : Class := { plain "int" none with kind := .primitive 'I', accessFlags := 0x411 }
/-- [I -/
def k25 : Class := { plain "[I" (some 0) with kind := .array 24 .int, interfaces := #[9, 10], accessFlags := 1041 }

/-- [Ljava/lang/Object; -/
def k26 : Class := { plain "[Ljava/lang/Object;" (some 0) with kind := .array 0 (.object "java/lang/Object"), interfaces := #[9, 10], accessFlags := 1041 }

def heap : Heap := #[{ cls := 11, slots := #[.long 0, .int 0, .ref 1, .ref 2], vm := .statics 11 },
  { cls := 26, slots := #[], vm := .none },
  { cls := 26, slots := #[], vm := .none }]
def classes : Array Class := #[k0, k1, k2, k3, k4, k5, k6, k7, k8, k9, k10, k11, k12, k13, k14, k15, k16, k17, k18, k19, k20, k21, k22, k23, k24, k25, k26]
def interned : List (Array UInt16 × Addr) := []
def slotsUsed : Nat := 4
def theMethod : MethodId := ⟨1, 1⟩
def args0 : Array Value := #[.int 5, .int 5, .int 5, .int 5, .int 5, .int 5]
def aboutOver (below : List Frame) : State where
  vm := { classes := classes, interned := interned.toArray }
  heap := heap
  slotsUsed := slotsUsed
  threads := #[{ frames := .invoking theMethod args0 :: below }]
def below0 : List Frame := [.native { method := ⟨0, 0⟩, args := #[] }]
def about1 : State := aboutOver below0
def p0 : Program := .bare "" "" ""
def e0 : Env := launch0.env 0 0 0
theorem w_frames : about1.frames = Frame.invoking theMethod args0 :: below0 := rfl
set_option maxRecDepth 65536 in
theorem w_args : argsFit about1.vm theMethod args0 = true := by decide +kernel
set_option maxRecDepth 65536 in
theorem w_heap : heapFits about1 = true := by decide +kernel
set_option maxRecDepth 65536 in
theorem w_runnable : about1.curStatus? = some .runnable := by decide +kernel
set_option maxRecDepth 65536 in
theorem w_alone : about1.alone = true := by decide +kernel
set_option maxRecDepth 65536 in
theorem w_named : about1.methodNamed? x = some theMethod := by decide +kernel
set_option maxRecDepth 65536 in
theorem w_hears : about1.hears theMethod below0 = true := by decide +kernel
set_option maxRecDepth 65536 in
theorem w_ripe : about1.ripe theMethod args0 below0 = true := by decide +kernel
theorem w_running : about1.status = .running := rfl
set_option maxRecDepth 65536 in
theorem w_room : about1.hasRoom e0.platform room_1 = true :=
  launch0.hasRoom_least _ room_1 (by decide +kernel) (by decide +kernel) (by decide +kernel) (by decide +kernel) (by decide +kernel) (by decide +kernel)
theorem allAtoms_all (ts : List Jvm.Cond) (a : Array Jvm.Value) (st : Jvm.State) : (allAtoms ts).before a st = ts.all (fun c => c.before a st) := by
  induction ts with
  | nil => rfl
  | cons c t ih =>
    show (Jvm.Cond.and c (allAtoms t)).before a st = _
    rw [Jvm.Cond.before_and, ih, List.all_cons]
def words1 : List Jvm.Cond := Jvm.Cond.code x code maxLocals ret :: tables_1
/-- a 'code' word, met by the world's own term for the bytes: nothing is compared byte by byte -/
theorem code_word {y : MethodName} {bytes : ByteArray} {mx : Nat} {rt : Option FieldType} {a : Array Value} {s : State} {m : MethodId} {meth : Method} {c : Code} (h1 : s.methodNamed? y = some m) (h2 : s.vm.method? m = some meth) (h3 : meth.code = some c) (h4 : c.code = bytes)
    (h5 : (c.maxLocals == mx && c.exceptionTable.isEmpty && decide (c.maxStack ≤ mostOperands) && decide (meth.sig.returnType = rt) && !meth.locks && decide (parseMethodDescriptor y.desc = some meth.sig)) = true) : (Jvm.Cond.code y bytes mx rt).before a s = true := by
  simp only [Bool.and_eq_true, beq_iff_eq, Bool.not_eq_true', decide_eq_true_eq] at h5
  obtain ⟨⟨⟨⟨⟨g1, g2⟩, g3⟩, g4⟩, g5⟩, g6⟩ := h5
  simp [Cond.before, Cond.holds, Cond.value, h1, h2, h3, h4, g1, g2, g3, g4, g5, g6]
def isCode : Jvm.Cond → Bool
  | .code _ _ _ _ => true
  | _ => false
theorem all_split {L : List Jvm.Cond} {P : Jvm.Cond → Bool} (h1 : L.all (fun c => isCode c || P c) = true) (h2 : ∀ c ∈ L.filter isCode, P c = true) : L.all P = true := by
  refine List.all_eq_true.mpr fun c hc => ?_
  have h := List.all_eq_true.mp h1 c hc
  rcases Bool.eq_false_or_eq_true (isCode c) with hi | hi
  · exact h2 c (List.mem_filter.mpr ⟨hc, hi⟩)
  · simpa [hi] using h
set_option maxRecDepth 65536 in
theorem w_c0 : (Jvm.Cond.code x code maxLocals ret).before args0 about1 = true := code_word (m := ⟨1, 1⟩) (meth := k1m1) (c := k1c1) (by decide +kernel) rfl rfl rfl (by decide +kernel)
set_option maxRecDepth 65536 in
theorem w_c1 : (Jvm.Cond.code ({ cls := "java/util/ArrayList", name := "<init>", desc := "()V" } : Jvm.MethodName) jdk_38_method_2_code (1 : Nat) (Option.none : Option Jvm.ClassFile.FieldType)).before args0 about1 = true := code_word (m := ⟨11, 0⟩) (meth := k11m0) (c := k11c0) (by decide +kernel) rfl rfl rfl (by decide +kernel)
set_option maxRecDepth 65536 in
theorem w_c2 : (Jvm.Cond.code ({ cls := "java/util/AbstractList", name := "<init>", desc := "()V" } : Jvm.MethodName) jdk_39_method_1_code (1 : Nat) (Option.none : Option Jvm.ClassFile.FieldType)).before args0 about1 = true := code_word (m := ⟨7, 0⟩) (meth := k7m0) (c := k7c0) (by decide +kernel) rfl rfl rfl (by decide +kernel)
set_option maxRecDepth 65536 in
theorem w_c3 : (Jvm.Cond.code ({ cls := "java/util/AbstractCollection", name := "<init>", desc := "()V" } : Jvm.MethodName) jdk_22_method_1_code (1 : Nat) (Option.none : Option Jvm.ClassFile.FieldType)).before args0 about1 = true := code_word (m := ⟨4, 0⟩) (meth := k4m0) (c := k4c0) (by decide +kernel) rfl rfl rfl (by decide +kernel)
set_option maxRecDepth 65536 in
theorem w_c4 : (Jvm.Cond.code ({ cls := "java/lang/Object", name := "<init>", desc := "()V" } : Jvm.MethodName) object_method_1_code (1 : Nat) (Option.none : Option Jvm.ClassFile.FieldType)).before args0 about1 = true := code_word (m := ⟨0, 0⟩) (meth := k0m0) (c := k0c0) (by decide +kernel) rfl rfl rfl (by decide +kernel)
set_option maxRecDepth 65536 in
theorem w_c5 : (Jvm.Cond.code ({ cls := "java/lang/Double", name := "valueOf", desc := "(D)Ljava/lang/Double;" } : Jvm.MethodName) jdk_117_method_4_code (2 : Nat) (Option.some (Jvm.ClassFile.FieldType.object "java/lang/Double"))).before args0 about1 = true := code_word (m := ⟨16, 0⟩) (meth := k16m0) (c := k16c0) (by decide +kernel) rfl rfl rfl (by decide +kernel)
set_option maxRecDepth 65536 in
theorem w_c6 : (Jvm.Cond.code ({ cls := "java/lang/Double", name := "<init>", desc := "(D)V" } : Jvm.MethodName) jdk_117_method_9_code (3 : Nat) (Option.none : Option Jvm.ClassFile.FieldType)).before args0 about1 = true := code_word (m := ⟨16, 1⟩) (meth := k16m1) (c := k16c1) (by decide +kernel) rfl rfl rfl (by decide +kernel)
set_option maxRecDepth 65536 in
theorem w_c7 : (Jvm.Cond.code ({ cls := "java/lang/Number", name := "<init>", desc := "()V" } : Jvm.MethodName) jdk_18_method_1_code (1 : Nat) (Option.none : Option Jvm.ClassFile.FieldType)).before args0 about1 = true := code_word (m := ⟨12, 0⟩) (meth := k12m0) (c := k12c0) (by decide +kernel) rfl rfl rfl (by decide +kernel)
set_option maxRecDepth 65536 in
theorem w_c8 : (Jvm.Cond.code ({ cls := "java/util/ArrayList", name := "add", desc := "(Ljava/lang/Object;)Z" } : Jvm.MethodName) jdk_38_method_25_code (2 : Nat) (Option.some Jvm.ClassFile.FieldType.boolean)).before args0 about1 = true := code_word (m := ⟨11, 7⟩) (meth := k11m7) (c := k11c7) (by decide +kernel) rfl rfl rfl (by decide +kernel)
set_option maxRecDepth 65536 in
theorem w_c9 : (Jvm.Cond.code ({ cls := "java/util/ArrayList", name := "add", desc := "(Ljava/lang/Object;[Ljava/lang/Object;I)V" } : Jvm.MethodName) jdk_38_method_24_code (4 : Nat) (Option.none : Option Jvm.ClassFile.FieldType)).before args0 about1 = true := code_word (m := ⟨11, 6⟩) (meth := k11m6) (c := k11c6) (by decide +kernel) rfl rfl rfl (by decide +kernel)
set_option maxRecDepth 65536 in
theorem w_c10 : (Jvm.Cond.code ({ cls := "java/util/ArrayList", name := "grow", desc := "()[Ljava/lang/Object;" } : Jvm.MethodName) jdk_38_method_7_code (1 : Nat) (Option.some (Jvm.ClassFile.FieldType.array (Jvm.ClassFile.FieldType.object "java/lang/Object")))).before args0 about1 = true := code_word (m := ⟨11, 2⟩) (meth := k11m2) (c := k11c2) (by decide +kernel) rfl rfl rfl (by decide +kernel)
set_option maxRecDepth 65536 in
theorem w_c11 : (Jvm.Cond.code ({ cls := "java/util/ArrayList", name := "grow", desc := "(I)[Ljava/lang/Object;" } : Jvm.MethodName) jdk_38_method_6_code (4 : Nat) (Option.some (Jvm.ClassFile.FieldType.array (Jvm.ClassFile.FieldType.object "java/lang/Object")))).before args0 about1 = true := code_word (m := ⟨11, 1⟩) (meth := k11m1) (c := k11c1) (by decide +kernel) rfl rfl rfl (by decide +kernel)
set_option maxRecDepth 65536 in
theorem w_c12 : (Jvm.Cond.code ({ cls := "java/lang/Math", name := "max", desc := "(II)I" } : Jvm.MethodName) jdk_29_method_65_code (2 : Nat) (Option.some Jvm.ClassFile.FieldType.int)).before args0 about1 = true := code_word (m := ⟨17, 1⟩) (meth := k17m1) (c := k17c1) (by decide +kernel) rfl rfl rfl (by decide +kernel)
set_option maxRecDepth 65536 in
theorem w_c13 : (Jvm.Cond.code ({ cls := "com/example/tarifa/tarifa/pricing/SessionMenu", name := "<init>", desc := "(Ljava/util/List;Ljava/util/List;Ljava/util/List;D)V" } : Jvm.MethodName) prog_16_method_1_code (6 : Nat) (Option.none : Option Jvm.ClassFile.FieldType)).before args0 about1 = true := code_word (m := ⟨19, 0⟩) (meth := k19m0) (c := k19c0) (by decide +kernel) rfl rfl rfl (by decide +kernel)
set_option maxRecDepth 65536 in
theorem w_c14 : (Jvm.Cond.code ({ cls := "java/lang/Record", name := "<init>", desc := "()V" } : Jvm.MethodName) jdk_30_method_1_code (1 : Nat) (Option.none : Option Jvm.ClassFile.FieldType)).before args0 about1 = true := code_word (m := ⟨18, 0⟩) (meth := k18m0) (c := k18c0) (by decide +kernel) rfl rfl rfl (by decide +kernel)
set_option maxRecDepth 65536 in
theorem w_c15 : (Jvm.Cond.code ({ cls := "com/example/tarifa/tarifa/pricing/SessionMenu", name := "blockingProbability", desc := "()D" } : Jvm.MethodName) prog_16_method_5_code (1 : Nat) (Option.some Jvm.ClassFile.FieldType.double)).before args0 about1 = true := code_word (m := ⟨19, 1⟩) (meth := k19m1) (c := k19c1) (by decide +kernel) rfl rfl rfl (by decide +kernel)
set_option maxRecDepth 65536 in
theorem w_c16 : (Jvm.Cond.code ({ cls := "java/util/ArrayList", name := "size", desc := "()I" } : Jvm.MethodName) jdk_38_method_8_code (1 : Nat) (Option.some Jvm.ClassFile.FieldType.int)).before args0 about1 = true := code_word (m := ⟨11, 3⟩) (meth := k11m3) (c := k11c3) (by decide +kernel) rfl rfl rfl (by decide +kernel)
set_option maxRecDepth 65536 in
theorem w_c17 : (Jvm.Cond.code ({ cls := "java/util/ArrayList", name := "get", desc := "(I)Ljava/lang/Object;" } : Jvm.MethodName) jdk_38_method_20_code (2 : Nat) (Option.some (Jvm.ClassFile.FieldType.object "java/lang/Object"))).before args0 about1 = true := code_word (m := ⟨11, 5⟩) (meth := k11m5) (c := k11c5) (by decide +kernel) rfl rfl rfl (by decide +kernel)
set_option maxRecDepth 65536 in
theorem w_c18 : (Jvm.Cond.code ({ cls := "java/util/Objects", name := "checkIndex", desc := "(II)I" } : Jvm.MethodName) jdk_31_method_17_code (2 : Nat) (Option.some Jvm.ClassFile.FieldType.int)).before args0 about1 = true := code_word (m := ⟨20, 1⟩) (meth := k20m1) (c := k20c1) (by decide +kernel) rfl rfl rfl (by decide +kernel)
set_option maxRecDepth 65536 in
theorem w_c19 : (Jvm.Cond.code ({ cls := "jdk/internal/util/Preconditions", name := "checkIndex", desc := "(IILjava/util/function/BiFunction;)I" } : Jvm.MethodName) jdk_41_method_11_code (3 : Nat) (Option.some Jvm.ClassFile.FieldType.int)).before args0 about1 = true := code_word (m := ⟨21, 1⟩) (meth := k21m1) (c := k21c1) (by decide +kernel) rfl rfl rfl (by decide +kernel)
set_option maxRecDepth 65536 in
theorem w_c20 : (Jvm.Cond.code ({ cls := "java/util/ArrayList", name := "elementData", desc := "(I)Ljava/lang/Object;" } : Jvm.MethodName) jdk_38_method_18_code (2 : Nat) (Option.some (Jvm.ClassFile.FieldType.object "java/lang/Object"))).before args0 about1 = true := code_word (m := ⟨11, 4⟩) (meth := k11m4) (c := k11c4) (by decide +kernel) rfl rfl rfl (by decide +kernel)
set_option maxRecDepth 65536 in
theorem w_c21 : (Jvm.Cond.code ({ cls := "java/lang/Double", name := "doubleValue", desc := "()D" } : Jvm.MethodName) jdk_117_method_19_code (1 : Nat) (Option.some Jvm.ClassFile.FieldType.double)).before args0 about1 = true := code_word (m := ⟨16, 2⟩) (meth := k16m2) (c := k16c2) (by decide +kernel) rfl rfl rfl (by decide +kernel)
def codes1 : List Jvm.Cond := [Jvm.Cond.code x code maxLocals ret, Jvm.Cond.code ({ cls := "java/util/ArrayList", name := "<init>", desc := "()V" } : Jvm.MethodName) jdk_38_method_2_code (1 : Nat) (Option.none : Option Jvm.ClassFile.FieldType), Jvm.Cond.code ({ cls := "java/util/AbstractList", name := "<init>", desc := "()V" } : Jvm.MethodName) jdk_39_method_1_code (1 : Nat) (Option.none : Option Jvm.ClassFile.FieldType), Jvm.Cond.code ({ cls := "java/util/AbstractCollection", name := "<init>", desc := "()V" } : Jvm.MethodName) jdk_22_method_1_code (1 : Nat) (Option.none : Option Jvm.ClassFile.FieldType), Jvm.Cond.code ({ cls := "java/lang/Object", name := "<init>", desc := "()V" } : Jvm.MethodName) object_method_1_code (1 : Nat) (Option.none : Option Jvm.ClassFile.FieldType), Jvm.Cond.code ({ cls := "java/lang/Double", name := "valueOf", desc := "(D)Ljava/lang/Double;" } : Jvm.MethodName) jdk_117_method_4_code (2 : Nat) (Option.some (Jvm.ClassFile.FieldType.object "java/lang/Double")), Jvm.Cond.code ({ cls := "java/lang/Double", name := "<init>", desc := "(D)V" } : Jvm.MethodName) jdk_117_method_9_code (3 : Nat) (Option.none : Option Jvm.ClassFile.FieldType), Jvm.Cond.code ({ cls := "java/lang/Number", name := "<init>", desc := "()V" } : Jvm.MethodName) jdk_18_method_1_code (1 : Nat) (Option.none : Option Jvm.ClassFile.FieldType), Jvm.Cond.code ({ cls := "java/util/ArrayList", name := "add", desc := "(Ljava/lang/Object;)Z" } : Jvm.MethodName) jdk_38_method_25_code (2 : Nat) (Option.some Jvm.ClassFile.FieldType.boolean), Jvm.Cond.code ({ cls := "java/util/ArrayList", name := "add", desc := "(Ljava/lang/Object;[Ljava/lang/Object;I)V" } : Jvm.MethodName) jdk_38_method_24_code (4 : Nat) (Option.none : Option Jvm.ClassFile.FieldType), Jvm.Cond.code ({ cls := "java/util/ArrayList", name := "grow", desc := "()[Ljava/lang/Object;" } : Jvm.MethodName) jdk_38_method_7_code (1 : Nat) (Option.some (Jvm.ClassFile.FieldType.array (Jvm.ClassFile.FieldType.object "java/lang/Object"))), Jvm.Cond.code ({ cls := "java/util/ArrayList", name := "grow", desc := "(I)[Ljava/lang/Object;" } : Jvm.MethodName) jdk_38_method_6_code (4 : Nat) (Option.some (Jvm.ClassFile.FieldType.array (Jvm.ClassFile.FieldType.object "java/lang/Object"))), Jvm.Cond.code ({ cls := "java/lang/Math", name := "max", desc := "(II)I" } : Jvm.MethodName) jdk_29_method_65_code (2 : Nat) (Option.some Jvm.ClassFile.FieldType.int), Jvm.Cond.code ({ cls := "com/example/tarifa/tarifa/pricing/SessionMenu", name := "<init>", desc := "(Ljava/util/List;Ljava/util/List;Ljava/util/List;D)V" } : Jvm.MethodName) prog_16_method_1_code (6 : Nat) (Option.none : Option Jvm.ClassFile.FieldType), Jvm.Cond.code ({ cls := "java/lang/Record", name := "<init>", desc := "()V" } : Jvm.MethodName) jdk_30_method_1_code (1 : Nat) (Option.none : Option Jvm.ClassFile.FieldType), Jvm.Cond.code ({ cls := "com/example/tarifa/tarifa/pricing/SessionMenu", name := "blockingProbability", desc := "()D" } : Jvm.MethodName) prog_16_method_5_code (1 : Nat) (Option.some Jvm.ClassFile.FieldType.double), Jvm.Cond.code ({ cls := "java/util/ArrayList", name := "size", desc := "()I" } : Jvm.MethodName) jdk_38_method_8_code (1 : Nat) (Option.some Jvm.ClassFile.FieldType.int), Jvm.Cond.code ({ cls := "java/util/ArrayList", name := "get", desc := "(I)Ljava/lang/Object;" } : Jvm.MethodName) jdk_38_method_20_code (2 : Nat) (Option.some (Jvm.ClassFile.FieldType.object "java/lang/Object")), Jvm.Cond.code ({ cls := "java/util/Objects", name := "checkIndex", desc := "(II)I" } : Jvm.MethodName) jdk_31_method_17_code (2 : Nat) (Option.some Jvm.ClassFile.FieldType.int), Jvm.Cond.code ({ cls := "jdk/internal/util/Preconditions", name := "checkIndex", desc := "(IILjava/util/function/BiFunction;)I" } : Jvm.MethodName) jdk_41_method_11_code (3 : Nat) (Option.some Jvm.ClassFile.FieldType.int), Jvm.Cond.code ({ cls := "java/util/ArrayList", name := "elementData", desc := "(I)Ljava/lang/Object;" } : Jvm.MethodName) jdk_38_method_18_code (2 : Nat) (Option.some (Jvm.ClassFile.FieldType.object "java/lang/Object")), Jvm.Cond.code ({ cls := "java/lang/Double", name := "doubleValue", desc := "()D" } : Jvm.MethodName) jdk_117_method_19_code (1 : Nat) (Option.some Jvm.ClassFile.FieldType.double)]
set_option maxRecDepth 65536 in
theorem codes_eq : words1.filter isCode = codes1 := rfl
theorem w_codes : ∀ c ∈ words1.filter isCode, c.before args0 about1 = true := by
  rw [codes_eq]
  intro c hc
  simp only [codes1, List.mem_cons, List.not_mem_nil, or_false] at hc
  rcases hc with rfl | rfl | rfl | rfl | rfl | rfl | rfl | rfl | rfl | rfl | rfl | rfl | rfl | rfl | rfl | rfl | rfl | rfl | rfl | rfl | rfl | rfl
  · exact w_c0
  · exact w_c1
  · exact w_c2
  · exact w_c3
  · exact w_c4
  · exact w_c5
  · exact w_c6
  · exact w_c7
  · exact w_c8
  · exact w_c9
  · exact w_c10
  · exact w_c11
  · exact w_c12
  · exact w_c13
  · exact w_c14
  · exact w_c15
  · exact w_c16
  · exact w_c17
  · exact w_c18
  · exact w_c19
  · exact w_c20
  · exact w_c21
set_option maxRecDepth 65536 in
theorem w_t1 : (words1.take 24).all (fun c => isCode c || c.before args0 about1) = true := by decide +kernel
set_option maxRecDepth 65536 in
theorem w_t2 : ((words1.drop 24).take 24).all (fun c => isCode c || c.before args0 about1) = true := by decide +kernel
set_option maxRecDepth 65536 in
theorem w_t3 : (((words1.drop 24).drop 24).take 24).all (fun c => isCode c || c.before args0 about1) = true := by decide +kernel
set_option maxRecDepth 65536 in
theorem w_t4 : ((((words1.drop 24).drop 24).drop 24).take 24).all (fun c => isCode c || c.before args0 about1) = true := by decide +kernel
set_option maxRecDepth 65536 in
theorem w_t5 : (((((words1.drop 24).drop 24).drop 24).drop 24).take 24).all (fun c => isCode c || c.before args0 about1) = true := by decide +kernel
set_option maxRecDepth 65536 in
theorem w_t6 : (((((words1.drop 24).drop 24).drop 24).drop 24).drop 24).all (fun c => isCode c || c.before args0 about1) = true := by decide +kernel
theorem w_tables : (allAtoms (Jvm.Cond.code x code maxLocals ret :: tables_1)).before args0 about1 = true := by
  rw [allAtoms_all]
  show words1.all (fun c => c.before args0 about1) = true
  refine all_split ?_ w_codes
  rw [← List.take_append_drop 24 words1, List.all_append, w_t1, ← List.take_append_drop 24 (words1.drop 24), List.all_append, w_t2, ← List.take_append_drop 24 ((words1.drop 24).drop 24), List.all_append, w_t3, ← List.take_append_drop 24 (((words1.drop 24).drop 24).drop 24), List.all_append, w_t4, ← List.take_append_drop 24 ((((words1.drop 24).drop 24).drop 24).drop 24), List.all_append, w_t5, w_t6]
  rfl
set_option maxRecDepth 65536 in
theorem w_rest : rest_1_c.before args0 about1 = true := by decide +kernel
set_option maxRecDepth 65536 in
theorem w_case : (Jvm.Cond.and given_1 narrow_1).before args0 about1 = true := by decide +kernel
theorem w_applies : (headSpec (Jvm.Cond.code x code maxLocals ret :: tables_1) room_1).applies x e0.platform about1 = true :=
  (Spec.applies_iff w_frames).mpr ⟨w_running, w_runnable, w_alone, w_named, w_hears, w_ripe, w_room, w_tables⟩
theorem atStart : AtStart classFile x code maxLocals ret World_1 tables_1 room_1 Calls_1 rest_1 Pre_1 launch0 p0 e0 about1 theMethod args0 below0 :=
  ⟨lists_1, trivial, launch0.admits_env _ _ _, launch0.least_env, fairChoices_fair.cas, fairChoices_fair.clock, w_frames, w_args, w_heap, w_applies, trivial, w_rest, w_case⟩
end start1
theorem witness_1 : WitnessClaimed_1 := ⟨start1.p0, start1.e0, start1.about1, start1.theMethod, start1.args0, start1.below0, start1.atStart⟩
end Jvm.Pilot.@@N@@
